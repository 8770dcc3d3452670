/-
  THE PROOF OF 'Rows.FnValidViewIDAcceptsMadeIDsSaid': the seat's shell (by program) with its walk filled; the callees' contracts: Qxb6604730aModsWalks, Qxb6604730aModsUtoa.
-/
import Derived.Test.Qxb6604730aModsRows
import Derived.Test.Qxb6604730aModsUtoa
import Derived.WalkKit
import Derived.ProofKit
import Derived.OpenShut
import Derived.ShutString
namespace Go.Proofs.Qxb6604730aMods.fnValidViewIDAcceptsMadeIDs
open Go.Proofs.Qxb6604730aMods.Ids
open Go.ChangeShapes Go.WideShapes Go.ChangeAt Go.RowKit
open Go.ChangeMaps (open_string shut_string)
set_option linter.unusedVariables false      -- a walk need not use every 'w<i>' (that an integer argument fits its kind)

theorem own : ownKnob Trym.prog.godebug = none := by kernel_rfl

/-! ### STEP 1: THE WALK: the Go text returns true. 'Grown w w'': the world has at most new blocks (Derived/RowKit3.lean). Part the cases AHEAD of 'go_enter' where a test parts the walk; take each callee by a contract of your own. -/
theorem grown_trans {a b c : World} (h : Grown a b) (g : Grown b c) : Grown a c :=
  ⟨World.keptBut_trans h.1 g.1, fun x => (g.2.1 x).trans (h.2.1 x), Nat.le_trans h.2.2 g.2.2⟩

theorem walk (a0 : ByteArray) (a1 : Int) (a2 : Int) (w0 : a0.size ≤ maxLen) (w1 : (Lit.int .u64 a1).wf = true) (w2 : (Lit.int .u64 a2).wf = true) (w : World) :
    Calls Trym.prog 4 #[.string a0, .int .u64 a1, .int .u64 a2] w fun e w' => e = .returned (.bool true) ∧ Grown w w' := by
  have b1 := bounds_u64 w1
  have b2 := bounds_u64 w2
  obtain ⟨b1l, b1h⟩ := b1
  obtain ⟨b2l, b2h⟩ := b2
  by_cases h20 : a0.size ≤ 1048576
  · have hd : decide (a0.size ≤ 1048576) = true := decide_eq_true h20
    go_enter Trym.func4, Trym.ntmps4
    go_wp2_with (first | (go_at_call 11; refine (bytes_any _ _ _ _ w0).mono ?_; rintro e w' ⟨rfl, rfl⟩) | (go_at_call 12; refine (member_any _ _ w0).mono ?_; rintro e w' ⟨⟨b, rfl, hb⟩, rfl⟩; replace hb := hide hb))
    · go_ret
      exact ⟨rfl, Grown.refl _⟩
    · have hm := hb.out (not_false_bool (by assumption))
      have hm1 := hm.1
      have hm64 := hm.2.1
      have HI := hide (Id.member hm)
      clear hm hb
      refine (utoa_any _ _ b1l b1h).mono ?_
      rintro e u1 ⟨⟨s1, rfl, l1, g1, i1⟩, hg1⟩
      replace hg1 := hide hg1
      replace i1 := hide i1
      go_wp2_with fail
      refine (utoa_any _ _ b2l b2h).mono ?_
      rintro e u2 ⟨⟨s2, rfl, l2, g2, i2⟩, hg2⟩
      replace hg2 := hide hg2
      replace i2 := hide i2
      go_wp2_with fail
      have hid := hide ((((HI.out.append id_dot).append i1.out).append id_dot).append i2.out)
      have hsz : (a0 ++ { data := #[46] } ++ s1 ++ { data := #[46] } ++ s2).size = a0.size + 1 + s1.size + 1 + s2.size := by
        simp only [ByteArray.size_append]; rfl
      generalize a0 ++ { data := #[46] } ++ s1 ++ { data := #[46] } ++ s2 = s at hid hsz ⊢
      have hs1 : 1 ≤ s.size := by omega
      have hsm : s.size ≤ 1000 := by omega
      have hsx : s.size ≤ maxLen := by unfold maxLen; omega
      clear hsz
      have fin : Grown w' u2 := grown_trans hg1.out hg2.out
      replace fin := hide fin
      by_cases h96 : s.size ≤ 96
      · refine (zz_ok s _ hs1 h96 hid).mono ?_
        rintro e u3 ⟨rfl, rfl⟩
        go_wp2_with fail
        refine (zz_ok a0 _ hm1 (by omega) HI).mono ?_
        rintro e u4 ⟨rfl, rfl⟩
        go_wp2
        go_ret
        exact ⟨rfl, fin.out⟩
      · refine (zz_long s _ hsx (by omega)).mono ?_
        rintro e u3 ⟨rfl, rfl⟩
        go_wp2_with fail
        refine (zz_ok a0 _ hm1 (by omega) HI).mono ?_
        rintro e u4 ⟨rfl, rfl⟩
        go_wp2
        go_ret
        exact ⟨ret_bool (by rw [decide_eq_false (by omega)]; rfl), fin.out⟩
  · have hd : decide (a0.size ≤ 1048576) = false := decide_eq_false h20
    go_enter Trym.func4, Trym.ntmps4
    go_wp2_with (first | (go_at_call 11; refine (bytes_any _ _ _ _ w0).mono ?_; rintro e w' ⟨rfl, rfl⟩))
    go_ret
    exact ⟨rfl, Grown.refl _⟩

/-! ### THE ROW's STEP: WRITTEN OUT: LEAVE IT -/
set_option maxRecDepth 100000 in
theorem lifted (os : Os) (started : os.Started) (H : Type) (enc : TypeId × Value → H) :
    ReturnsInHanded {} Trym.checked os 4 .any (Rows.fnValidViewIDAcceptsMadeIDsSpec.pre6 enc Trym.prog Trym.f4 Rows.fnValidViewIDAcceptsMadeIDsRow.domain false) (Rows.fnValidViewIDAcceptsMadeIDsSpec.post enc Trym.prog Trym.f4 false true false false) := by
  refine returnsInHanded_of_change (C := Trym.checked) own started (by kernel_rfl) Trym.func4
    (ChangeSpec.witness6 (enc := enc) (C := Trym.checked) false ⟨#[], #[.string ByteArray.empty, .int .u64 0, .int .u64 0], []⟩ 8 (by kernel_rfl) (by kernel_rfl) (by kernel_rfl) (by kernel_rfl)) ?_
  intro W base args ds gs before hval0 hW hcnd _
  have hval : ∀ (j : Nat) t v, Trym.f4.params[j]? = some t → args[j]? = some v → Value.okWide Trym.prog W .any base t v := hval0
  have hW' := hW
  obtain ⟨p, q, hA0, hV, rfl, hfz, hnd⟩ := hW
  have hA : DataW.TrodAll enc Trym.prog W 0 (fun _ => true) true Trym.f4.params.toList args.toList ds p := hA0
  rw [Trym.params4] at hA hval
  obtain ⟨v0, vs0, d0, ds0, p0, q0, hargs, rfl, rfl, h0, r0⟩ := trodAll_cons hA
  obtain ⟨v1, vs1, d1, ds1, p1, q1, rfl, rfl, rfl, h1, r1⟩ := trodAll_cons r0
  obtain ⟨v2, vs2, d2, ds2, p2, q2, rfl, rfl, rfl, h2, r2⟩ := trodAll_cons r1
  obtain ⟨rfl, rfl, rfl⟩ := trodAll_nil r2
  obtain rfl : args = #[v0, v1, v2] := by cases args; simp_all
  obtain ⟨rfl, rfl⟩ := trodVars_none hV
  obtain ⟨a0, rfl, rfl, rfl, w0⟩ := open_string Trym.underlying9 (hval 0 9 v0 rfl rfl) h0
  obtain ⟨a1, rfl, rfl, rfl, w1⟩ := open_int Trym.underlying38 (hval 1 38 v1 rfl rfl) h1
  obtain ⟨a2, rfl, rfl, rfl, w2⟩ := open_int Trym.underlying38 (hval 2 38 v2 rfl rfl) h2
  clear hA0 hval0
  simp only [List.append_nil] at hW'
  refine (walk a0 a1 a2 w0 w1 w2 W).mono fun e W' ⟨he, hg⟩ => ?_
  subst he
  exact ⟨_, rfl, post_of_same (pa := []) (pv := []) hW' (fun _ _ _ => (trodAll_cons_mk (shut_bool Trym.underlying4 _) trodAll_mk0)) (fun sp _ => (trodAll_cons_mk (shut_string Trym.underlying9 w0) (trodAll_cons_mk (shut_int Trym.underlying38 w1) (trodAll_cons_mk (shut_int Trym.underlying38 w2) trodAll_mk0)))) (fun _ _ => rfl) rfl
    (hg.frame _) hg.2.1 (ok_one (by kernel_rfl) rfl (okWide_bool_mk Trym.underlying4 _))⟩

theorem over : Rows.fnValidViewIDAcceptsMadeIDsRow.holds Trym.pinned (OpenSpec.ofChange Rows.fnValidViewIDAcceptsMadeIDsSpec) :=
  OpenClaim.holds_of_wide 4 Trym.f4 rfl rfl rfl rfl rfl rfl rfl ⟨rfl, rfl, rfl, rfl, rfl⟩ rfl rfl rfl rfl rfl (by kernel_rfl) Trym.func4 (by kernel_rfl)
    (of_decide_eq_true (by kernel_rfl)) (by unfold Func.isWrapper; first | (rw [if_pos (by decide +kernel)]; kernel_rfl) | (rw [if_neg (by decide +kernel)]; exact ⟨rfl, rfl⟩))
    (fun os started H enc _ => lifted os started H enc)

/-- ████ THE STATEMENT ████ -/
theorem proved : Rows.FnValidViewIDAcceptsMadeIDsSaid :=
  over
#print axioms proved
end Go.Proofs.Qxb6604730aMods.fnValidViewIDAcceptsMadeIDs
