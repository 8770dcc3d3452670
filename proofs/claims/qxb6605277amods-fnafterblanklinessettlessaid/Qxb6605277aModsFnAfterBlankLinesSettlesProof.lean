/-
  THE PROOF OF 'Rows.FnAfterBlankLinesSettlesSaid': the seat's shell (by program) with its walk filled; the callees' contracts: Qxb6605277aModsWalks, Qxb6605277aModsClone.
-/
import Derived.Test.Qxb6605277aModsRows
import Derived.Test.Qxb6605277aModsClone
import Derived.WalkKit
import Derived.ProofKit
import Derived.OpenShut
import Derived.ShutString
import Derived.ChangeOld
import Derived.Below
namespace Go.Proofs.Qxb6605277aMods.fnAfterBlankLinesSettles
open Go.Proofs.Qxb6605277aMods.Abl
open Go.ChangeShapes Go.WideShapes Go.ChangeAt Go.RowKit
open Go.ChangeMaps (open_string shut_string)
set_option linter.unusedVariables false

theorem own : ownKnob Trym.prog.godebug = none := by kernel_rfl
theorem laidOut : laidOutB Trym.prog = true := by kernel_rfl

/-- WHAT THE WALK IS TOLD OF A SLICE OF INTEGERS THAT CAME IN: it is nil; or it leads to a row of 'cap' cells, the numbers 'zs' (the first 'len' are its elements, the rest its spare room), each fitting its kind. -/
def IsRow (k : IntKind) (w : World) (a : Option Addr) (len cap : Nat) (zs : List Int) : Prop :=
  (a = none ∧ len = 0 ∧ cap = 0 ∧ zs = []) ∨
  ∃ x, a = some x ∧ len ≤ cap ∧ cap ≤ maxLen ∧ zs.length = cap ∧ (∀ i, i < zs.length → w.cell? (x.add i) = some (.int k (zs.getD i 0))) ∧ ∀ n ∈ zs, (Lit.int k n).wf = true

/-! ### STEP 1: THE WALK: the Go text returns true, AND WRITES NOTHING THAT WAS THERE: 'Below w.heap.size w w'' (Derived/Below.lean: '.refl', '.alloc', '.drew', '.setCell' at a new block, '.trans'). Open each 'IsRow' by 'rcases' AHEAD of 'go_enter'; part every test ahead of the walk. -/
theorem settle {zs : List Int} {len p q : Nat} (h : Done zs len p) (hb : Blank zs p q) (h1 : p ≤ q) (h2 : q ≤ len) : q = p := by
  rcases Nat.lt_or_ge p q with hlt | hge
  · rcases hb p (Nat.le_refl _) hlt with g | ⟨g, l⟩
    · have := h.1 (by omega); rw [this] at g; cases g
    · have := h.2 (by omega); rw [this] at g; cases g
  · omega

theorem last {zs : List Int} {o p : Nat} (hb : Blank zs o p) (h : o < p) : nl zs (p - 1) = true := by
  rcases hb (p - 1) (by omega) (by omega) with g | ⟨_, l⟩
  · exact g
  · omega

set_option maxHeartbeats 2000000 in
theorem walk (a0 : Option Addr) (len0 cap0 : Nat) (z0 : List Int) (a1 : Int) (w : World) (w0 : IsRow .u8 w a0 len0 cap0 z0) (w1 : (Lit.int .i64 a1).wf = true) :
    Calls Trym.prog 4 #[.slice a0 len0 cap0, .int .i64 a1] w fun e w' => e = .returned (.bool true) ∧ Below w.heap.size w w' := by
  have hb1 := bounds_i64 w1
  have hn : a0 = none → len0 = 0 ∧ cap0 = 0 := by
    rcases w0 with ⟨_, h1, h2, _⟩ | ⟨x, rfl, _⟩
    · exact fun _ => ⟨h1, h2⟩
    · exact fun h => by cases h
  have hd : Abl.Data w a0 len0 z0 := by
    rcases w0 with ⟨_, h1, h2, _⟩ | ⟨x, rfl, h1, _, h3, h4, h5⟩
    · exact .inl h1
    · exact data_of w x len0 cap0 z0 h1 h3 h4 (fun n hn => bounds_u8 (h5 n hn))
  have hm : len0 ≤ maxLen := by
    rcases w0 with ⟨_, h1, h2, _⟩ | ⟨x, rfl, h1, h2, _⟩
    · rw [h1]; exact Nat.zero_le _
    · exact Nat.le_trans h1 h2
  clear w0 w1
  have hm' : len0 ≤ 9223372036854775807 := hm
  have HM := hide hm
  have HN := hide hn
  have HD := hide hd
  clear hm hn hd
  by_cases h20 : len0 ≤ 1048576
  · have hdec : decide (len0 ≤ 1048576) = true := decide_eq_true h20
    by_cases hlo : 0 ≤ a1
    · by_cases hhi : a1 ≤ len0
      · obtain ⟨off, rfl⟩ : ∃ n : Nat, a1 = n := ⟨a1.toNat, by omega⟩
        clear hlo
        go_enter Trym.func4, Trym.ntmps4
        go_wp2_with (first | (go_at_call 8; refine (bytes_any8 _ _ _ _ _ HM.out).mono ?_; rintro e w' ⟨rfl, rfl⟩))
        refine (clone_any _ _ _ z0 _ h20 HN.out HD.out).mono ?_
        rintro e u1 ⟨a', rfl, hbel1, hd1⟩
        replace hbel1 := hide hbel1
        replace hd1 := hide hd1
        go_wp2_with fail
        refine (zz_any a' len0 off z0 _ h20 (by omega) hd1.out).mono ?_
        rintro e u2 ⟨p, rfl, hp1, hp2, hbl, hdn, hbel2⟩
        have hd2 := hide (hd1.out.below hbel2)
        have fin := hide (hbel1.out.trans (hbel2.mono hbel1.out.size))
        replace hbl := hide hbl
        replace hdn := hide hdn
        clear hd1 hbel1 hbel2 HD HN HM
        by_cases hmv : off < p
        · have hlast := last hbl.out hmv
          obtain ⟨b, o, rfl, _, hcell⟩ := hd2.out.resolve_left (by omega)
          have hcl := (hcell (p - 1) (by omega)).1
          rw [nl_fst hlast] at hcl
          clear hlast
          have hc := (hcell off (by omega)).1
          rcases hbl.out off (Nat.le_refl _) hmv with h | ⟨h, hip⟩
          · rw [nl_fst h] at hc
            clear h
            by_cases hl1 : off + 1 < len0
            · clear hcell
              go_wp2_with fail
              refine (zz_any _ len0 p z0 _ h20 hp2 hd2.out).mono ?_
              rintro e u3 ⟨p', rfl, hq1, hq2, hbl', _, hbel3⟩
              obtain rfl : p' = p := settle hdn.out hbl' hq1 hq2
              replace fin := hide (fin.out.trans (hbel3.mono fin.out.size))
              clear hbl' hbel3
              go_wp2
              go_ret
              exact ⟨rfl, fin.out⟩
            · clear hcell
              go_wp2_with fail
              refine (zz_any _ len0 p z0 _ h20 hp2 hd2.out).mono ?_
              rintro e u3 ⟨p', rfl, hq1, hq2, hbl', _, hbel3⟩
              obtain rfl : p' = p := settle hdn.out hbl' hq1 hq2
              replace fin := hide (fin.out.trans (hbel3.mono fin.out.size))
              clear hbl' hbel3
              go_wp2
              go_ret
              exact ⟨rfl, fin.out⟩
          · have hc1 := (hcell (off + 1) (by omega)).1
            rw [crnl_fst h] at hc
            rw [nl_fst (crnl_snd h)] at hc1
            clear h hcell
            go_wp2_with fail
            refine (zz_any _ len0 p z0 _ h20 hp2 hd2.out).mono ?_
            rintro e u3 ⟨p', rfl, hq1, hq2, hbl', _, hbel3⟩
            obtain rfl : p' = p := settle hdn.out hbl' hq1 hq2
            replace fin := hide (fin.out.trans (hbel3.mono fin.out.size))
            clear hbl' hbel3
            go_wp2
            go_ret
            exact ⟨rfl, fin.out⟩
        · obtain rfl : p = off := by omega
          by_cases hl : p < len0
          · obtain ⟨b, o, rfl, _, hcell⟩ := hd2.out.resolve_left (by omega)
            have hc := (hcell p (by omega)).1
            have hz := hdn.out.1 hl
            unfold nl at hz
            by_cases hl1 : p + 1 < len0
            · have hc1 := (hcell (p + 1) (by omega)).1
              have hy := hdn.out.2 hl1
              unfold crnl at hy
              clear hcell
              generalize z0.getD p 0 = z at hc hz hy
              generalize z0.getD (p + 1) 0 = y at hc1 hy
              cases hz13 : (z == 13)
              · clear hy
                go_wp2_with fail
                refine (zz_any _ len0 p z0 _ h20 hp2 hd2.out).mono ?_
                rintro e u3 ⟨p', rfl, hq1, hq2, hbl', _, hbel3⟩
                obtain rfl : p' = p := settle hdn.out hbl' hq1 hq2
                replace fin := hide (fin.out.trans (hbel3.mono fin.out.size))
                clear hbl' hbel3
                go_wp2
                go_ret
                exact ⟨rfl, fin.out⟩
              · rw [hz13, Bool.true_and] at hy
                go_wp2_with fail
                refine (zz_any _ len0 p z0 _ h20 hp2 hd2.out).mono ?_
                rintro e u3 ⟨p', rfl, hq1, hq2, hbl', _, hbel3⟩
                obtain rfl : p' = p := settle hdn.out hbl' hq1 hq2
                replace fin := hide (fin.out.trans (hbel3.mono fin.out.size))
                clear hbl' hbel3
                go_wp2
                go_ret
                exact ⟨rfl, fin.out⟩
            · clear hcell
              generalize z0.getD p 0 = z at hc hz
              go_wp2_with fail
              refine (zz_any _ len0 p z0 _ h20 hp2 hd2.out).mono ?_
              rintro e u3 ⟨p', rfl, hq1, hq2, hbl', _, hbel3⟩
              obtain rfl : p' = p := settle hdn.out hbl' hq1 hq2
              replace fin := hide (fin.out.trans (hbel3.mono fin.out.size))
              clear hbl' hbel3
              go_wp2
              go_ret
              exact ⟨rfl, fin.out⟩
          · go_wp2_with fail
            refine (zz_any _ len0 p z0 _ h20 hp2 hd2.out).mono ?_
            rintro e u3 ⟨p', rfl, hq1, hq2, hbl', _, hbel3⟩
            obtain rfl : p' = p := settle hdn.out hbl' hq1 hq2
            replace fin := hide (fin.out.trans (hbel3.mono fin.out.size))
            clear hbl' hbel3
            go_wp2
            go_ret
            exact ⟨rfl, fin.out⟩
      · go_enter Trym.func4, Trym.ntmps4
        go_wp2_with (first | (go_at_call 8; refine (bytes_any8 _ _ _ _ _ HM.out).mono ?_; rintro e w' ⟨rfl, rfl⟩))
        go_ret
        exact ⟨rfl, Below.refl _ _⟩
    · go_enter Trym.func4, Trym.ntmps4
      go_wp2_with (first | (go_at_call 8; refine (bytes_any8 _ _ _ _ _ HM.out).mono ?_; rintro e w' ⟨rfl, rfl⟩))
      go_ret
      exact ⟨rfl, Below.refl _ _⟩
  · have hdec : decide (len0 ≤ 1048576) = false := decide_eq_false h20
    go_enter Trym.func4, Trym.ntmps4
    go_wp2_with (first | (go_at_call 8; refine (bytes_any8 _ _ _ _ _ HM.out).mono ?_; rintro e w' ⟨rfl, rfl⟩))
    go_ret
    exact ⟨rfl, Below.refl _ _⟩

/-! ### THE ROW's STEP: WRITTEN OUT: LEAVE IT -/
set_option maxRecDepth 100000 in
theorem lifted (os : Os) (started : os.Started) (H : Type) (enc : TypeId × Value → H) :
    ReturnsInHanded {} Trym.checked os 4 .any (Rows.fnAfterBlankLinesSettlesSpec.pre6 enc Trym.prog Trym.f4 Rows.fnAfterBlankLinesSettlesRow.domain false) (Rows.fnAfterBlankLinesSettlesSpec.post enc Trym.prog Trym.f4 false true false false) := by
  refine returnsInHanded_of_change (C := Trym.checked) own started (by kernel_rfl) Trym.func4
    (ChangeSpec.witness6 (enc := enc) (C := Trym.checked) false ⟨#[], #[.slice none 0 0, .int .i64 0], []⟩ 8 (by kernel_rfl) (by kernel_rfl) (by kernel_rfl) (by kernel_rfl)) ?_
  intro W base args ds gs before hval0 hW hcnd _
  have hval : ∀ (j : Nat) t v, Trym.f4.params[j]? = some t → args[j]? = some v → Value.okWide Trym.prog W .any base t v := hval0
  have hW' := hW
  obtain ⟨p, q, hA0, hV, rfl, hfz, hnd⟩ := hW
  have hA : DataW.TrodAll enc Trym.prog W 0 (fun _ => true) true Trym.f4.params.toList args.toList ds p := hA0
  rw [Trym.params4] at hA hval
  obtain ⟨v0, vs0, d0, ds0, p0, q0, hargs, rfl, rfl, h0, r0⟩ := trodAll_cons hA
  obtain ⟨v1, vs1, d1, ds1, p1, q1, rfl, rfl, rfl, h1, r1⟩ := trodAll_cons r0
  obtain ⟨rfl, rfl, rfl⟩ := trodAll_nil r1
  obtain rfl : args = #[v0, v1] := by cases args; simp_all
  obtain ⟨rfl, rfl⟩ := trodVars_none hV
  obtain ⟨a0, len0, cap0, rfl⟩ := okWide_slice Trym.underlying22 (hval 0 22 v0 rfl rfl)
  have k0 := h0
  have lt0 : ∀ x ∈ p0, x.block < W.heap.size := by obtain ⟨m, hm⟩ := k0; exact DataW.trod_lt m _ _ _ hm
  obtain ⟨z0, w0⟩ : ∃ zs, IsRow .u8 W a0 len0 cap0 zs := by
    obtain ⟨fuel, hf⟩ := h0
    rcases open_ints Trym.underlying22 Trym.underlying5 (by kernel_rfl) hf with ⟨hcs, _⟩ | ⟨x, l, c, zs, hcs, _, hl, hm, hz, _, hcell, hwz⟩
    · simp [Value.cells] at hcs
      obtain ⟨rfl, rfl, rfl⟩ := hcs
      exact ⟨[], .inl ⟨rfl, rfl, rfl, rfl⟩⟩
    · simp [Value.cells] at hcs
      obtain ⟨rfl, rfl, rfl⟩ := hcs
      exact ⟨zs, .inr ⟨_, rfl, hl, hm, by simpa using hz, hcell, hwz⟩⟩
  obtain ⟨a1, rfl, rfl, rfl, w1⟩ := open_int Trym.underlying3 (hval 1 3 v1 rfl rfl) h1
  clear hA0 hval0
  refine (walk a0 len0 cap0 z0 a1 W w0 w1).mono fun e W' ⟨he, bel⟩ => ?_
  subst he
  exact ⟨_, rfl, _, _, _, [], _, [], hW', trodAll_mk1 (shut_bool Trym.underlying4 _), (trodAll_cons_mk (Below.trod laidOut (by kernel_rfl) (of_decide_eq_true (by kernel_rfl)) k0 bel lt0) (trodAll_cons_mk (shut_int Trym.underlying3 w1) trodAll_mk0)), rfl, bel.frame _, fun h => by cases h⟩

theorem over : Rows.fnAfterBlankLinesSettlesRow.holds Trym.pinned (OpenSpec.ofChange Rows.fnAfterBlankLinesSettlesSpec) :=
  OpenClaim.holds_of_wide 4 Trym.f4 rfl rfl rfl rfl rfl rfl rfl ⟨rfl, rfl, rfl, rfl, rfl⟩ rfl rfl rfl rfl rfl (by kernel_rfl) Trym.func4 (by kernel_rfl)
    (of_decide_eq_true (by kernel_rfl)) (by unfold Func.isWrapper; first | (rw [if_pos (by decide +kernel)]; kernel_rfl) | (rw [if_neg (by decide +kernel)]; exact ⟨rfl, rfl⟩))
    (fun os started H enc _ => lifted os started H enc)

/-- ████ THE STATEMENT ████ -/
theorem proved : Rows.FnAfterBlankLinesSettlesSaid := over
#print axioms proved
end Go.Proofs.Qxb6605277aMods.fnAfterBlankLinesSettles
