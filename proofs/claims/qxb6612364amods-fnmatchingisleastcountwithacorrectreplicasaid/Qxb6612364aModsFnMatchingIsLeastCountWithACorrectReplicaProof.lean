/-
  THE PROOF OF 'Rows.FnMatchingIsLeastCountWithACorrectReplicaSaid': the seat's shell (by program) with its walk filled.
-/
import Derived.Test.Qxb6612364aModsRows
import Derived.WalkKit
import Derived.Outline
import Derived.ProofKit
import Derived.OpenShut
import Derived.ShutString
namespace Go.Proofs.Qxb6612364aMods.fnMatchingIsLeastCountWithACorrectReplica
open Go.ChangeShapes Go.WideShapes Go.ChangeAt Go.RowKit
open Go.ChangeMaps (open_string shut_string)
set_option linter.unusedVariables false      -- a walk need not use every 'w<i>' (that an integer argument fits its kind)

theorem own : ownKnob Trym.prog.godebug = none := by kernel_rfl

/-! ### STEP 1: THE WALK: the Go text returns true. 'Grown w w'': the world has at most new blocks (Derived/RowKit3.lean). Part the cases AHEAD of 'go_enter' where a test parts the walk; take each callee by a contract of your own. -/
theorem ret_bool {a b : Bool} (h : a = b) : Ending.returned (.bool a) = .returned (.bool b) := by rw [h]

theorem grown_trans {a b c : World} (h : Grown a b) (g : Grown b c) : Grown a c :=
  ⟨World.keptBut_trans h.1 g.1, fun x => (g.2.1 x).trans (h.2.1 x), Nat.le_trans h.2.2 g.2.2⟩

set_option maxHeartbeats 400000 in
/-- ZZnewTolerance. -/
theorem new_any (x y : Int) (w : World) :
    Calls Trym.prog 8 #[.int .i64 x, .int .i64 y] w fun e w' => e = .returned (.agg #[.int .i64 x, .int .i64 y]) ∧ Grown w w' := by
  go_enter Trym.func8, Trym.ntmps8
  go_wp2
  exact bodyPost_ret (v := .agg #[.int .i64 x, .int .i64 y]) (by simp [results, Trym.results8, go_sem]) rfl ⟨rfl, (Grown.refl _).alloc _ _⟩

set_option maxHeartbeats 400000 in
/-- Matching. -/
theorem matching_any (x y : Int) (w : World) (h0 : 0 ≤ y) (h1 : y < 9223372036854775807) :
    Calls Trym.prog 9 #[.agg #[.int .i64 x, .int .i64 y]] w fun e w' => e = .returned (.int .i64 (y + 1)) ∧ Grown w w' := by
  go_enter Trym.func9, Trym.ntmps9
  go_wp2
  go_ret
  exact ⟨rfl, (Grown.refl _).alloc _ _⟩

set_option maxHeartbeats 1000000 in
theorem walk (a0 : Int) (a1 : Int) (w0 : (Lit.int .i64 a0).wf = true) (w1 : (Lit.int .i64 a1).wf = true) (w : World) :
    Calls Trym.prog 4 #[.int .i64 a0, .int .i64 a1] w fun e w' => e = .returned (.bool true) ∧ Grown w w' := by
  obtain ⟨l0, g0⟩ := bounds_i64 w0
  obtain ⟨l1, g1⟩ := bounds_i64 w1
  clear w0 w1
  by_cases hr : a0 < 1
  · go_enter Trym.func4, Trym.ntmps4
    go_wp2
    go_ret
    exact ⟨rfl, Grown.refl _⟩
  · by_cases hf : a1 < 0
    · go_enter Trym.func4, Trym.ntmps4
      go_wp2
      go_ret
      exact ⟨rfl, Grown.refl _⟩
    · by_cases hq : (a0 - 1) / 3 < a1
      · go_enter Trym.func4, Trym.ntmps4
        go_wp2
        go_ret
        exact ⟨rfl, Grown.refl _⟩
      · go_enter Trym.func4, Trym.ntmps4
        go_wp2_with fail
        refine (new_any a0 a1 _).mono ?_
        rintro e u1 ⟨rfl, hg1⟩
        have HG1 : Hid (Grown w u1) := hg1
        clear hg1
        go_wp2_with fail
        refine (matching_any a0 a1 _ hf (by omega)).mono ?_
        rintro e u2 ⟨rfl, hg2⟩
        have HG2 : Hid (Grown u1 u2) := hg2
        clear hg2
        go_wp2
        go_ret
        exact ⟨ret_bool (decide_eq_true (by omega)), grown_trans HG1.out HG2.out⟩

/-! ### THE ROW's STEP: WRITTEN OUT: LEAVE IT -/
set_option maxRecDepth 100000 in
theorem lifted (os : Os) (started : os.Started) (H : Type) (enc : TypeId × Value → H) :
    ReturnsInHanded {} Trym.checked os 4 .any (Rows.fnMatchingIsLeastCountWithACorrectReplicaSpec.pre6 enc Trym.prog Trym.f4 Rows.fnMatchingIsLeastCountWithACorrectReplicaRow.domain false) (Rows.fnMatchingIsLeastCountWithACorrectReplicaSpec.post enc Trym.prog Trym.f4 false true false false) := by
  refine returnsInHanded_of_change (C := Trym.checked) own started (by kernel_rfl) Trym.func4
    (ChangeSpec.witness6 (enc := enc) (C := Trym.checked) false ⟨#[], #[.int .i64 0, .int .i64 0], []⟩ 8 (by kernel_rfl) (by kernel_rfl) (by kernel_rfl) (by kernel_rfl)) ?_
  intro W base args ds gs before hval0 hW hcnd _
  have hval : ∀ (j : Nat) t v, Trym.f4.params[j]? = some t → args[j]? = some v → Value.okWide Trym.prog W .any base t v := hval0
  have hW' := hW
  obtain ⟨p, q, hA0, hV, rfl, hfz, hnd⟩ := hW
  have hA : DataW.TrodAll enc Trym.prog W 0 (fun _ => true) true Trym.f4.params.toList args.toList ds p := hA0
  rw [Trym.params4] at hA hval
  obtain ⟨v0, vs0, d0, ds0, p0, q0, hargs, rfl, rfl, h0, r0⟩ := trodAll_cons hA
  obtain ⟨v1, vs1, d1, ds1, p1, q1, rfl, rfl, rfl, h1, r1⟩ := trodAll_cons r0
  obtain ⟨rfl, rfl, rfl⟩ := trodAll_nil r1
  obtain rfl : args = #[v0, v1] := by cases args; simp_all
  obtain ⟨rfl, rfl⟩ := trodVars_none hV
  obtain ⟨a0, rfl, rfl, rfl, w0⟩ := open_int Trym.underlying3 (hval 0 3 v0 rfl rfl) h0
  obtain ⟨a1, rfl, rfl, rfl, w1⟩ := open_int Trym.underlying3 (hval 1 3 v1 rfl rfl) h1
  clear hA0 hval0
  simp only [List.append_nil] at hW'
  refine (walk a0 a1 w0 w1 W).mono fun e W' ⟨he, hg⟩ => ?_
  subst he
  exact ⟨_, rfl, post_of_same (pa := []) (pv := []) hW' (fun _ _ _ => (trodAll_cons_mk (shut_bool Trym.underlying4 _) trodAll_mk0)) (fun sp _ => (trodAll_cons_mk (shut_int Trym.underlying3 w0) (trodAll_cons_mk (shut_int Trym.underlying3 w1) trodAll_mk0))) (fun _ _ => rfl) rfl
    (hg.frame _) hg.2.1 (ok_one (by kernel_rfl) rfl (okWide_bool_mk Trym.underlying4 _))⟩

theorem over : Rows.fnMatchingIsLeastCountWithACorrectReplicaRow.holds Trym.pinned (OpenSpec.ofChange Rows.fnMatchingIsLeastCountWithACorrectReplicaSpec) :=
  OpenClaim.holds_of_wide 4 Trym.f4 rfl rfl rfl rfl rfl rfl rfl ⟨rfl, rfl, rfl, rfl, rfl⟩ rfl rfl rfl rfl rfl (by kernel_rfl) Trym.func4 (by kernel_rfl)
    (of_decide_eq_true (by kernel_rfl)) (by unfold Func.isWrapper; first | (rw [if_pos (by decide +kernel)]; kernel_rfl) | (rw [if_neg (by decide +kernel)]; exact ⟨rfl, rfl⟩))
    (fun os started H enc _ => lifted os started H enc)

/-- ████ THE STATEMENT ████ -/
theorem proved : Rows.FnMatchingIsLeastCountWithACorrectReplicaSaid :=
  over
#print axioms proved
end Go.Proofs.Qxb6612364aMods.fnMatchingIsLeastCountWithACorrectReplica
