/-
  THE WALK OF 'streamBytes', AND WHAT ITS FLOATS STAND FOR.
-/
import Derived.Test.Qxb6609421aModsRows
import Derived.Test.Qxb6609421aModsFloat
import Derived.WalkKit
import Derived.WalkLawsBesides
import Derived.Laws.FloatArith
import Derived.Outline
namespace Go.Proofs.Qxb6609421aMods.Fl
open Go.RowKit

theorem hide {p : Prop} (h : p) : Hid p := h
theorem ret_bool {a b : Bool} (h : a = b) : Ending.returned (.bool a) = .returned (.bool b) := by rw [h]

/-- float64(n). -/
theorem rep_of (n : Int) (h : n.natAbs ≤ 2 ^ 64) : Rep (floatOfInt .f64 n) (fl (n * 2 ^ sp)) := rep_int n h

theorem eq_of_order (x y : Nat) (a b : Int) (hx : Rep x a) (hy : Rep y b) : (FloatKind.f64.format.order x y == some .eq) = decide (a = b) := by
  have : FloatKind.f64.format.order x y = some (compare a b) := rep_order x y a b hx hy
  rw [this, Bool.eq_iff_iff]
  simp

theorem lt_of_order (x y : Nat) (a b : Int) (hx : Rep x a) (hy : Rep y b) : (FloatKind.f64.format.order x y == some .lt) = decide (a < b) := by
  have : FloatKind.f64.format.order x y = some (compare a b) := rep_order x y a b hx hy
  rw [this, Bool.eq_iff_iff]
  simp [Int.compare_eq_lt]

/-- What streamBytes gives, in least places. -/
def str (h v : Int) : Int := fl (fl (v * 2 ^ sp) + fl (h * 2 ^ sp))

theorem scaled_bound_at (n : Int) (k : Nat) (h : n.natAbs ≤ 2 ^ 63) : (n * 2 ^ k).natAbs ≤ 2 ^ (52 + (11 + k)) := by
  rw [Int.natAbs_mul, Int.natAbs_pow, show 52 + (11 + k) = 63 + k from by omega, Nat.pow_add]
  exact Nat.mul_le_mul_right _ h

theorem scaled_bound (n : Int) (h : n.natAbs ≤ 2 ^ 63) : (n * 2 ^ sp).natAbs ≤ 2 ^ (52 + (11 + sp)) := scaled_bound_at n sp h

theorem two_more (k : Nat) : 2 ^ (52 + (12 + k)) = 2 ^ (52 + (11 + k)) + 2 ^ (52 + (11 + k)) := by
  rw [show 52 + (12 + k) = 52 + (11 + k) + 1 from by omega, Nat.pow_succ]; omega

theorem sum_bound (x y : Int) (k : Nat) (a : x.natAbs ≤ 2 ^ (52 + (11 + k))) (b : y.natAbs ≤ 2 ^ (52 + (11 + k))) : (x + y).natAbs ≤ 2 ^ (52 + (12 + k)) := by
  rw [two_more]; omega

theorem stream_sum (h v : Int) (h0 : -9223372036854775808 ≤ h) (h1 : h ≤ 9223372036854775807) (v0 : -9223372036854775808 ≤ v) (v1 : v ≤ 9223372036854775807) :
    ∃ r, floatBits .add .f64 (floatOfInt .f64 v) (floatOfInt .f64 h) = some r ∧ Rep r (str h v) := by
  have a := fl_bound _ _ (scaled_bound v (by omega))
  have b := fl_bound _ _ (scaled_bound h (by omega))
  refine rep_add _ _ _ _ (rep_of v (by omega)) (rep_of h (by omega)) (12 + sp) ?_ (by show 12 + 1074 + 1 < 2047; decide)
  exact sum_bound _ _ sp a b

theorem fl_exact_at (n : Int) (k : Nat) (hk : 52 ≤ k) (h : n.natAbs ≤ 2 ^ 52) : fl (n * 2 ^ k) = n * 2 ^ k := by
  have e := flN_exact n.natAbs k h hk
  have a : (n * 2 ^ k).natAbs = n.natAbs * 2 ^ k := by rw [Int.natAbs_mul, Int.natAbs_pow]; rfl
  unfold fl
  rw [a, e, ← a]
  exact sv_natAbs _

theorem str_zero (h : Int) : str h 0 = fl (h * 2 ^ sp) := by
  unfold str; rw [Int.zero_mul, fl_zero, Int.zero_add, fl_fl]

theorem str_exact (h v : Int) (hh : h.natAbs ≤ 2 ^ 52) (hv : v.natAbs ≤ 2 ^ 52) : str h v = fl ((h + v) * 2 ^ sp) := by
  unfold str
  rw [fl_exact_at v sp (by decide) hv, fl_exact_at h sp (by decide) hh, ← Int.add_mul, Int.add_comm]

theorem scaled_mono_at (a b : Int) (k : Nat) (h : a ≤ b) : a * 2 ^ k ≤ b * 2 ^ k := Int.mul_le_mul_of_nonneg_right h (Int.le_of_lt (Int.pow_pos (by decide)))

theorem scaled_nonneg_at (a : Int) (k : Nat) (h : 0 ≤ a) : 0 ≤ a * 2 ^ k := Int.mul_nonneg h (Int.le_of_lt (Int.pow_pos (by decide)))

theorem str_mono (h a b : Int) (hab : a ≤ b) : str h a ≤ str h b := by
  unfold str
  exact fl_mono _ _ (Int.add_le_add_right (fl_mono _ _ (scaled_mono_at a b sp hab)) _)

theorem str_head (h v : Int) (hv : 0 ≤ v) : fl (h * 2 ^ sp) ≤ str h v := by
  have := str_mono h 0 v hv
  rwa [str_zero] at this

theorem str_value (h v : Int) (hh : 0 ≤ h) : fl (v * 2 ^ sp) ≤ str h v := by
  unfold str
  have a := fl_nonneg _ (scaled_nonneg_at h sp hh)
  have b := fl_mono _ _ (show fl (v * 2 ^ sp) ≤ fl (v * 2 ^ sp) + fl (h * 2 ^ sp) from Int.le_add_of_nonneg_right a)
  rwa [fl_fl] at b

set_option maxHeartbeats 400000 in
/-- streamBytes. -/
theorem stream_any (h v : Int) (w : World) (h0 : -9223372036854775808 ≤ h) (h1 : h ≤ 9223372036854775807) (v0 : -9223372036854775808 ≤ v) (v1 : v ≤ 9223372036854775807) :
    Calls Trym.prog 16 #[.int .i64 h, .int .i64 v] w fun e w' => ∃ r, e = .returned (.float .f64 r) ∧ Rep r (str h (max v 0)) ∧ w' = w := by
  by_cases hv : v < 0
  · rw [show max v 0 = 0 from by omega]
    obtain ⟨r, hr, hrep⟩ := stream_sum h 0 h0 h1 (by omega) (by omega)
    have hrun := fun (w : World) (t : TypeId) => run_float_arith (P := Trym.prog) w .add t .f64 _ _ r hr
    clear hr
    replace hrep := hide hrep
    go_enter Trym.func16, Trym.ntmps16
    go_wp2
    go_ret
    exact ⟨r, rfl, hrep.out, rfl⟩
  · rw [show max v 0 = v from by omega]
    obtain ⟨r, hr, hrep⟩ := stream_sum h v h0 h1 (by omega) (by omega)
    have hrun := fun (w : World) (t : TypeId) => run_float_arith (P := Trym.prog) w .add t .f64 _ _ r hr
    clear hr
    replace hrep := hide hrep
    go_enter Trym.func16, Trym.ntmps16
    go_wp2
    go_ret
    exact ⟨r, rfl, hrep.out, rfl⟩

set_option maxHeartbeats 400000 in
/-- ZZstreamBytes. -/
theorem zz_any (h v : Int) (w : World) (h0 : -9223372036854775808 ≤ h) (h1 : h ≤ 9223372036854775807) (v0 : -9223372036854775808 ≤ v) (v1 : v ≤ 9223372036854775807) :
    Calls Trym.prog 6 #[.int .i64 h, .int .i64 v] w fun e w' => ∃ r, e = .returned (.float .f64 r) ∧ Rep r (str h (max v 0)) ∧ w' = w := by
  go_enter Trym.func6, Trym.ntmps6
  go_wp2_with fail
  refine (stream_any h v _ h0 h1 v0 v1).mono ?_
  rintro e w' ⟨r, rfl, hrep, rfl⟩
  replace hrep := hide hrep
  go_wp2
  go_ret
  exact ⟨r, rfl, hrep.out, rfl⟩

end Go.Proofs.Qxb6609421aMods.Fl
