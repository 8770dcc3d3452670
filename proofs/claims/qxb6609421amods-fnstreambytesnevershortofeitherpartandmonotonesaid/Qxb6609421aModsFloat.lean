/-
  THE PLAIN MATHEMATICS OF 'double' OVER Ieee: rounding a whole number of least places to a rung is monotone, exact on what the format has, and so is the sum of two words. No Go in sight.
-/
import Ieee.Arith
namespace Go.Proofs.Qxb6609421aMods.Fl
open Ieee

/-- 'n / 2 ^ d' to the nearest whole number, ties to even. -/
def rhe (n d : Nat) : Nat := n / 2 ^ d + (decide (2 ^ d < 2 * (n % 2 ^ d)) || (2 ^ d == 2 * (n % 2 ^ d) && n / 2 ^ d % 2 == 1)).toNat

theorem bool_le_one (b : Bool) : b.toNat ≤ 1 := by cases b <;> decide

theorem rhe_zero (n : Nat) : rhe n 0 = n := by
  simp [rhe, Nat.mod_one]

theorem rhe_mul (n d : Nat) : rhe (n * 2 ^ d) d = n := by
  have h := Nat.two_pow_pos d
  have e : (2 ^ d == 0) = false := by simp
  simp [rhe, Nat.mul_div_cancel _ h]

theorem rhe_scale (n d k : Nat) : rhe (n * 2 ^ k) (d + k) = rhe n d := by
  have h := Nat.two_pow_pos k
  have e1 : n * 2 ^ k / 2 ^ (d + k) = n / 2 ^ d := by rw [Nat.pow_add, Nat.mul_div_mul_right _ _ h]
  have e2 : n * 2 ^ k % 2 ^ (d + k) = n % 2 ^ d * 2 ^ k := by rw [Nat.pow_add, Nat.mul_mod_mul_right]
  unfold rhe
  rw [e1, e2]
  have e3 : (2 ^ (d + k) < 2 * (n % 2 ^ d * 2 ^ k)) ↔ (2 ^ d < 2 * (n % 2 ^ d)) := by
    rw [Nat.pow_add, ← Nat.mul_assoc]; exact Nat.mul_lt_mul_right h
  have e4 : (2 ^ (d + k) = 2 * (n % 2 ^ d * 2 ^ k)) ↔ (2 ^ d = 2 * (n % 2 ^ d)) := by
    rw [Nat.pow_add, ← Nat.mul_assoc]; exact ⟨fun e => Nat.eq_of_mul_eq_mul_right h e, fun e => congrArg (· * 2 ^ k) e⟩
  have e5 : (2 ^ (d + k) == 2 * (n % 2 ^ d * 2 ^ k)) = (2 ^ d == 2 * (n % 2 ^ d)) := by
    rw [Bool.eq_iff_iff]; simp only [beq_iff_eq]; exact e4
  rw [e5]
  simp only [e3]

theorem rhe_le (n d : Nat) : n / 2 ^ d ≤ rhe n d ∧ rhe n d ≤ n / 2 ^ d + 1 := by
  unfold rhe
  have := bool_le_one (decide (2 ^ d < 2 * (n % 2 ^ d)) || (2 ^ d == 2 * (n % 2 ^ d) && n / 2 ^ d % 2 == 1))
  omega

theorem rhe_mono (n m d : Nat) (h : n ≤ m) : rhe n d ≤ rhe m d := by
  have hq : n / 2 ^ d ≤ m / 2 ^ d := Nat.div_le_div_right h
  by_cases e : n / 2 ^ d = m / 2 ^ d
  · have hr : n % 2 ^ d ≤ m % 2 ^ d := by
      have a := Nat.div_add_mod n (2 ^ d)
      have b := Nat.div_add_mod m (2 ^ d)
      rw [e] at a
      omega
    unfold rhe
    rw [e]
    refine Nat.add_le_add_left ?_ _
    generalize n % 2 ^ d = x at *
    generalize m % 2 ^ d = y at *
    generalize 2 ^ d = g at *
    generalize (m / g % 2 == 1) = o
    by_cases h1 : g < 2 * y
    · simp [h1, bool_le_one]
    · have h2 : ¬ g < 2 * x := by omega
      by_cases h3 : g = 2 * y
      · by_cases h4 : g = 2 * x
        · have h5 : x = y := by omega
          subst h5; exact Nat.le_refl _
        · have : (g == 2 * x) = false := by simp [h4]
          simp [h2, this]
      · have : (g == 2 * x) = false := by simp; omega
        simp [h2, this]
  · have a := (rhe_le n d).2
    have b := (rhe_le m d).1
    omega

/-- The rung nearest to 'n' least places (were there no infinity). -/
def rnd (n : Nat) : Nat := (n.log2 - 52) * 2 ^ 52 + rhe n (n.log2 - 52)

/-- What a rung stands for, in least places. -/
def val (r : Nat) : Nat := if r < 2 ^ 52 then r else (2 ^ 52 + r % 2 ^ 52) * 2 ^ (r / 2 ^ 52 - 1)

theorem rnd_zero : rnd 0 = 0 := by decide

theorem log2_bounds (n : Nat) (h : n ≠ 0) : 2 ^ n.log2 ≤ n ∧ n < 2 ^ (n.log2 + 1) := ⟨Nat.log2_self_le h, Nat.lt_log2_self⟩

theorem log2_eq (n k : Nat) (h1 : 2 ^ k ≤ n) (h2 : n < 2 ^ (k + 1)) : n.log2 = k := by
  have h0 : n ≠ 0 := by have := Nat.two_pow_pos k; omega
  have a : k ≤ n.log2 := (Nat.le_log2 h0).2 h1
  have b : n.log2 < k + 1 := (Nat.log2_lt h0).2 h2
  omega

theorem rnd_of (m e : Nat) (h1 : 2 ^ 52 ≤ m) (h2 : m < 2 ^ 53) : rnd (m * 2 ^ e) = e * 2 ^ 52 + m := by
  have hp := Nat.two_pow_pos e
  have a : (m * 2 ^ e).log2 = 52 + e := by
    refine log2_eq _ _ ?_ ?_
    · rw [Nat.pow_add]; exact Nat.mul_le_mul_right _ h1
    · rw [show 52 + e + 1 = 53 + e from by omega, Nat.pow_add]; exact Nat.mul_lt_mul_of_pos_right h2 hp
  unfold rnd
  rw [a, show 52 + e - 52 = e from by omega, rhe_mul]

theorem val_of (m e : Nat) (h1 : 2 ^ 52 ≤ m) (h2 : m < 2 ^ 53) : val (e * 2 ^ 52 + m) = m * 2 ^ e := by
  unfold val
  rw [if_neg (by omega)]
  have a : (e * 2 ^ 52 + m) / 2 ^ 52 - 1 = e := by omega
  have b : 2 ^ 52 + (e * 2 ^ 52 + m) % 2 ^ 52 = m := by omega
  rw [a, b]

theorem rnd_small (n : Nat) (h : n < 2 ^ 52) : rnd n = n := by
  by_cases h0 : n = 0
  · subst h0; exact rnd_zero
  · have : n.log2 < 52 := (Nat.log2_lt h0).2 h
    unfold rnd
    rw [show n.log2 - 52 = 0 from by omega, rhe_zero]; omega

theorem split_rung (r : Nat) (h : 2 ^ 52 ≤ r) : ∃ m e, 2 ^ 52 ≤ m ∧ m < 2 ^ 53 ∧ r = e * 2 ^ 52 + m := ⟨2 ^ 52 + r % 2 ^ 52, r / 2 ^ 52 - 1, by omega, by omega, by omega⟩

theorem rnd_val (r : Nat) : rnd (val r) = r := by
  by_cases h : r < 2 ^ 52
  · rw [show val r = r from if_pos h, rnd_small r h]
  · obtain ⟨m, e, h1, h2, rfl⟩ := split_rung r (by omega)
    rw [val_of m e h1 h2, rnd_of m e h1 h2]

theorem val_mono (r s : Nat) (h : r ≤ s) : val r ≤ val s := by
  by_cases hs : s < 2 ^ 52
  · rw [show val r = r from if_pos (by omega), show val s = s from if_pos hs]; exact h
  · obtain ⟨m, e, h1, h2, rfl⟩ := split_rung s (by omega)
    rw [val_of m e h1 h2]
    have hp := Nat.two_pow_pos e
    by_cases hr : r < 2 ^ 52
    · rw [show val r = r from if_pos hr]
      have : m * 1 ≤ m * 2 ^ e := Nat.mul_le_mul_left m hp
      omega
    · obtain ⟨m', e', h1', h2', rfl⟩ := split_rung r (by omega)
      rw [val_of m' e' h1' h2']
      by_cases he : e' = e
      · subst he; exact Nat.mul_le_mul_right _ (by omega)
      · have he' : e' + 1 ≤ e := by omega
        have a : m' * 2 ^ e' ≤ 2 ^ 53 * 2 ^ e' := Nat.mul_le_mul_right _ (by omega)
        have b : 2 ^ 53 * 2 ^ e' = 2 ^ 52 * 2 ^ (e' + 1) := by rw [← Nat.pow_add, ← Nat.pow_add]; congr 1; omega
        have c : 2 ^ 52 * 2 ^ (e' + 1) ≤ 2 ^ 52 * 2 ^ e := Nat.mul_le_mul_left _ (Nat.pow_le_pow_right (by omega) he')
        have d : 2 ^ 52 * 2 ^ e ≤ m * 2 ^ e := Nat.mul_le_mul_right _ h1
        omega

theorem log2_mono (n m : Nat) (h : n ≤ m) : n.log2 ≤ m.log2 := by
  by_cases h0 : n = 0
  · subst h0; simp
  · exact (Nat.le_log2 (by omega)).2 (Nat.le_trans (Nat.log2_self_le h0) h)

theorem rnd_mono (n m : Nat) (h : n ≤ m) : rnd n ≤ rnd m := by
  have hl := log2_mono n m h
  by_cases e : n.log2 - 52 = m.log2 - 52
  · unfold rnd; rw [e]; exact Nat.add_le_add_left (rhe_mono n m _ h) _
  · have hm : m ≠ 0 := by intro e0; subst e0; simp at e hl; omega
    have hlt : n.log2 - 52 + 1 ≤ m.log2 - 52 := by omega
    have up : n / 2 ^ (n.log2 - 52) < 2 ^ 53 := by
      refine Nat.div_lt_of_lt_mul ?_
      refine Nat.lt_of_lt_of_le (Nat.lt_log2_self) ?_
      rw [← Nat.pow_add]; exact Nat.pow_le_pow_right (by omega) (by omega)
    have dn : 2 ^ 52 ≤ m / 2 ^ (m.log2 - 52) := by
      refine (Nat.le_div_iff_mul_le (Nat.two_pow_pos _)).2 ?_
      rw [← Nat.pow_add, show 52 + (m.log2 - 52) = m.log2 from by omega]
      exact Nat.log2_self_le hm
    have a := (rhe_le n (n.log2 - 52)).2
    have b := (rhe_le m (m.log2 - 52)).1
    unfold rnd
    have c : (n.log2 - 52 + 1) * 2 ^ 52 ≤ (m.log2 - 52) * 2 ^ 52 := Nat.mul_le_mul_right _ hlt
    omega

theorem rnd_pow (j : Nat) : rnd (2 ^ (52 + j)) = (j + 1) * 2 ^ 52 := by
  rw [Nat.pow_add, rnd_of _ j (Nat.le_refl _) (by decide)]; omega

theorem rnd_lt (n j : Nat) (h : n ≤ 2 ^ (52 + j)) (hj : j + 1 < 2047) : rnd n < 2047 * 2 ^ 52 := by
  have a := rnd_mono _ _ h
  rw [rnd_pow] at a
  have b : (j + 1) * 2 ^ 52 < 2047 * 2 ^ 52 := Nat.mul_lt_mul_of_pos_right hj (by decide)
  omega

/-- Rounding, in least places. -/
def flN (n : Nat) : Nat := val (rnd n)

theorem flN_mono (n m : Nat) (h : n ≤ m) : flN n ≤ flN m := val_mono _ _ (rnd_mono _ _ h)
theorem flN_flN (n : Nat) : flN (flN n) = flN n := by unfold flN; rw [rnd_val]
theorem flN_zero : flN 0 = 0 := by decide

theorem flN_pow (j : Nat) : flN (2 ^ (52 + j)) = 2 ^ (52 + j) := by
  unfold flN
  rw [Nat.pow_add, rnd_of _ j (Nat.le_refl _) (by decide), val_of _ j (Nat.le_refl _) (by decide)]

/-- What has at most 53 digits, at a place of at least 52, is exact. -/
theorem flN_exact (n p : Nat) (h : n ≤ 2 ^ 52) (hp : 52 ≤ p) : flN (n * 2 ^ p) = n * 2 ^ p := by
  by_cases h0 : n = 0
  · subst h0; rw [Nat.zero_mul]; exact flN_zero
  · obtain ⟨a, b⟩ := log2_bounds n h0
    have c : n.log2 ≤ 52 := by
      have : n.log2 < 53 := (Nat.log2_lt h0).2 (by omega)
      omega
    have e : n * 2 ^ p = (n * 2 ^ (52 - n.log2)) * 2 ^ (p - 52 + n.log2) := by
      rw [Nat.mul_assoc, ← Nat.pow_add]; congr 2; omega
    have l1 : 2 ^ 52 ≤ n * 2 ^ (52 - n.log2) := by
      have : 2 ^ n.log2 * 2 ^ (52 - n.log2) ≤ n * 2 ^ (52 - n.log2) := Nat.mul_le_mul_right _ a
      rwa [← Nat.pow_add, show n.log2 + (52 - n.log2) = 52 from by omega] at this
    have l2 : n * 2 ^ (52 - n.log2) < 2 ^ 53 := by
      have : n * 2 ^ (52 - n.log2) < 2 ^ (n.log2 + 1) * 2 ^ (52 - n.log2) := Nat.mul_lt_mul_of_pos_right b (Nat.two_pow_pos _)
      rwa [← Nat.pow_add, show n.log2 + 1 + (52 - n.log2) = 53 from by omega] at this
    unfold flN
    rw [e, rnd_of _ _ l1 l2, val_of _ _ l1 l2]

/-- A magnitude with its sign. -/
def sv (neg : Bool) (n : Nat) : Int := if neg then -(n : Int) else (n : Int)

theorem sv_natAbs (z : Int) : sv (decide (z < 0)) z.natAbs = z := by
  unfold sv
  by_cases h : z < 0
  · rw [decide_eq_true h, if_pos rfl]; omega
  · rw [decide_eq_false h, if_neg (by decide)]; omega

/-- Rounding, with the sign. -/
def fl (z : Int) : Int := sv (decide (z < 0)) (flN z.natAbs)

theorem fl_pos (z : Int) (h : 0 ≤ z) : fl z = (flN z.natAbs : Int) := by
  unfold fl sv; rw [decide_eq_false (by omega), if_neg (by decide)]

theorem fl_neg (z : Int) (h : z ≤ 0) : fl z = -(flN z.natAbs : Int) := by
  by_cases e : z = 0
  · subst e; decide
  · unfold fl sv; rw [decide_eq_true (by omega), if_pos rfl]

theorem fl_mono (a b : Int) (h : a ≤ b) : fl a ≤ fl b := by
  by_cases ha : 0 ≤ a
  · rw [fl_pos a ha, fl_pos b (by omega)]
    have := flN_mono a.natAbs b.natAbs (by omega)
    omega
  · by_cases hb : 0 ≤ b
    · rw [fl_neg a (by omega), fl_pos b hb]; omega
    · rw [fl_neg a (by omega), fl_neg b (by omega)]
      have := flN_mono b.natAbs a.natAbs (by omega)
      omega

theorem fl_fl (a : Int) : fl (fl a) = fl a := by
  by_cases ha : 0 ≤ a
  · rw [fl_pos a ha, fl_pos _ (by omega), Int.natAbs_natCast, flN_flN]
  · rw [fl_neg a (by omega), fl_neg _ (by omega), Int.natAbs_neg, Int.natAbs_natCast, flN_flN]

theorem fl_zero : fl 0 = 0 := by decide

theorem fl_nonneg (a : Int) (h : 0 ≤ a) : 0 ≤ fl a := by rw [fl_pos a h]; omega

theorem fl_abs (a : Int) : (fl a).natAbs = flN a.natAbs := by
  by_cases ha : 0 ≤ a
  · rw [fl_pos a ha, Int.natAbs_natCast]
  · rw [fl_neg a (by omega), Int.natAbs_neg, Int.natAbs_natCast]

theorem fl_bound (a : Int) (j : Nat) (h : a.natAbs ≤ 2 ^ (52 + j)) : (fl a).natAbs ≤ 2 ^ (52 + j) := by
  rw [fl_abs]
  have := flN_mono _ _ h
  rwa [flN_pow] at this

/-! ### The words of Ieee -/

theorem lp_eq : double.leastPlace = -1074 := by decide
theorem binade_eq : double.binade = 2 ^ 52 := rfl
theorem inf_eq : double.infRung = 2047 * 2 ^ 52 := by decide
theorem sw_eq : double.signWeight = 2 ^ 63 := rfl

/-- 'x' is a word of 'double' that stands for 'z' least places. -/
def Rep (x : Nat) (z : Int) : Prop := ∃ neg m k, double.read x = .number neg m (-1074 + (k : Nat)) ∧ sv neg (m * 2 ^ k) = z

theorem rep_word (neg : Bool) (r : Nat) (h : r < 2047 * 2 ^ 52) : Rep (double.word neg r) (sv neg (val r)) := by
  have e1 : (double.word neg r / double.signWeight % 2 == 1) = neg := by
    unfold Format.word; rw [sw_eq]
    cases neg
    · rw [if_neg (by decide), show r / 2 ^ 63 = 0 from by omega]; decide
    · rw [if_pos rfl, show (2 ^ 63 + r) / 2 ^ 63 = 1 from by omega]; decide
  have e2 : double.word neg r % double.signWeight = r := by
    unfold Format.word; rw [sw_eq]
    cases neg
    · rw [if_neg (by decide)]; omega
    · rw [if_pos rfl]; omega
  unfold Rep Format.read
  simp only [e1, e2, binade_eq, inf_eq, lp_eq]
  by_cases hr : r < 2 ^ 52
  · rw [if_pos hr]
    exact ⟨neg, r, 0, by simp, by rw [show val r = r from if_pos hr]; simp⟩
  · rw [if_neg hr, if_pos h]
    exact ⟨neg, 2 ^ 52 + r % 2 ^ 52, r / 2 ^ 52 - 1, rfl, by rw [show val r = _ from if_neg hr]⟩

theorem cut_eq (neg : Bool) (n d : Nat) (h : d ≤ n.log2) : Toward.even.cut neg n d = rhe n d := by
  unfold Toward.cut rhe
  simp only [show min d (n.log2 + 2) = d from by omega, Nat.one_shiftLeft]

theorem nearest_eq (neg : Bool) (mag k : Nat) : double.nearest neg mag (-1074 + (k : Int)) = double.word neg (min (rnd (mag * 2 ^ k)) double.infRung) := by
  unfold Format.nearest
  by_cases h0 : mag = 0
  · subst h0; rw [if_pos rfl, Nat.zero_mul, rnd_zero, Nat.zero_min]
  · rw [if_neg h0]
    obtain ⟨a, b⟩ := log2_bounds mag h0
    have hl : (mag * 2 ^ k).log2 = mag.log2 + k := by
      refine log2_eq _ _ ?_ ?_
      · rw [Nat.pow_add]; exact Nat.mul_le_mul_right _ a
      · rw [show mag.log2 + k + 1 = mag.log2 + 1 + k from by omega, Nat.pow_add]; exact Nat.mul_lt_mul_of_pos_right b (Nat.two_pow_pos _)
    have hm : mag * 2 ^ k ≠ 0 := Nat.mul_ne_zero h0 (Nat.pos_iff_ne_zero.1 (Nat.two_pow_pos _))
    have fb : double.fractionBits = 52 := rfl
    simp only [lp_eq, fb, binade_eq]
    unfold rnd
    rw [hl]
    have e : max (-1074 + (k : Int) + (mag.log2 : Int) - (52 : Nat)) (-1074) = -1074 + ((mag.log2 + k - 52 : Nat) : Int) := by omega
    rw [e]
    have e1 : (-1074 + ((mag.log2 + k - 52 : Nat) : Int) - -1074).toNat = mag.log2 + k - 52 := by omega
    rw [e1]
    have e2 : (-1074 + (k : Int) - (-1074 + ((mag.log2 + k - 52 : Nat) : Int))).toNat = k - (mag.log2 + k - 52) := by omega
    have e3 : (-1074 + ((mag.log2 + k - 52 : Nat) : Int) - (-1074 + (k : Int))).toNat = mag.log2 + k - 52 - k := by omega
    rw [e2, e3]
    congr 3
    by_cases hk : k ≤ mag.log2 + k - 52
    · rw [show k - (mag.log2 + k - 52) = 0 from by omega, Nat.shiftLeft_zero, cut_eq _ _ _ (by omega)]
      have := rhe_scale mag (mag.log2 + k - 52 - k) k
      rw [show mag.log2 + k - 52 - k + k = mag.log2 + k - 52 from by omega] at this
      exact this.symm
    · rw [show mag.log2 + k - 52 - k = 0 from by omega, cut_eq _ _ _ (by omega), rhe_zero, Nat.shiftLeft_eq]
      have : mag * 2 ^ k = (mag * 2 ^ (k - (mag.log2 + k - 52))) * 2 ^ (mag.log2 + k - 52) := by
        rw [Nat.mul_assoc, ← Nat.pow_add]; congr 2; omega
      rw [this, rhe_mul]

theorem rep_nearest (neg : Bool) (mag k j : Nat) (h : mag * 2 ^ k ≤ 2 ^ (52 + j)) (hj : j + 1 < 2047) : Rep (double.nearest neg mag (-1074 + (k : Int))) (sv neg (flN (mag * 2 ^ k))) := by
  have := rnd_lt _ j h hj
  rw [nearest_eq, inf_eq, Nat.min_eq_left (by omega)]
  exact rep_word neg _ this

/-- The place of the units, in least places. -/
def sp : Nat := 1074

/-- An integer made a float. -/
theorem rep_int (n : Int) (h : n.natAbs ≤ 2 ^ 64) : Rep (double.write (.number (decide (n < 0)) n.natAbs 0)) (fl (n * 2 ^ sp)) := by
  have hk : sp = 1074 := rfl
  show Rep (double.nearest (decide (n < 0)) n.natAbs 0) _
  have hz : double.nearest (decide (n < 0)) n.natAbs 0 = double.nearest (decide (n < 0)) n.natAbs (-1074 + (sp : Int)) := congrArg _ (by rw [hk]; rfl)
  rw [hz]
  generalize sp = k at hk ⊢
  have b : n.natAbs * 2 ^ k ≤ 2 ^ (52 + (12 + k)) := by
    rw [show 52 + (12 + k) = 64 + k from by omega, Nat.pow_add]; exact Nat.mul_le_mul_right _ h
  have r := rep_nearest (decide (n < 0)) n.natAbs k (12 + k) b (by omega)
  have e : fl (n * 2 ^ k) = sv (decide (n < 0)) (flN (n.natAbs * 2 ^ k)) := by
    have hp : (0 : Int) < 2 ^ k := Int.pow_pos (by decide)
    unfold fl
    rw [Int.natAbs_mul, Int.natAbs_pow]
    congr 1
    by_cases hn : n < 0
    · rw [decide_eq_true hn, decide_eq_true (Int.mul_neg_of_neg_of_pos hn hp)]
    · rw [decide_eq_false hn, decide_eq_false]
      have := Int.mul_nonneg (show 0 ≤ n by omega) (Int.le_of_lt hp)
      omega
  rw [e]
  exact r

theorem signed_eq (neg : Bool) (m u : Nat) : signed neg m u = sv neg (m * 2 ^ u) := by
  unfold signed sv; rw [Nat.shiftLeft_eq]

theorem sv_mul (neg : Bool) (m c : Nat) : sv neg m * (c : Int) = sv neg (m * c) := by
  unfold sv; cases neg
  · simp
  · simp [Int.neg_mul]

theorem rep_order (x y : Nat) (a b : Int) (hx : Rep x a) (hy : Rep y b) : double.order x y = some (compare a b) := by
  obtain ⟨s, m, k, e1, rfl⟩ := hx
  obtain ⟨t, n, l, e2, rfl⟩ := hy
  unfold Format.order
  rw [e1, e2]
  have hb : min (-1074 + (k : Int)) (-1074 + (l : Int)) = -1074 + ((min k l : Nat) : Int) := by omega
  simp only [Datum.order, hb, signed_eq]
  have u1 : (-1074 + (k : Int) - (-1074 + ((min k l : Nat) : Int))).toNat = k - min k l := by omega
  have u2 : (-1074 + (l : Int) - (-1074 + ((min k l : Nat) : Int))).toNat = l - min k l := by omega
  rw [u1, u2]
  have f1 : sv s (m * 2 ^ k) = sv s (m * 2 ^ (k - min k l)) * ((2 ^ min k l : Nat) : Int) := by
    rw [sv_mul, Nat.mul_assoc, ← Nat.pow_add, show k - min k l + min k l = k from by omega]
  have f2 : sv t (n * 2 ^ l) = sv t (n * 2 ^ (l - min k l)) * ((2 ^ min k l : Nat) : Int) := by
    rw [sv_mul, Nat.mul_assoc, ← Nat.pow_add, show l - min k l + min k l = l from by omega]
  rw [f1, f2]
  have hp : (0 : Int) < ((2 ^ min k l : Nat) : Int) := by have := Nat.two_pow_pos (min k l); omega
  generalize ((2 ^ min k l : Nat) : Int) = c at hp ⊢
  generalize sv s (m * 2 ^ (k - min k l)) = p
  generalize sv t (n * 2 ^ (l - min k l)) = q
  congr 1
  rcases Int.lt_trichotomy p q with h | h | h
  · have h' : p * c < q * c := Int.mul_lt_mul_of_pos_right h hp
    rw [Int.compare_eq_lt.2 h, Int.compare_eq_lt.2 h']
  · subst h; simp
  · have h' : q * c < p * c := Int.mul_lt_mul_of_pos_right h hp
    rw [Int.compare_eq_gt.2 h, Int.compare_eq_gt.2 h']

theorem rep_add (x y : Nat) (a b : Int) (hx : Rep x a) (hy : Rep y b) (j : Nat) (h : (a + b).natAbs ≤ 2 ^ (52 + j)) (hj : j + 1 < 2047) : ∃ r, double.add x y = some r ∧ Rep r (fl (a + b)) := by
  obtain ⟨s, m, k, e1, rfl⟩ := hx
  obtain ⟨t, n, l, e2, rfl⟩ := hy
  unfold Format.add
  rw [e1, e2]
  have hb : min (-1074 + (k : Int)) (-1074 + (l : Int)) = -1074 + ((min k l : Nat) : Int) := by omega
  simp only [Datum.sum, hb, signed_eq]
  have u1 : (-1074 + (k : Int) - (-1074 + ((min k l : Nat) : Int))).toNat = k - min k l := by omega
  have u2 : (-1074 + (l : Int) - (-1074 + ((min k l : Nat) : Int))).toNat = l - min k l := by omega
  rw [u1, u2]
  have f1 : sv s (m * 2 ^ k) = sv s (m * 2 ^ (k - min k l)) * ((2 ^ min k l : Nat) : Int) := by
    rw [sv_mul, Nat.mul_assoc, ← Nat.pow_add, show k - min k l + min k l = k from by omega]
  have f2 : sv t (n * 2 ^ l) = sv t (n * 2 ^ (l - min k l)) * ((2 ^ min k l : Nat) : Int) := by
    rw [sv_mul, Nat.mul_assoc, ← Nat.pow_add, show l - min k l + min k l = l from by omega]
  rw [f1, f2, ← Int.add_mul] at h ⊢
  have hp : (0 : Int) < ((2 ^ min k l : Nat) : Int) := by have := Nat.two_pow_pos (min k l); omega
  generalize sv s (m * 2 ^ (k - min k l)) + sv t (n * 2 ^ (l - min k l)) = total at h ⊢
  rw [Int.natAbs_mul, Int.natAbs_natCast] at h
  refine ⟨_, rfl, ?_⟩
  have r := rep_nearest (if total = 0 then s && t else decide (total < 0)) total.natAbs (min k l) j h hj
  have e : fl (total * ((2 ^ min k l : Nat) : Int)) = sv (if total = 0 then s && t else decide (total < 0)) (flN (total.natAbs * 2 ^ min k l)) := by
    by_cases h0 : total = 0
    · subst h0
      simp only [Int.zero_mul, Int.natAbs_zero, Nat.zero_mul, fl_zero, flN_zero]
      cases s <;> cases t <;> rfl
    · rw [if_neg h0]
      unfold fl
      rw [Int.natAbs_mul, Int.natAbs_natCast]
      congr 1
      by_cases hn : total < 0
      · rw [decide_eq_true hn, decide_eq_true (Int.mul_neg_of_neg_of_pos hn hp)]
      · rw [decide_eq_false hn, decide_eq_false]
        have := Int.mul_nonneg (show 0 ≤ total by omega) (Int.le_of_lt hp)
        omega
  rw [e]
  exact r

end Go.Proofs.Qxb6609421aMods.Fl
