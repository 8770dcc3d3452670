/-
  THE WALK OF 'zzUtoa_b1': a number in decimal: one to twenty digits.
-/
import Derived.Test.Qxb6604730aModsWalks
import Derived.Laws.BytesArg
namespace Go.Proofs.Qxb6604730aMods.Ids
open Go.RowKit

/-- A string of one to twenty digits came back. -/
def Num (e : Ending) : Prop := ∃ s : ByteArray, e = .returned (.string s) ∧ 1 ≤ s.size ∧ s.size ≤ 20 ∧ Id s

/-- The array of twenty bytes, the call's own block: from place 'i' on it holds digits. -/
def Buf (w wr : World) (i : Nat) : Prop :=
  Grown w wr ∧ (∀ j, j < 20 → wr.frozen? ⟨w.heap.size, j, none⟩ = false) ∧
  ∃ zs : List Int, zs.length = 20 ∧ (∀ j, j < 20 → wr.cell? ⟨w.heap.size, j, none⟩ = some (.int .u8 (zs.getD j 0))) ∧ ∀ j, i ≤ j → j < 20 → 48 ≤ zs.getD j 0 ∧ zs.getD j 0 ≤ 57

theorem buf_start (w : World) : Buf w (w.alloc (.cells #[.int .u8 0, .int .u8 0, .int .u8 0, .int .u8 0, .int .u8 0, .int .u8 0, .int .u8 0, .int .u8 0, .int .u8 0, .int .u8 0, .int .u8 0, .int .u8 0, .int .u8 0, .int .u8 0, .int .u8 0, .int .u8 0, .int .u8 0, .int .u8 0, .int .u8 0, .int .u8 0] 56)) 20 := by
  refine ⟨(Grown.refl w).alloc _ _, fun j hj => World.frozen?_alloc_new _ _ _ _, List.replicate 20 0, by simp, fun j hj => ?_, fun j h1 h2 => by omega⟩
  rw [World.cell?_alloc_new]
  match j, hj with
  | 0, _ | 1, _ | 2, _ | 3, _ | 4, _ | 5, _ | 6, _ | 7, _ | 8, _ | 9, _ | 10, _ | 11, _ | 12, _ | 13, _ | 14, _ | 15, _ | 16, _ | 17, _ | 18, _ | 19, _ => rfl
  | m + 20, h => omega

theorem buf_step {w wr : World} {k : Nat} {d : Int} (h : Buf w wr (k + 1)) (hk : k < 20) (h1 : 48 ≤ d) (h2 : d ≤ 57) : Buf w (wr.setCell ⟨w.heap.size, k, none⟩ (.int .u8 d)) k := by
  obtain ⟨hg, hf, zs, hz, hc, hd⟩ := h
  refine ⟨hg.setCell (Nat.le_refl _) _, fun j hj => by rw [World.frozen?_setCell]; exact hf j hj, zs.set k d, by simpa using hz, fun j hj => ?_, fun j g1 g2 => ?_⟩
  · by_cases e : j = k
    · subst e
      rw [World.cell?_setCell_same _ _ _ (hc j hj)]
      simp [List.getD, hz, hj]
    · rw [World.cell?_setCell_other _ _ _ _ (show (⟨w.heap.size, k, none⟩ : Addr) ≠ ⟨w.heap.size, j, none⟩ from fun h => e (by injection h with _ h _; exact h.symm)), hc j hj]
      simp [List.getD, Ne.symm e]
  · by_cases e : j = k
    · subst e; simp [List.getD, hz, g2, h1, h2]
    · have := hd j (by omega) g2
      simpa [List.getD, Ne.symm e] using this

theorem id_nums (xs : List Int) (h : ∀ z ∈ xs, 48 ≤ z ∧ z ≤ 57) : Id (strOfNums xs) := by
  intro x hx
  rw [strOfNums_data] at hx
  obtain ⟨z, hz, rfl⟩ := List.mem_map.1 hx
  have := h z hz
  refine idB_name (nameB_yes ?_)
  have e : (UInt8.ofNat z.toNat).toNat = z.toNat := by
    rw [UInt8.toNat_ofNat']; omega
  rw [e]; omega

theorem drop_digits (zs : List Int) (k : Nat) (hl : zs.length = 20) (hd : ∀ j, k ≤ j → j < 20 → 48 ≤ zs.getD j 0 ∧ zs.getD j 0 ≤ 57) : ∀ z ∈ zs.drop k, 48 ≤ z ∧ z ≤ 57 := by
  intro z hz
  obtain ⟨i, hi, rfl⟩ := List.getElem_of_mem hz
  rw [List.length_drop, hl] at hi
  have := hd (k + i) (by omega) (by omega)
  rw [List.getElem_drop]
  simpa [List.getD, List.getElem?_eq_getElem (show k + i < zs.length by omega)] using this

set_option maxHeartbeats 400000 in
theorem utoa_pos (x : Int) (w : World) (h0 : 0 < x) (h1 : x ≤ 18446744073709551615) :
    Calls Trym.prog 13 #[.int .u64 x] w fun e w' => Num e ∧ Grown w w' := by
  have hne : (x == 0) = false := beq_false_of_ne (by omega)
  go_enter Trym.func13, Trym.ntmps13
  go_wp2
  go_loopw [0, 4] (fun x i wr => ∃ (n k : Nat), k ≤ 20 ∧ x = .int .u64 n ∧ i = .int .i64 k ∧ n < 10 ^ k ∧ n ≤ 18446744073709551615 ∧ (n = 0 → k < 20) ∧ Buf w wr k) (fun _ i _ => (intOf i).toNat)
  case atStart => exact ⟨x.toNat, 20, by omega, by rw [Int.toNat_of_nonneg (by omega)], rfl, by omega, by omega, by omega, buf_start w⟩
  case round =>
    obtain ⟨n, k, hk, rfl, rfl, hn, hm, hz, hb⟩ := hrel
    by_cases hlt : 0 < n
    · have hk0 : k ≠ 0 := fun e => by subst e; simp at hn; omega
      obtain ⟨k, rfl⟩ : ∃ j, k = j + 1 := ⟨k - 1, by omega⟩
      clear hk0
      have hc := hb.2.2
      obtain ⟨zs, _, hc, _⟩ := hc
      have hck := hc k (by omega)
      have hfk := hb.2.1 k (by omega)
      have HN := hide hn
      have HB := hide hb
      clear hc hn hb hz
      go_wp2
      go_roundw
      case rel => exact ⟨n / 10, k, by omega, by go_num, rfl, by have := HN.out; rw [Nat.pow_succ] at this; omega, by omega, fun _ => by omega, buf_step HB.out (by omega) (by omega) (by omega)⟩
      case measure => simp [intOf]
    · have hn0 : n = 0 := by omega
      subst hn0
      have hk19 := hz rfl
      obtain ⟨hg, hf, zs, hl, hc, hd⟩ := hb
      have HG := hide hg
      have HD := hide hd
      have hsl : (Instr.sliceAt 56 (.pointer (some ⟨w.heap.size, 0, none⟩)) (some (.int .i64 (k : Int))) none none).run Trym.prog wr = .ok (.slice (some ⟨w.heap.size, k, none⟩) (20 - k) (20 - k)) wr := by
        have hal : Trym.prog.arrayLen 56 = 20 := by kernel_rfl
        rw [run_sliceAt_array_l wr 56 ⟨w.heap.size, 0, none⟩ (by kernel_rfl) .i64 (k : Int) (by omega) (by rw [hal]; omega)]
        rw [hal]
        go_simp
        omega
      have hcv := run_convert_bytes_arg (P := Trym.prog) wr 34 5 Trym.underlying34 Trym.underlying5 w.heap.size k (20 - k) (20 - k) (zs.drop k) (by simp [hl]) (fun i hi => by
        rw [hc (k + i) (by omega)]; simp [List.getD]) 9 Trym.underlying9
      have HL := hide hl
      clear hn hz hc hf hg hd hl
      go_wp2
      go_ret
      refine ⟨⟨_, rfl, ?_, ?_, ?_⟩, HG.out⟩
      · rw [strOfNums_size, List.length_drop, HL.out]; omega
      · rw [strOfNums_size, List.length_drop, HL.out]; omega
      · exact id_nums _ (drop_digits zs k HL.out HD.out)

set_option maxHeartbeats 400000 in
theorem utoa_any (x : Int) (w : World) (h0 : 0 ≤ x) (h1 : x ≤ 18446744073709551615) :
    Calls Trym.prog 13 #[.int .u64 x] w fun e w' => Num e ∧ Grown w w' := by
  by_cases h : x = 0
  · subst h
    go_enter Trym.func13, Trym.ntmps13
    go_wp2
    go_ret
    exact ⟨⟨_, rfl, by decide, by decide, id_nums [48] (by simp)⟩, Grown.refl _⟩
  · exact utoa_pos x w (by omega) h1

end Go.Proofs.Qxb6604730aMods.Ids
