/-
  THE WALK OF 'b1CloneBytes'; and how an argument's bytes are told to the walks.
-/
import Derived.Test.Qxb6605277aModsWalks
import Derived.Deep.OwnRows
import Derived.Lib.SliceRun
namespace Go.Proofs.Qxb6605277aMods.Abl
open Go.RowKit

/-- The new row, its first 'k' bytes copied. -/
def Copy (w wr : World) (len k : Nat) (zs : List Int) : Prop :=
  Below w.heap.size w wr ∧ w.heap.size < wr.heap.size ∧ (∀ j, j < len → wr.frozen? ⟨w.heap.size, j, none⟩ = false) ∧
  ∃ ys : List Int, ys.length = len ∧ (∀ j, j < len → wr.cell? ⟨w.heap.size, j, none⟩ = some (.int .u8 (ys.getD j 0))) ∧ ∀ j, j < k → ys.getD j 0 = zs.getD j 0

theorem copy_start (w : World) (len : Nat) (zs : List Int) : Copy w (w.alloc (.cells (madeCells #[.int .u8 0] len) 5)) len 0 zs := by
  refine ⟨(Below.refl _ _).alloc (Nat.le_refl _) _, by simp, fun j _ => World.frozen?_alloc_new _ _ _ _, List.replicate len 0, by simp, fun j hj => ?_, fun j h => by omega⟩
  rw [World.cell?_alloc_new]
  simp [madeCells, List.getD, hj, Nat.mod_one]

theorem copy_step {w wr : World} {len k : Nat} {zs : List Int} (h : Copy w wr len k zs) (hk : k < len) : Copy w (wr.setCell ⟨w.heap.size, k, none⟩ (.int .u8 (zs.getD k 0))) len (k + 1) zs := by
  obtain ⟨hb, hz, hf, ys, hy, hc, he⟩ := h
  refine ⟨hb.setCell (Nat.le_refl _) _, by simpa [World.setCell] using hz, fun j hj => by rw [World.frozen?_setCell]; exact hf j hj, ys.set k (zs.getD k 0), by simpa using hy, fun j hj => ?_, fun j hj => ?_⟩
  · by_cases e : j = k
    · subst e
      rw [World.cell?_setCell_same _ _ _ (hc j hj)]
      simp [List.getD, hy, hj]
    · rw [World.cell?_setCell_other _ _ _ _ (show (⟨w.heap.size, k, none⟩ : Addr) ≠ ⟨w.heap.size, j, none⟩ from fun h => e (by injection h with _ h _; exact h.symm)), hc j hj]
      simp [List.getD, Ne.symm e]
  · by_cases e : j = k
    · subst e; simp [List.getD, hy, hk]
    · have := he j (by omega)
      simpa [List.getD, Ne.symm e] using this

theorem copy_data {w wr : World} {len : Nat} {zs : List Int} {a : Option Addr} (h : Copy w wr len len zs) (hd : Data w a len zs) : Data wr (some ⟨w.heap.size, 0, none⟩) len zs := by
  obtain ⟨_, hz, _, ys, _, hc, he⟩ := h
  rcases hd with h0 | ⟨b, o, _, _, hcell⟩
  · exact .inl h0
  · refine .inr ⟨w.heap.size, 0, rfl, hz, fun i hi => ⟨?_, (hcell i hi).2⟩⟩
    rw [Nat.zero_add, hc i hi, he i hi]

set_option maxHeartbeats 400000 in
theorem clone_nil (w : World) : Calls Trym.prog 6 #[.slice none 0 0] w fun e w' => e = .returned (.slice none 0 0) ∧ w' = w := by
  have hnil := fun (w : World) (a : Option Addr) (n c n' c' : Nat) => Lib.run_eql_slice_nil (P := Trym.prog) w 22 5 a n c n' c' Trym.underlying22
  go_enter Trym.func6, Trym.ntmps6
  go_wp2
  go_ret
  exact ⟨rfl, rfl⟩

set_option maxHeartbeats 400000 in
theorem clone_some (x : Addr) (len cap : Nat) (zs : List Int) (w : World) (hlen : len ≤ 1048576) (hd : Data w (some x) len zs) :
    Calls Trym.prog 6 #[.slice (some x) len cap] w fun e w' => e = .returned (.slice (some ⟨w.heap.size, 0, none⟩) len len) ∧ Below w.heap.size w w' ∧ Data w' (some ⟨w.heap.size, 0, none⟩) len zs := by
  have hnil := fun (w : World) (a : Option Addr) (n c n' c' : Nat) => Lib.run_eql_slice_nil (P := Trym.prog) w 22 5 a n c n' c' Trym.underlying22
  have hmk := run_make_row' (P := Trym.prog) 22 5 (.int .u8 0) 1 Trym.underlying22 (by kernel_rfl) rfl .i64 .i64 len (by omega) (by omega)
  replace hd := hide hd
  go_enter Trym.func6, Trym.ntmps6
  go_wp2
  go_loopw [4] (fun v wr => ∃ k : Nat, v = .int .i64 k ∧ k ≤ len ∧ Copy w wr len k zs) (fun v _ => len - (intOf v).toNat)
  case atStart => exact ⟨0, rfl, Nat.zero_le _, copy_start w len zs⟩
  case round =>
    obtain ⟨k, rfl, hk, hcp⟩ := hrel
    by_cases hlt : k < len
    · obtain ⟨b, o, hx, hbl, hcell⟩ := hd.out.resolve_left (by omega)
      injection hx with hx
      subst hx
      have hck := (hcp.1.cell (p := ⟨b, o + k, none⟩) hbl).trans (hcell k hlt).1
      have hfk := hcp.2.2.1 k hlt
      obtain ⟨ys, _, hcy, _⟩ := hcp.2.2.2
      have hyk := hcy k hlt
      replace hcp := hide hcp
      clear hcy hcell
      go_wp2
      go_roundw
      case rel => exact ⟨k + 1, by go_num, by omega, copy_step hcp.out hlt⟩
      case measure => simp [intOf]; omega
    · obtain rfl : k = len := by omega
      replace hcp := hide hcp
      go_wp2
      go_ret
      exact ⟨rfl, hcp.out.1, copy_data hcp.out hd.out⟩

theorem clone_any (a : Option Addr) (len cap : Nat) (zs : List Int) (w : World) (hlen : len ≤ 1048576) (hn : a = none → len = 0 ∧ cap = 0) (hd : Data w a len zs) :
    Calls Trym.prog 6 #[.slice a len cap] w fun e w' => ∃ a', e = .returned (.slice a' len len) ∧ Below w.heap.size w w' ∧ Data w' a' len zs := by
  cases a with
  | none =>
    obtain ⟨rfl, rfl⟩ := hn rfl
    refine (clone_nil w).mono ?_
    rintro e w' ⟨rfl, rfl⟩
    exact ⟨none, rfl, Below.refl _ _, hd⟩
  | some x =>
    refine (clone_some x len cap zs w hlen hd).mono ?_
    rintro e w' ⟨rfl, h1, h2⟩
    exact ⟨_, rfl, h1, h2⟩

theorem block_lt {w : World} {a : Addr} {v : Value} (h : w.cell? a = some v) : a.block < w.heap.size := by
  rcases Nat.lt_or_ge a.block w.heap.size with h' | h'
  · exact h'
  · simp [World.cell?, Array.getElem?_eq_none h'] at h

/-- What the shell tells of a row of bytes, in these texts' words. -/
theorem data_of (w : World) (x : Addr) (len cap : Nat) (zs : List Int) (hl : len ≤ cap) (hz : zs.length = cap) (hcell : ∀ i, i < zs.length → w.cell? (x.add i) = some (.int .u8 (zs.getD i 0))) (hwz : ∀ n ∈ zs, 0 ≤ n ∧ n ≤ 255) : Data w (some x) len zs := by
  by_cases h0 : len = 0
  · exact .inl h0
  · obtain ⟨b, off, spot⟩ := x
    have hc := hcell 0 (by omega)
    have hspot : spot = none := by simpa [Addr.add] using World.cell?_spot hc
    subst hspot
    refine .inr ⟨b, off, rfl, ?_, fun i hi => ⟨?_, ?_⟩⟩
    · simpa [Addr.add] using block_lt hc
    · have hp : (⟨b, off, none⟩ : Addr).add i = ⟨b, off + i, none⟩ := by unfold Addr.add; split <;> simp_all
      rw [← hp]; exact hcell i (by omega)
    · have hi' : i < zs.length := by omega
      have := hwz zs[i] (List.getElem_mem hi')
      simpa [List.getD, List.getElem?_eq_getElem hi'] using this

theorem Data.below {w w' : World} {a : Option Addr} {len : Nat} {zs : List Int} (h : Data w a len zs) (hb : Below w.heap.size w w') : Data w' a len zs := by
  rcases h with h0 | ⟨b, o, ha, hl, hc⟩
  · exact .inl h0
  · exact .inr ⟨b, o, ha, Nat.lt_of_lt_of_le hl hb.size, fun i hi => ⟨(hb.cell (p := ⟨b, o + i, none⟩) hl).trans (hc i hi).1, (hc i hi).2⟩⟩

theorem nl_fst {zs : List Int} {q : Nat} (h : nl zs q = true) : zs.getD q 0 = 10 := by
  unfold nl at h; simpa using h

theorem crnl_fst {zs : List Int} {q : Nat} (h : crnl zs q = true) : zs.getD q 0 = 13 := by
  unfold crnl at h; rw [Bool.and_eq_true] at h; exact of_decide_eq_true (by simpa using h.1)

end Go.Proofs.Qxb6605277aMods.Abl
