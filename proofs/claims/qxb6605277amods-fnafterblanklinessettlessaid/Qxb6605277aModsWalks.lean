/-
  THE WALKS OF THE SEAT: one contract a function, the leaves first.
-/
import Derived.Test.Qxb6605277aModsRows
import Derived.WalkKit
import Derived.WalkLawsBesides
import Derived.Laws.BytesArg
import Derived.Lib.SlBytesConst
import Derived.Outline
namespace Go.Proofs.Qxb6605277aMods.Abl
open Go.RowKit

theorem hide {p : Prop} (h : p) : Hid p := h

set_option maxHeartbeats 400000 in
/-- bytes.Equal. -/
theorem equal_any (v1 v2 : Value) (s t : ByteArray) (w : World) (h1 : (convert 22 9 v1).run Trym.prog w = .ok (.string s) w) (h2 : (convert 22 9 v2).run Trym.prog w = .ok (.string t) w) :
    Calls Trym.prog 11 #[v1, v2] w fun e w' => e = .returned (.bool (s.toList == t.toList)) ∧ w' = w := by
  go_enter Trym.func11, Trym.ntmps11
  go_wp2
  go_ret
  exact ⟨rfl, rfl⟩

set_option maxHeartbeats 400000 in
/-- bytes.HasPrefix: too short. -/
theorem prefix_short (a b : Option Addr) (n c m d : Nat) (w : World) (h : n < m) :
    Calls Trym.prog 10 #[.slice a n c, .slice b m d] w fun e w' => e = .returned (.bool false) ∧ w' = w := by
  go_enter Trym.func10, Trym.ntmps10
  go_wp2
  go_ret
  exact ⟨rfl, rfl⟩

set_option maxHeartbeats 400000 in
/-- bytes.HasPrefix: long enough. -/
theorem prefix_long (b o g n c m d : Nat) (xs ys : List Int) (w : World) (h : m ≤ n) (h0 : 0 < m) (hm : m ≤ 2) (hc : n ≤ c) (hx : xs.length = m) (hy : ys.length = m)
    (hcx : ∀ i, i < m → w.cell? ⟨b, o + i, none⟩ = some (.int .u8 (xs.getD i 0))) (hcy : ∀ i, i < m → w.cell? ⟨g, 0 + i, none⟩ = some (.int .u8 (ys.getD i 0))) :
    Calls Trym.prog 10 #[.slice (some ⟨b, o, none⟩) n c, .slice (some ⟨g, 0, none⟩) m d] w fun e w' => e = .returned (.bool ((strOfNums xs).toList == (strOfNums ys).toList)) ∧ w' = w := by
  have k1 := run_convert_bytes_arg (P := Trym.prog) w 22 5 Trym.underlying22 Trym.underlying5 b o m c xs hx hcx 9 Trym.underlying9
  have k2 := run_convert_bytes_arg (P := Trym.prog) w 22 5 Trym.underlying22 Trym.underlying5 g 0 m d ys hy hcy 9 Trym.underlying9
  have K1 := hide k1
  have K2 := hide k2
  clear k1 k2 hcx hcy
  go_enter Trym.func10, Trym.ntmps10
  go_wp2_with fail
  refine (equal_any _ _ _ _ _ K1.out K2.out).mono ?_
  rintro e w' ⟨rfl, rfl⟩
  go_wp2
  go_ret
  exact ⟨rfl, rfl⟩

theorem ret_bool {a b : Bool} (h : a = b) : Ending.returned (.bool a) = .returned (.bool b) := by rw [h]

/-- What stands at place 'p' of 'zs': the bytes of a blank line? -/
def nl (zs : List Int) (p : Nat) : Bool := zs.getD p 0 == 10
def crnl (zs : List Int) (p : Nat) : Bool := zs.getD p 0 == 13 && zs.getD (p + 1) 0 == 10

/-- Every place from 'o' up to 'p' is in a blank line that ends ahead of 'p'. -/
def Blank (zs : List Int) (o p : Nat) : Prop := ∀ i, o ≤ i → i < p → nl zs i = true ∨ (crnl zs i = true ∧ i + 1 < p)

/-- No blank line starts at 'p'. -/
def Done (zs : List Int) (len p : Nat) : Prop := (p < len → nl zs p = false) ∧ (p + 1 < len → crnl zs p = false)

/-- The bytes of a slice that is no longer than the memory behind it. -/
def Data (w : World) (a : Option Addr) (len : Nat) (zs : List Int) : Prop :=
  len = 0 ∨ ∃ b o, a = some ⟨b, o, none⟩ ∧ b < w.heap.size ∧ ∀ i, i < len → w.cell? ⟨b, o + i, none⟩ = some (.int .u8 (zs.getD i 0)) ∧ 0 ≤ zs.getD i 0 ∧ zs.getD i 0 ≤ 255

theorem blank_nl {zs : List Int} {o q : Nat} (h : Blank zs o q) (hn : nl zs q = true) : Blank zs o (q + 1) := by
  intro i h1 h2
  by_cases e : i = q
  · subst e; exact .inl hn
  · rcases h i h1 (by omega) with g | ⟨g, l⟩
    · exact .inl g
    · exact .inr ⟨g, by omega⟩

theorem crnl_snd {zs : List Int} {q : Nat} (h : crnl zs q = true) : nl zs (q + 1) = true := by
  unfold crnl at h; rw [Bool.and_eq_true] at h; exact h.2

theorem blank_crnl {zs : List Int} {o q : Nat} (h : Blank zs o q) (hn : crnl zs q = true) : Blank zs o (q + 2) := by
  intro i h1 h2
  by_cases e : i = q
  · subst e; exact .inr ⟨hn, by omega⟩
  · by_cases e' : i = q + 1
    · subst e'; exact .inl (crnl_snd hn)
    · rcases h i h1 (by omega) with g | ⟨g, l⟩
      · exact .inl g
      · exact .inr ⟨g, by omega⟩

theorem byte_same (z k : Int) (h0 : 0 ≤ z) (h1 : z ≤ 255) (k0 : 0 ≤ k) (k1 : k ≤ 255) : (UInt8.ofNat z.toNat == UInt8.ofNat k.toNat) = (z == k) := by
  rw [Bool.eq_iff_iff, beq_iff_eq, beq_iff_eq]
  constructor
  · intro h
    have := congrArg UInt8.toNat h
    rw [UInt8.toNat_ofNat', UInt8.toNat_ofNat'] at this
    omega
  · intro h; rw [h]

theorem same_one (z : Int) (h0 : 0 ≤ z) (h1 : z ≤ 255) : ((strOfNums [z]).toList == (strOfNums [10]).toList) = (z == 10) := by
  rw [ByteArray.toList_eq, ByteArray.toList_eq, strOfNums_data, strOfNums_data]
  simp only [List.map_cons, List.map_nil, List.cons_beq_cons, byte_same z 10 h0 h1 (by omega) (by omega)]
  simp

theorem same_two (z y : Int) (h0 : 0 ≤ z) (h1 : z ≤ 255) (g0 : 0 ≤ y) (g1 : y ≤ 255) : ((strOfNums [z, y]).toList == (strOfNums [13, 10]).toList) = (z == 13 && y == 10) := by
  rw [ByteArray.toList_eq, ByteArray.toList_eq, strOfNums_data, strOfNums_data]
  simp only [List.map_cons, List.map_nil, List.cons_beq_cons, byte_same z 13 h0 h1 (by omega) (by omega), byte_same y 10 g0 g1 (by omega) (by omega)]
  simp

/-- HasPrefix of one byte. -/
theorem prefix_one (b o g n c : Nat) (z : Int) (w : World) (h : 1 ≤ n) (hc : n ≤ c) (h0 : 0 ≤ z) (h1 : z ≤ 255)
    (hcx : w.cell? ⟨b, o, none⟩ = some (.int .u8 z)) (hcy : w.cell? ⟨g, 0, none⟩ = some (.int .u8 10)) :
    Calls Trym.prog 10 #[.slice (some ⟨b, o, none⟩) n c, .slice (some ⟨g, 0, none⟩) 1 1] w fun e w' => e = .returned (.bool (z == 10)) ∧ w' = w := by
  have := prefix_long b o g n c 1 1 [z] [10] w h (by omega) (by omega) hc rfl rfl (fun i hi => by
    obtain rfl : i = 0 := by omega
    exact hcx) (fun i hi => by
    obtain rfl : i = 0 := by omega
    exact hcy)
  rw [same_one z h0 h1] at this
  exact this

theorem prefix_two (b o g n c : Nat) (z y : Int) (w : World) (h : 2 ≤ n) (hc : n ≤ c) (h0 : 0 ≤ z) (h1 : z ≤ 255) (g0 : 0 ≤ y) (g1 : y ≤ 255)
    (hcx : w.cell? ⟨b, o, none⟩ = some (.int .u8 z)) (hcx1 : w.cell? ⟨b, o + 1, none⟩ = some (.int .u8 y)) (hcy : w.cell? ⟨g, 0, none⟩ = some (.int .u8 13)) (hcy1 : w.cell? ⟨g, 1, none⟩ = some (.int .u8 10)) :
    Calls Trym.prog 10 #[.slice (some ⟨b, o, none⟩) n c, .slice (some ⟨g, 0, none⟩) 2 2] w fun e w' => e = .returned (.bool (z == 13 && y == 10)) ∧ w' = w := by
  have := prefix_long b o g n c 2 2 [z, y] [13, 10] w h (by omega) (by omega) hc rfl rfl (fun i hi => by
    match i, hi with
    | 0, _ => exact hcx
    | 1, _ => exact hcx1) (fun i hi => by
    match i, hi with
    | 0, _ => exact hcy
    | 1, _ => exact hcy1)
  rw [same_two z y h0 h1 g0 g1] at this
  exact this

theorem const_one (w : World) (C : Array Value) (n c : Nat) : (convert 22 22 (.slice (some ⟨w.heap.size, 0, none⟩) n c)).run Trym.prog (w.alloc (.cells C 5)) = .ok (.slice (some ⟨w.heap.size, 0, none⟩) n c) (w.alloc (.cells C 5 (C.size, C.size + 1))) :=
  Lib.run_convert_bytes_const (P := Trym.prog) w 22 5 C n c Trym.underlying22 Trym.underlying5

theorem const_two (w : World) (O : Obj) (C : Array Value) (n c : Nat) : (convert 22 22 (.slice (some ⟨w.heap.size + 1, 0, none⟩) n c)).run Trym.prog ((w.alloc O).alloc (.cells C 5)) = .ok (.slice (some ⟨w.heap.size + 1, 0, none⟩) n c) ((w.alloc O).alloc (.cells C 5 (C.size, C.size + 1))) := by
  have h : (w.alloc O).heap.size = w.heap.size + 1 := by show (w.heap.push O).size = _; simp
  rw [← h]
  exact const_one (w.alloc O) C n c

theorem cell_new (w : World) (O : Obj) (C : Array Value) (fr : Nat × Nat) (j : Nat) : ((w.alloc O).alloc (.cells C 5 fr)).cell? ⟨w.heap.size + 1, j, none⟩ = C[j]? := by
  have h : (w.alloc O).heap.size = w.heap.size + 1 := by simp
  rw [← h]
  exact World.cell?_alloc_mark (w.alloc O) C 5 fr j

set_option maxHeartbeats 400000 in
/-- afterBlankLines. -/
theorem after_any (a : Option Addr) (len off : Nat) (zs : List Int) (w : World) (hlen : len ≤ 1048576) (hoff : off ≤ len) (hd : Data w a len zs) :
    Calls Trym.prog 9 #[.slice a len len, .int .i64 off] w fun e w' => ∃ p : Nat, e = .returned (.int .i64 p) ∧ off ≤ p ∧ p ≤ len ∧ Blank zs off p ∧ Done zs len p ∧ Below w.heap.size w w' := by
  have kc := const_one
  have kc2 := const_two
  have HD := hide hd
  clear hd
  go_enter Trym.func9, Trym.ntmps9
  go_wp2
  go_loopw [1] (fun v wr => ∃ q : Nat, v = .int .i64 q ∧ off ≤ q ∧ q ≤ len ∧ Blank zs off q ∧ Below w.heap.size w wr) (fun v _ => len - (intOf v).toNat)
  case atStart => exact ⟨off, rfl, Nat.le_refl _, hoff, fun i h1 h2 => by omega, Below.refl _ _⟩
  case round =>
    obtain ⟨q, rfl, h1, h2, hb, hw⟩ := hrel
    replace hb := hide hb
    have hz := hw.size
    replace hw := hide hw
    by_cases hq : q < len
    · obtain ⟨b, o, rfl, hbl, hcell⟩ := HD.out.resolve_left (by omega)
      have hc := hcell q hq
      obtain ⟨hc, z0, z1⟩ := hc
      generalize hze : zs.getD q 0 = z at hc z0 z1
      replace hze := hide hze
      have hcr : wr.cell? ⟨b, o + q, none⟩ = some (.int .u8 z) := (hw.out.cell (by exact hbl)).trans hc
      clear hc
      by_cases hn : z = 10
      · subst hn
        clear hcell z0 z1
        go_wp2_with fail
        refine (prefix_one b (o + q) wr.heap.size (len - q) (len - q) 10 _ (by omega) (by omega) (by omega) (by omega) (Lib.cell?_alloc_marked _ hcr) (World.cell?_alloc_mark _ _ _ _ _)).mono ?_
        rintro e w' ⟨rfl, rfl⟩
        go_wp2
        go_roundw
        case rel => exact ⟨q + 1, by go_num, by omega, by omega, blank_nl hb.out (by unfold nl; rw [hze.out]; rfl), hw.out.alloc hz _⟩
        case measure => simp [intOf]; omega
      · have hnb : (z == 10) = false := beq_false_of_ne hn
        have hnl : Hid (nl zs q = false) := by unfold nl; rw [hze.out]; exact hnb
        by_cases hq1 : q + 1 < len
        · obtain ⟨hc1, y0, y1⟩ := hcell (q + 1) hq1
          generalize hye : zs.getD (q + 1) 0 = y at hc1 y0 y1
          replace hye := hide hye
          have hcr1 : wr.cell? ⟨b, o + q + 1, none⟩ = some (.int .u8 y) := (hw.out.cell (by exact hbl)).trans hc1
          have hcb : Hid (crnl zs q = (z == 13 && y == 10)) := by unfold crnl; rw [hze.out, hye.out]; rfl
          clear hc1 hcell
          cases hv : (z == 13 && y == 10)
          · go_wp2_with fail
            refine (prefix_one b (o + q) wr.heap.size (len - q) (len - q) z _ (by omega) (by omega) z0 z1 (Lib.cell?_alloc_marked _ hcr) (World.cell?_alloc_mark _ _ _ _ _)).mono ?_
            rintro e w' ⟨rfl, rfl⟩
            go_wp2_with fail
            refine (prefix_two b (o + q) (wr.heap.size + 1) (len - q) (len - q) z y _ (by omega) (by omega) z0 z1 y0 y1 (Lib.cell?_alloc_marked _ (Lib.cell?_alloc_marked _ hcr)) (Lib.cell?_alloc_marked _ (Lib.cell?_alloc_marked _ hcr1)) (cell_new _ _ _ _ _) (cell_new _ _ _ _ _)).mono ?_
            rintro e w' ⟨rfl, rfl⟩
            go_wp2
            go_ret
            exact ⟨q, rfl, h1, h2, hb.out, ⟨fun _ => hnl.out, fun _ => hcb.out.trans hv⟩, (hw.out.alloc hz _).alloc (by simp; omega) _⟩
          · go_wp2_with fail
            refine (prefix_one b (o + q) wr.heap.size (len - q) (len - q) z _ (by omega) (by omega) z0 z1 (Lib.cell?_alloc_marked _ hcr) (World.cell?_alloc_mark _ _ _ _ _)).mono ?_
            rintro e w' ⟨rfl, rfl⟩
            go_wp2_with fail
            refine (prefix_two b (o + q) (wr.heap.size + 1) (len - q) (len - q) z y _ (by omega) (by omega) z0 z1 y0 y1 (Lib.cell?_alloc_marked _ (Lib.cell?_alloc_marked _ hcr)) (Lib.cell?_alloc_marked _ (Lib.cell?_alloc_marked _ hcr1)) (cell_new _ _ _ _ _) (cell_new _ _ _ _ _)).mono ?_
            rintro e w' ⟨rfl, rfl⟩
            go_wp2
            go_roundw
            case rel => exact ⟨q + 2, by go_num, by omega, by omega, blank_crnl hb.out (hcb.out.trans hv), (hw.out.alloc hz _).alloc (by simp; omega) _⟩
            case measure => simp [intOf]; omega
        · clear hcell
          go_wp2_with fail
          refine (prefix_one b (o + q) wr.heap.size (len - q) (len - q) z _ (by omega) (by omega) z0 z1 (Lib.cell?_alloc_marked _ hcr) (World.cell?_alloc_mark _ _ _ _ _)).mono ?_
          rintro e w' ⟨rfl, rfl⟩
          go_wp2_with fail
          refine (prefix_short _ _ _ _ _ _ _ (by omega)).mono ?_
          rintro e w' ⟨rfl, rfl⟩
          go_wp2
          go_ret
          exact ⟨q, rfl, h1, h2, hb.out, ⟨fun _ => hnl.out, fun h => by omega⟩, (hw.out.alloc hz _).alloc (by simp; omega) _⟩
    · obtain rfl : q = len := by omega
      go_wp2_with (go_at_call 10; refine (prefix_short _ _ _ _ _ _ _ (by omega)).mono ?_; rintro e w' ⟨rfl, rfl⟩)
      go_ret
      exact ⟨q, rfl, h1, Nat.le_refl _, hb.out, ⟨fun h => by omega, fun h => by omega⟩, (hw.out.alloc hz _).alloc (by simp; omega) _⟩

set_option maxHeartbeats 400000 in
/-- ZZafterBlankLines. -/
theorem zz_any (a : Option Addr) (len off : Nat) (zs : List Int) (w : World) (hlen : len ≤ 1048576) (hoff : off ≤ len) (hd : Data w a len zs) :
    Calls Trym.prog 7 #[.slice a len len, .int .i64 off] w fun e w' => ∃ p : Nat, e = .returned (.int .i64 p) ∧ off ≤ p ∧ p ≤ len ∧ Blank zs off p ∧ Done zs len p ∧ Below w.heap.size w w' := by
  go_enter Trym.func7, Trym.ntmps7
  go_wp2_with fail
  refine (after_any a len off zs _ hlen hoff hd).mono ?_
  rintro e w' ⟨p, rfl, h1, h2, h3, h4, h5⟩
  replace h3 := hide h3
  replace h4 := hide h4
  replace h5 := hide h5
  go_wp2
  go_ret
  exact ⟨p, rfl, h1, h2, h3.out, h4.out, h5.out⟩

set_option maxHeartbeats 400000 in
/-- zzBytes: the bound on the length. -/
theorem bytes_any (a : Option Addr) (len cap : Nat) (x : Int) (w : World) (hs : len ≤ maxLen) :
    Calls Trym.prog 5 #[.slice a len cap, .int .i64 x] w fun e w' => e = .returned (.bool (decide (len ≤ 1048576))) ∧ w' = w := by
  unfold maxLen at hs
  by_cases h : len ≤ 1048576
  · rw [decide_eq_true h]
    go_enter Trym.func5, Trym.ntmps5
    go_wp2
    go_ret
    exact ⟨rfl, rfl⟩
  · rw [decide_eq_false h]
    go_enter Trym.func5, Trym.ntmps5
    go_wp2
    go_ret
    exact ⟨rfl, rfl⟩

set_option maxHeartbeats 400000 in
theorem bytes_any8 (a : Option Addr) (len cap : Nat) (x : Int) (w : World) (hs : len ≤ maxLen) :
    Calls Trym.prog 8 #[.slice a len cap, .int .i64 x] w fun e w' => e = .returned (.bool (decide (len ≤ 1048576))) ∧ w' = w := by
  unfold maxLen at hs
  by_cases h : len ≤ 1048576
  · rw [decide_eq_true h]
    go_enter Trym.func8, Trym.ntmps8
    go_wp2
    go_ret
    exact ⟨rfl, rfl⟩
  · rw [decide_eq_false h]
    go_enter Trym.func8, Trym.ntmps8
    go_wp2
    go_ret
    exact ⟨rfl, rfl⟩

end Go.Proofs.Qxb6605277aMods.Abl
