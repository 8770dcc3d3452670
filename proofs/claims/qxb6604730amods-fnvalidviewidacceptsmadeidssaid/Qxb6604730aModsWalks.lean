/-
  THE WALKS OF 'FnValidViewIDAcceptsMadeIDs': one contract a function, the leaves first.
-/
import Derived.Test.Qxb6604730aModsRows
import Derived.Test.Qxb6604730aModsPlain
import Derived.WalkKit
import Derived.WalkLawsBesides
import Derived.Outline
namespace Go.Proofs.Qxb6604730aMods.Ids
open Go.RowKit

theorem hide {p : Prop} (h : p) : Hid p := h

theorem not_false_bool {b : Bool} (h : (!b) = false) : b = true := by cases b <;> simp_all

theorem size_ne {n : Nat} (h : 0 < n) : ((n : Int) == 0) = false := beq_false_of_ne (by omega)

theorem ret_bool {a b : Bool} (h : a = b) : Ending.returned (.bool a) = .returned (.bool b) := by rw [h]

set_option maxHeartbeats 400000 in
/-- isNameByte. -/
theorem name_any (c : Int) (w : World) :
    Calls Trym.prog 18 #[.int .u8 c] w fun e w' => e = .returned (.bool (nameB c)) ∧ w' = w := by
  go_enter Trym.func18, Trym.ntmps18
  go_wp2
  all_goals
    go_ret
    refine ⟨ret_bool ?_, rfl⟩
    first | (rw [nameB_yes (by omega)]; done) | (unfold nameB; rw [Bool.eq_iff_iff]; simp; omega)

set_option maxHeartbeats 400000 in
/-- zzBytes: the bound on the length. -/
theorem bytes_any (s : ByteArray) (x y : Int) (w : World) (hs : s.size ≤ maxLen) :
    Calls Trym.prog 11 #[.string s, .int .u64 x, .int .u64 y] w fun e w' => e = .returned (.bool (decide (s.size ≤ 1048576))) ∧ w' = w := by
  unfold maxLen at hs
  by_cases h : s.size ≤ 1048576
  · rw [decide_eq_true h]
    go_enter Trym.func11, Trym.ntmps11
    go_wp2
    go_ret
    exact ⟨rfl, rfl⟩
  · rw [decide_eq_false h]
    go_enter Trym.func11, Trym.ntmps11
    go_wp2
    go_ret
    exact ⟨rfl, rfl⟩

/-- A bool came back; if it is true, then 'p'. -/
def Ans (p : Prop) (e : Ending) : Prop := ∃ b : Bool, e = .returned (.bool b) ∧ (b = true → p)

set_option maxHeartbeats 400000 in
/-- zzIn: the law's own look-up: true only of a byte that stands there. -/
theorem in_any (c : Int) (s : ByteArray) (w : World) (hs : s.size ≤ maxLen) :
    Calls Trym.prog 16 #[.int .u8 c, .string s] w fun e w' => Ans (∃ k, ∃ h : k < s.size, ((s[k]).toNat : Int) = c) e ∧ w' = w := by
  unfold maxLen at hs
  go_enter Trym.func16, Trym.ntmps16
  go_wp2
  go_loop [5] (fun i => ∃ k : Nat, k ≤ s.size ∧ i = .int .i64 k) (fun i => s.size - (intOf i).toNat)
  case atStart => exact ⟨0, Nat.zero_le _, rfl⟩
  case round =>
    obtain ⟨k, hk, rfl⟩ := hrel
    by_cases hlt : k < s.size
    · go_wp2
      · go_ret
        have he : (((s[k]).toNat : Int) == c) = true := by assumption
        exact ⟨⟨true, rfl, fun _ => ⟨k, hlt, by simpa using he⟩⟩, rfl⟩
      · go_round
        case rel => exact ⟨k + 1, by omega, by go_num⟩
        case measure => simp [intOf]; omega
    · go_wp2
      go_ret
      exact ⟨⟨false, rfl, fun h => by cases h⟩, rfl⟩

set_option maxHeartbeats 400000 in
/-- zzMemberName: true only of one to 64 bytes of a name. -/
theorem member_any (s : ByteArray) (w : World) (hs : s.size ≤ maxLen) :
    Calls Trym.prog 12 #[.string s] w fun e w' => Ans (Member s) e ∧ w' = w := by
  unfold maxLen at hs
  have ha : alpha.size ≤ maxLen := by decide
  by_cases h1 : 1 ≤ s.size
  · by_cases h64 : s.size ≤ 64
    · go_enter Trym.func12, Trym.ntmps12
      go_wp2
      go_loop [3] (fun i => ∃ k : Nat, k ≤ s.size ∧ i = .int .i64 k ∧ ∀ j, ∀ h : j < s.size, j < k → nameB ((s[j]).toNat : Int) = true) (fun i => s.size - (intOf i).toNat)
      case atStart => exact ⟨0, Nat.zero_le _, rfl, fun j _ h => by omega⟩
      case round =>
        obtain ⟨k, hk, rfl, hall⟩ := hrel
        have HA := hide hall
        clear hall
        by_cases hlt : k < s.size
        · go_wp2_with (go_at_call 16; refine (in_any _ alpha _ ha).mono ?_; rintro e w' ⟨⟨b, rfl, hb⟩, rfl⟩; replace hb := hide hb)
          · go_ret
            exact ⟨⟨false, rfl, fun h => by cases h⟩, rfl⟩
          · go_round
            case rel =>
              refine ⟨k + 1, by omega, by go_num, fun j h hj => ?_⟩
              by_cases e : j = k
              · subst e
                obtain ⟨m, hm, em⟩ := hb.out (not_false_bool (by assumption))
                rw [← em]; exact alpha_name m hm
              · exact HA.out j h (by omega)
            case measure => simp [intOf]; omega
        · go_wp2
          go_ret
          exact ⟨⟨true, rfl, fun _ => ⟨h1, h64, fun j h => HA.out j h (by omega)⟩⟩, rfl⟩
    · go_enter Trym.func12, Trym.ntmps12
      go_wp2
      go_ret
      exact ⟨⟨false, rfl, fun h => by cases h⟩, rfl⟩
  · go_enter Trym.func12, Trym.ntmps12
    go_wp2
    go_ret
    exact ⟨⟨false, rfl, fun h => by cases h⟩, rfl⟩

set_option maxHeartbeats 400000 in
/-- validViewID, of more than 96 bytes. -/
theorem view_long (s : ByteArray) (w : World) (hs : s.size ≤ maxLen) (h : 96 < s.size) :
    Calls Trym.prog 17 #[.string s] w fun e w' => e = .returned (.bool false) ∧ w' = w := by
  unfold maxLen at hs
  have hne : ((s.size : Int) == 0) = false := size_ne (by omega)
  go_enter Trym.func17, Trym.ntmps17
  go_wp2
  go_ret
  exact ⟨rfl, rfl⟩

set_option maxHeartbeats 400000 in
/-- validViewID, of at most 96 bytes of an id. -/
theorem view_ok (s : ByteArray) (w : World) (h0 : 1 ≤ s.size) (h : s.size ≤ 96) (hid : Hid (Id s)) :
    Calls Trym.prog 17 #[.string s] w fun e w' => e = .returned (.bool true) ∧ w' = w := by
  have hne : ((s.size : Int) == 0) = false := size_ne (by omega)
  go_enter Trym.func17, Trym.ntmps17
  go_wp2
  go_loop [3] (fun i => ∃ k : Nat, k ≤ s.size ∧ i = .int .i64 k) (fun i => s.size - (intOf i).toNat)
  case atStart => exact ⟨0, Nat.zero_le _, rfl⟩
  case round =>
    obtain ⟨k, hk, rfl⟩ := hrel
    by_cases hlt : k < s.size
    · have hat := hid.out.at k hlt
      unfold idB at hat
      cases hn : nameB ((s[k]).toNat : Int)
      · rw [hn, Bool.false_or] at hat
        go_wp2_with (go_at_call 18; refine (name_any _ _).mono ?_; rintro e w' ⟨rfl, rfl⟩)
        go_round
        case rel => exact ⟨k + 1, by omega, by go_num⟩
        case measure => simp [intOf]; omega
      · clear hat
        go_wp2_with (go_at_call 18; refine (name_any _ _).mono ?_; rintro e w' ⟨rfl, rfl⟩)
        go_round
        case rel => exact ⟨k + 1, by omega, by go_num⟩
        case measure => simp [intOf]; omega
    · go_wp2
      go_ret
      exact ⟨rfl, rfl⟩

set_option maxHeartbeats 400000 in
/-- ZZvalidViewID. -/
theorem zz_long (s : ByteArray) (w : World) (hs : s.size ≤ maxLen) (h : 96 < s.size) :
    Calls Trym.prog 14 #[.string s] w fun e w' => e = .returned (.bool false) ∧ w' = w := by
  go_enter Trym.func14, Trym.ntmps14
  go_wp2_with (go_at_call 17; refine (view_long _ _ hs h).mono ?_; rintro e w' ⟨rfl, rfl⟩)
  go_ret
  exact ⟨rfl, rfl⟩

set_option maxHeartbeats 400000 in
theorem zz_ok (s : ByteArray) (w : World) (h0 : 1 ≤ s.size) (h : s.size ≤ 96) (hid : Hid (Id s)) :
    Calls Trym.prog 14 #[.string s] w fun e w' => e = .returned (.bool true) ∧ w' = w := by
  go_enter Trym.func14, Trym.ntmps14
  go_wp2_with (go_at_call 17; refine (view_ok _ _ h0 h hid).mono ?_; rintro e w' ⟨rfl, rfl⟩)
  go_ret
  exact ⟨rfl, rfl⟩

end Go.Proofs.Qxb6604730aMods.Ids
