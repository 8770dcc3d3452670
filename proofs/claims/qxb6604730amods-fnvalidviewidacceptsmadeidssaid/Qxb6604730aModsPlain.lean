/-
  THE PLAIN WORDS OF 'FnValidViewIDAcceptsMadeIDs': which bytes are a name's, which strings are a view's id. No Go in sight.
-/
import GoSem.Core.Lib
namespace Go.Proofs.Qxb6604730aMods.Ids

/-- A byte of a name. -/
def nameB (c : Int) : Bool := decide ((97 ≤ c ∧ c ≤ 122) ∨ (65 ≤ c ∧ c ≤ 90) ∨ (48 ≤ c ∧ c ≤ 57) ∨ c = 45 ∨ c = 95)

theorem nameB_yes {c : Int} (h : (97 ≤ c ∧ c ≤ 122) ∨ (65 ≤ c ∧ c ≤ 90) ∨ (48 ≤ c ∧ c ≤ 57) ∨ c = 45 ∨ c = 95) : nameB c = true := decide_eq_true h
theorem nameB_no {c : Int} (h : ¬((97 ≤ c ∧ c ≤ 122) ∨ (65 ≤ c ∧ c ≤ 90) ∨ (48 ≤ c ∧ c ≤ 57) ∨ c = 45 ∨ c = 95)) : nameB c = false := decide_eq_false h

/-- The alphabet of the law's own text. -/
def alpha : ByteArray := ⟨#[97, 98, 99, 100, 101, 102, 103, 104, 105, 106, 107, 108, 109, 110, 111, 112, 113, 114, 115, 116, 117, 118, 119, 120, 121, 122, 65, 66, 67, 68, 69, 70, 71, 72, 73, 74, 75, 76, 77, 78, 79, 80, 81, 82, 83, 84, 85, 86, 87, 88, 89, 90, 48, 49, 50, 51, 52, 53, 54, 55, 56, 57, 45, 95]⟩

theorem alpha_all : alpha.data.toList.all (fun x => nameB (x.toNat : Int)) = true := by decide +kernel

theorem alpha_name (k : Nat) (h : k < alpha.size) : nameB ((alpha[k]).toNat : Int) = true := by
  have := List.all_eq_true.1 alpha_all (alpha[k]) (by
    show alpha.data[k] ∈ alpha.data.toList
    simp)
  exact this

/-- A member's name. -/
def Member (s : ByteArray) : Prop := 1 ≤ s.size ∧ s.size ≤ 64 ∧ ∀ k, ∀ h : k < s.size, nameB ((s[k]).toNat : Int) = true

/-- A byte of a view's id. -/
def idB (c : Int) : Bool := nameB c || c == 46

theorem idB_name {c : Int} (h : nameB c = true) : idB c = true := by unfold idB; rw [h]; rfl
theorem idB_dot : idB 46 = true := by decide

/-- Every byte of 's' is a byte of a view's id. -/
def Id (s : ByteArray) : Prop := ∀ x ∈ s.data.toList, idB (x.toNat : Int) = true

theorem Id.at {s : ByteArray} (h : Id s) (k : Nat) (hk : k < s.size) : idB ((s[k]).toNat : Int) = true := h _ (by show s.data[k] ∈ s.data.toList; simp)

theorem Id.of {s : ByteArray} (h : ∀ k (hk : k < s.size), idB ((s[k]).toNat : Int) = true) : Id s := by
  intro x hx
  obtain ⟨k, hk, rfl⟩ := List.getElem_of_mem hx
  have := h k (by simpa using hk)
  simp only [Array.getElem_toList]
  exact this

theorem Id.member {s : ByteArray} (h : Member s) : Id s := Id.of fun k hk => idB_name (h.2.2 k hk)

theorem Id.append {s t : ByteArray} (h : Id s) (g : Id t) : Id (s ++ t) := by
  intro x hx
  simp at hx
  rcases hx with hx | hx
  · exact h x (by simpa using hx)
  · exact g x (by simpa using hx)

theorem id_dot : Id ⟨#[46]⟩ := by
  intro x hx
  simp at hx
  subst hx
  exact idB_dot

end Go.Proofs.Qxb6604730aMods.Ids
