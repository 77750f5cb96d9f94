/- The plain law of the seat's two statements: what a canonical UUID text is, byte by byte. No Go in sight. -/
import GoSem.Core.World
namespace Go.Proofs.Qxb6603700a.Plain

/-- byte j of s, as a number (0 beyond the end) -/
def byteAt (s : ByteArray) (j : Nat) : Nat := (s.data.toList.getD j 0).toNat
theorem byteAt_eq (s : ByteArray) (j : Nat) (h : j < s.size) : byteAt s j = (s[j]'h).toNat := by
  unfold byteAt
  have h' : j < s.data.toList.length := by simpa using h
  rw [List.getD_eq_getElem?_getD, List.getElem?_eq_getElem h']
  rfl
theorem byteAt_data (s : ByteArray) (j : Nat) (h : j < s.data.size) : (s.data[j]).toNat = byteAt s j := by
  unfold byteAt
  have h' : j < s.data.toList.length := by simpa using h
  rw [List.getD_eq_getElem?_getD, List.getElem?_eq_getElem h']
  rfl
theorem byteAt_le (s : ByteArray) (j : Nat) : byteAt s j ≤ 255 := by
  unfold byteAt
  have := (s.data.toList.getD j 0).toNat_lt
  omega

def Hex (c : Nat) : Prop := (48 ≤ c ∧ c ≤ 57) ∨ (97 ≤ c ∧ c ≤ 102)
def IsSep (j : Nat) : Prop := j = 8 ∨ j = 13 ∨ j = 18 ∨ j = 23
/-- may byte c stand at place j? -/
def Ok (j c : Nat) : Prop := (IsSep j ∧ c = 45) ∨ (¬ IsSep j ∧ Hex c)
def Valid (s : ByteArray) : Prop := s.size = 36 ∧ ∀ j, j < 36 → Ok j (byteAt s j)

/-- want is still true behind i bytes: group g, r digits of it read -/
def At (i g r : Nat) : Prop := (g = 0 ∧ i = r ∧ r ≤ 8) ∨ (g = 1 ∧ i = 9 + r ∧ r ≤ 4) ∨ (g = 2 ∧ i = 14 + r ∧ r ≤ 4) ∨ (g = 3 ∧ i = 19 + r ∧ r ≤ 4) ∨ (g = 4 ∧ i = 24 + r ∧ r ≤ 12)
def glen (g : Nat) : Nat := if g = 4 then 12 else if g = 0 then 8 else 4
theorem glen_bd (g : Nat) : 4 ≤ glen g ∧ glen g ≤ 12 := by unfold glen; split <;> (try split) <;> omega

theorem At.bd {i g r : Nat} (h : At i g r) : g ≤ 4 ∧ r ≤ 12 ∧ r ≤ i ∧ i ≤ 36 ∧ r ≤ glen g := by
  rcases h with ⟨rfl, h⟩ | ⟨rfl, h⟩ | ⟨rfl, h⟩ | ⟨rfl, h⟩ | ⟨rfl, h⟩ <;> simp [glen] <;> omega

/-- a hyphen where one may stand -/
theorem dash_good {i g r : Nat} (h : At i g r) (hg : g < 4) (hr : r = glen g) : At (i + 1) (g + 1) 0 ∧ Ok i 45 := by
  rcases h with ⟨rfl, h⟩ | ⟨rfl, h⟩ | ⟨rfl, h⟩ | ⟨rfl, h⟩ | ⟨rfl, h⟩ <;> simp [glen] at hr <;> (try omega) <;> (unfold At Ok IsSep; omega)
/-- a hyphen where none may stand -/
theorem dash_bad {i g r : Nat} (h : At i g r) (hb : 4 ≤ g ∨ r ≠ glen g) (hi : i < 36) : ¬ Ok i 45 := by
  rcases h with ⟨rfl, h⟩ | ⟨rfl, h⟩ | ⟨rfl, h⟩ | ⟨rfl, h⟩ | ⟨rfl, h⟩ <;> simp [glen] at hb <;> (unfold Ok IsSep Hex; omega)
/-- a digit where one may stand -/
theorem digit_good {i g r c : Nat} (h : At i g r) (hr : r + 1 ≤ glen g) (hc : Hex c) : At (i + 1) g (r + 1) ∧ Ok i c := by
  rcases h with ⟨rfl, h⟩ | ⟨rfl, h⟩ | ⟨rfl, h⟩ | ⟨rfl, h⟩ | ⟨rfl, h⟩ <;> simp [glen] at hr <;> refine ⟨by unfold At; omega, Or.inr ⟨by unfold IsSep; omega, hc⟩⟩
/-- a digit where none may stand -/
theorem digit_bad {i g r c : Nat} (h : At i g r) (hr : glen g < r + 1) (hc : Hex c) (hi : i < 36) : ¬ Ok i c := by
  unfold Hex at hc
  rcases h with ⟨rfl, h⟩ | ⟨rfl, h⟩ | ⟨rfl, h⟩ | ⟨rfl, h⟩ | ⟨rfl, h⟩ <;> simp [glen] at hr <;> (unfold Ok IsSep; omega)
/-- neither hyphen nor digit -/
theorem other_bad {i c : Nat} (h1 : c ≠ 45) (h2 : ¬ Hex c) : ¬ Ok i c := by
  rintro (⟨_, h⟩ | ⟨_, h⟩)
  · exact h1 h
  · exact h2 h
theorem not_valid {s : ByteArray} {i : Nat} (hi : i < s.size) (h : i < 36 → ¬ Ok i (byteAt s i)) : ¬ Valid s := by
  rintro ⟨hs, hv⟩
  exact h (by omega) (hv i (by omega))
theorem ok_succ {s : ByteArray} {i : Nat} (h : ∀ j, j < i → Ok j (byteAt s j)) (hi : Ok i (byteAt s i)) : ∀ j, j < i + 1 → Ok j (byteAt s j) := by
  intro j hj
  by_cases e : j = i
  · rw [e]; exact hi
  · exact h j (by omega)
theorem end_good {s : ByteArray} {r : Nat} (h : At s.size 4 r) (hr : r = 12) (hv : ∀ j, j < s.size → Ok j (byteAt s j)) : Valid s := by
  have : s.size = 36 := by unfold At at h; omega
  exact ⟨this, fun j hj => hv j (by omega)⟩
theorem end_bad {s : ByteArray} {g r : Nat} (h : At s.size g r) (hr : ¬ (g = 4 ∧ r = 12)) : ¬ Valid s := by
  rintro ⟨hs, _⟩
  unfold At at h; omega
end Go.Proofs.Qxb6603700a.Plain
