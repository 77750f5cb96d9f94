/- The plain law behind the formatter: the digits of a canonical text, put together and written out again, give the text. No walk. -/
import Derived.Test.Qxb6603700aFormat
namespace Go.Proofs.Qxb6603700a.Digits
open Go.Proofs.Qxb6603700a.Plain Go.Proofs.Qxb6603700a.Format

def isHex (c : Nat) : Bool := decide ((48 ≤ c ∧ c ≤ 57) ∨ (97 ≤ c ∧ c ≤ 102))
theorem isHex_yes {c : Nat} (h : Hex c) : isHex c = true := decide_eq_true h
theorem isHex_no {c : Nat} (h : ¬ Hex c) : isHex c = false := decide_eq_false h
def hv (c : Nat) : Nat := if c ≤ 57 then c - 48 else c - 87
theorem hv_lt {c : Nat} (h : Hex c) : hv c < 16 := by unfold Hex at h; unfold hv; split <;> omega
theorem hd_hv {c : Nat} (h : Hex c) : hd (hv c) = c := by unfold Hex at h; unfold hv hd; split <;> split <;> omega
/-- the values of the hex digits among the first k bytes -/
def dl (s : ByteArray) : Nat → List Nat
  | 0 => []
  | k + 1 => dl s k ++ (if isHex (byteAt s k) = true then [hv (byteAt s k)] else [])
theorem dl_yes {s : ByteArray} {k : Nat} (h : Hex (byteAt s k)) : dl s (k + 1) = dl s k ++ [hv (byteAt s k)] := by rw [dl, if_pos (isHex_yes h)]
theorem dl_no {s : ByteArray} {k : Nat} (h : ¬ Hex (byteAt s k)) : dl s (k + 1) = dl s k := by rw [dl, if_neg (by rw [isHex_no h]; simp)]; simp
theorem dl_len (s : ByteArray) : ∀ k, (dl s k).length ≤ k
  | 0 => by simp [dl]
  | k + 1 => by
    have := dl_len s k
    by_cases h : Hex (byteAt s k)
    · rw [dl_yes h]; simp; omega
    · rw [dl_no h]; omega
theorem dl_lt (s : ByteArray) : ∀ k, ∀ c ∈ dl s k, c < 16
  | 0, c, hc => by simp [dl] at hc
  | k + 1, c, hc => by
    by_cases h : Hex (byteAt s k)
    · rw [dl_yes h, List.mem_append] at hc
      rcases hc with hc | hc
      · exact dl_lt s k c hc
      · simp at hc; rw [hc]; exact hv_lt h
    · rw [dl_no h] at hc; exact dl_lt s k c hc
/-- digit m among those of the first k bytes (0 where there is none) -/
def dg (s : ByteArray) (k m : Nat) : Nat := (dl s k).getD m 0
theorem dg_lt (s : ByteArray) (k m : Nat) : dg s k m < 16 := by
  unfold dg
  rw [List.getD_eq_getElem?_getD]
  by_cases h : m < (dl s k).length
  · rw [List.getElem?_eq_getElem h]; exact dl_lt s k _ (List.getElem_mem h)
  · rw [List.getElem?_eq_none (by omega)]; decide
theorem dg_zero (s : ByteArray) (m : Nat) : dg s 0 m = 0 := rfl
theorem dg_no {s : ByteArray} {k : Nat} (h : ¬ Hex (byteAt s k)) (m : Nat) : dg s (k + 1) m = dg s k m := by unfold dg; rw [dl_no h]
theorem dg_old {s : ByteArray} {k m : Nat} (hm : m ≠ (dl s k).length) (h : Hex (byteAt s k)) : dg s (k + 1) m = dg s k m := by
  unfold dg
  rw [dl_yes h, List.getD_eq_getElem?_getD, List.getD_eq_getElem?_getD]
  by_cases hl : m < (dl s k).length
  · rw [List.getElem?_append_left hl]
  · rw [List.getElem?_eq_none (by simp; omega), List.getElem?_eq_none (by omega)]
theorem dg_new {s : ByteArray} {k m : Nat} (hm : m = (dl s k).length) (h : Hex (byteAt s k)) : dg s (k + 1) m = hv (byteAt s k) := by
  unfold dg
  rw [dl_yes h, List.getD_eq_getElem?_getD, hm]
  simp
theorem dg_pre {s : ByteArray} {k : Nat} : ∀ d m, m < (dl s k).length → dg s (k + d) m = dg s k m ∧ (dl s k).length ≤ (dl s (k + d)).length
  | 0, m, _ => ⟨rfl, Nat.le_refl _⟩
  | d + 1, m, hm => by
    obtain ⟨e, hl⟩ := dg_pre d m hm
    by_cases h : Hex (byteAt s (k + d))
    · refine ⟨?_, ?_⟩
      · rw [← e]; exact dg_old (k := k + d) (by omega) h
      · show _ ≤ (dl s (k + d + 1)).length
        rw [dl_yes h]; simp; omega
    · refine ⟨?_, ?_⟩
      · rw [← e]; exact dg_no h m
      · show _ ≤ (dl s (k + d + 1)).length
        rw [dl_no h]; exact hl

/-- byte k of the sixteen -/
def bv (s : ByteArray) (k : Nat) : Nat := dg s s.size (2 * k) * 16 + dg s s.size (2 * k + 1)
theorem bv_le (s : ByteArray) (k : Nat) : bv s k ≤ 255 := by
  have h1 := dg_lt s s.size (2 * k)
  have h2 := dg_lt s s.size (2 * k + 1)
  unfold bv; omega

/-- how many bytes are written behind k rounds -/
def pos (k : Nat) : Nat := 2 * k + (if 4 < k then 1 else 0) + (if 6 < k then 1 else 0) + (if 8 < k then 1 else 0) + (if 10 < k then 1 else 0)
theorem pos_sep {k : Nat} (h : k = 4 ∨ k = 6 ∨ k = 8 ∨ k = 10) : pos (k + 1) = pos k + 3 ∧ IsSep (pos k) ∧ ¬ IsSep (pos k + 1) ∧ ¬ IsSep (pos k + 2) ∧ pos k + 3 ≤ 36 := by
  rcases h with rfl | rfl | rfl | rfl <;> simp [pos, IsSep]
theorem pos_non {k : Nat} (h : ¬ (k = 4 ∨ k = 6 ∨ k = 8 ∨ k = 10)) (hk : k < 16) : pos (k + 1) = pos k + 2 ∧ ¬ IsSep (pos k) ∧ ¬ IsSep (pos k + 1) ∧ pos k + 2 ≤ 36 := by
  unfold pos IsSep
  repeat' split
  all_goals omega
theorem pos_16 : pos 16 = 36 := rfl

theorem ok_sep {j c : Nat} (h : Ok j c) (hj : IsSep j) : c = 45 ∧ ¬ Hex c := by
  rcases h with ⟨_, e⟩ | ⟨n, _⟩
  · exact ⟨e, by unfold Hex; omega⟩
  · exact absurd hj n
theorem ok_non {j c : Nat} (h : Ok j c) (hj : ¬ IsSep j) : Hex c := by
  rcases h with ⟨n, _⟩ | ⟨_, e⟩
  · exact absurd n hj
  · exact e

theorem two (a b : Nat) (hb : b < 16) : (a * 16 + b) / 16 = a ∧ (a * 16 + b) % 16 = b := by omega

theorem range_snoc (s : ByteArray) (n : Nat) : (List.range (n + 1)).map (byteAt s) = (List.range n).map (byteAt s) ++ [byteAt s n] := by
  rw [List.range_succ]; simp

/-- two digits at p and p + 1, the next among the digits -/
theorem pair {s : ByteArray} {k p : Nat} (hl : (dl s p).length = 2 * k) (h1 : Hex (byteAt s p)) (h2 : Hex (byteAt s (p + 1))) (hp : p + 2 ≤ s.size) :
    (dl s (p + 2)).length = 2 * (k + 1) ∧ hd (bv s k / 16) = byteAt s p ∧ hd (bv s k % 16) = byteAt s (p + 1) := by
  have e1 : (dl s (p + 1)).length = 2 * k + 1 := by rw [dl_yes h1]; simp [hl]
  have e2 : (dl s (p + 2)).length = 2 * k + 2 := by
    show (dl s (p + 1 + 1)).length = _
    rw [dl_yes h2]; simp [e1]
  have f1 : dg s (p + 1) (2 * k) = hv (byteAt s p) := dg_new hl.symm h1
  have f2 : dg s (p + 2) (2 * k + 1) = hv (byteAt s (p + 1)) := dg_new e1.symm h2
  have g1 : dg s s.size (2 * k) = hv (byteAt s p) := by
    have := (dg_pre (s := s) (k := p + 1) (s.size - (p + 1)) (2 * k) (by omega)).1
    rw [show p + 1 + (s.size - (p + 1)) = s.size by omega] at this
    rw [this, f1]
  have g2 : dg s s.size (2 * k + 1) = hv (byteAt s (p + 1)) := by
    have := (dg_pre (s := s) (k := p + 2) (s.size - (p + 2)) (2 * k + 1) (by omega)).1
    rw [show p + 2 + (s.size - (p + 2)) = s.size by omega] at this
    rw [this, f2]
  have t := two (hv (byteAt s p)) (hv (byteAt s (p + 1))) (hv_lt h2)
  unfold bv
  rw [g1, g2, t.1, t.2, hd_hv h1, hd_hv h2]
  exact ⟨by omega, rfl, rfl⟩

theorem valid_rounds {s : ByteArray} (hv : Valid s) : ∀ k, k ≤ 16 → (dl s (pos k)).length = 2 * k ∧ fmt (bv s) k = (List.range (pos k)).map (byteAt s)
  | 0, _ => ⟨rfl, rfl⟩
  | k + 1, hk => by
    obtain ⟨hl, hf⟩ := valid_rounds hv k (by omega)
    obtain ⟨hs, hok⟩ := hv
    by_cases h : k = 4 ∨ k = 6 ∨ k = 8 ∨ k = 10
    · obtain ⟨e, s0, s1, s2, hb⟩ := pos_sep h
      have c0 := ok_sep (hok (pos k) (by omega)) s0
      have c1 := ok_non (hok (pos k + 1) (by omega)) s1
      have c2 := ok_non (hok (pos k + 2) (by omega)) s2
      have P := pair (k := k) (p := pos k + 1) (by rw [dl_no c0.2]; exact hl) c1 c2 (by omega)
      rw [e, fmt_sep _ _ h, hf]
      refine ⟨P.1, ?_⟩
      rw [range_snoc s (pos k + 2), range_snoc s (pos k + 1), range_snoc s (pos k), c0.1, P.2.1, P.2.2]
    · obtain ⟨e, s0, s1, hb⟩ := pos_non h (by omega)
      have c0 := ok_non (hok (pos k) (by omega)) s0
      have c1 := ok_non (hok (pos k + 1) (by omega)) s1
      have P := pair (k := k) (p := pos k) hl c0 c1 (by omega)
      rw [e, fmt_non _ _ h, hf]
      refine ⟨P.1, ?_⟩
      rw [range_snoc s (pos k + 1), range_snoc s (pos k), P.2.1, P.2.2]

theorem bytes_range (s : ByteArray) : (List.range s.size).map (byteAt s) = s.data.toList.map UInt8.toNat := by
  apply List.ext_getElem
  · simp
  · intro j h1 h2
    have hj : j < s.data.toList.length := by simpa using h2
    simp only [List.getElem_map, List.getElem_range]
    unfold byteAt
    rw [List.getD_eq_getElem?_getD, List.getElem?_eq_getElem hj]
    rfl

/-- a canonical text has 32 digits, and the formatter gives it back -/
theorem valid_back {s : ByteArray} (hv : Valid s) : (dl s s.size).length = 32 ∧ fmt (bv s) 16 = s.data.toList.map UInt8.toNat := by
  have h := valid_rounds hv 16 (by omega)
  rw [pos_16, ← hv.1] at h
  exact ⟨h.1, h.2.trans (bytes_range s)⟩

theorem hd_hex {n : Nat} (h : n < 16) : Hex (hd n) := by unfold hd Hex; split <;> omega
theorem fmt_ok (b : Nat → Nat) (hb : ∀ i, b i ≤ 255) : ∀ k, k ≤ 16 → ∀ j c, (fmt b k)[j]? = some c → Ok j c
  | 0, _, j, c, hc => by simp [fmt] at hc
  | k + 1, hk, j, c, hc => by
    have hbk := hb k
    have hl : (fmt b k).length = pos k := fmt_len b k
    have ih := fmt_ok b hb k (by omega)
    by_cases h : k = 4 ∨ k = 6 ∨ k = 8 ∨ k = 10
    · obtain ⟨e, s0, s1, s2, _⟩ := pos_sep h
      rw [fmt_sep _ _ h, List.append_assoc, List.append_assoc] at hc
      by_cases hj : j < pos k
      · rw [List.getElem?_append_left (by omega)] at hc; exact ih j c hc
      · rw [List.getElem?_append_right (by omega), hl] at hc
        rcases (show j = pos k ∨ j = pos k + 1 ∨ j = pos k + 2 ∨ pos k + 3 ≤ j from by omega) with rfl | rfl | rfl | hj3
        · simp at hc; exact Or.inl ⟨s0, hc.symm⟩
        · rw [show pos k + 1 - pos k = 1 by omega] at hc; simp at hc; rw [← hc]; exact Or.inr ⟨s1, hd_hex (by omega)⟩
        · rw [show pos k + 2 - pos k = 2 by omega] at hc; simp at hc; rw [← hc]; exact Or.inr ⟨s2, hd_hex (by omega)⟩
        · rw [List.getElem?_eq_none (by simp; omega)] at hc; simp at hc
    · obtain ⟨e, s0, s1, _⟩ := pos_non h (by omega)
      rw [fmt_non _ _ h, List.append_assoc] at hc
      by_cases hj : j < pos k
      · rw [List.getElem?_append_left (by omega)] at hc; exact ih j c hc
      · rw [List.getElem?_append_right (by omega), hl] at hc
        rcases (show j = pos k ∨ j = pos k + 1 ∨ pos k + 2 ≤ j from by omega) with rfl | rfl | hj3
        · simp at hc; rw [← hc]; exact Or.inr ⟨s0, hd_hex (by omega)⟩
        · rw [show pos k + 1 - pos k = 1 by omega] at hc; simp at hc; rw [← hc]; exact Or.inr ⟨s1, hd_hex (by omega)⟩
        · rw [List.getElem?_eq_none (by simp; omega)] at hc; simp at hc

/-- what the formatter gives is canonical -/
theorem fmt_valid {s : ByteArray} (b : Nat → Nat) (hb : ∀ i, b i ≤ 255) (h : s.data.toList.map UInt8.toNat = fmt b 16) : Valid s := by
  have hl := congrArg List.length h
  rw [fmt_len b 16] at hl
  have hs : s.size = 36 := by simpa using hl
  refine ⟨hs, fun j hj => fmt_ok b hb 16 (by omega) j _ ?_⟩
  rw [← h, ← bytes_range, List.getElem?_map, List.getElem?_range (by omega)]
  rfl

theorem toNat_inj {x y : List UInt8} (h : x.map UInt8.toNat = y.map UInt8.toNat) : x = y :=
  (List.map_inj_right (fun _ _ e => UInt8.toNat_inj.1 e)).1 h

/-- the comparison's answer, where the text t is the formatter's -/
theorem same_yes {s t : ByteArray} (hv : Valid s) (ht : t.data.toList.map UInt8.toNat = fmt (bv s) 16) : (t.toList == s.toList) = true := by
  rw [ByteArray.toList_eq, ByteArray.toList_eq, toNat_inj (ht.trans (valid_back hv).2)]
  simp
theorem same_no {s t : ByteArray} (hv : ¬ Valid s) (ht : t.data.toList.map UInt8.toNat = fmt (bv s) 16) : (t.toList == s.toList) = false := by
  rw [ByteArray.toList_eq, ByteArray.toList_eq, beq_eq_false_iff_ne]
  intro e
  rw [e] at ht
  exact hv (fmt_valid (bv s) (bv_le s) ht)
end Go.Proofs.Qxb6603700a.Digits
