/- The contracts of the functions on the road of FnEqualFoldSeesOtherBytes. -/
import Derived.Test.Qxb6003357aRows
import Derived.WalkKit
import Derived.ProofKit
import Derived.OpenShut
import Derived.ShutString
import Derived.WalkSpells
import Derived.Laws.IdiomStrings
import Derived.Deep.QuietTactic
import Derived.BigQuiet
import Derived.Deep.RegionWith
import Derived.WalkSmall
namespace Go.Proofs.Qxb6003357a.Callees
open Go.ChangeShapes Go.WideShapes Go.ChangeAt Go.RowKit

/-! ### The plain part -/
/-- byte j of s, as a number (0 beyond the end) -/
def byteAt (s : ByteArray) (j : Nat) : Nat := (s.data.toList.getD j 0).toNat
theorem byteAt_eq (s : ByteArray) (j : Nat) (h : j < s.size) : byteAt s j = (s[j]'h).toNat := by
  unfold byteAt
  have h' : j < s.data.toList.length := by simpa using h
  rw [List.getD_eq_getElem?_getD, List.getElem?_eq_getElem h']
  rfl
theorem byteAt_le (s : ByteArray) (j : Nat) : byteAt s j ≤ 255 := by
  unfold byteAt
  have := (s.data.toList.getD j 0).toNat_lt
  omega
/-- the lower case of a byte -/
def low (n : Nat) : Nat := if 65 ≤ n ∧ n ≤ 90 then n + 32 else n
theorem low_up {n : Nat} (h : 65 ≤ n ∧ n ≤ 90) : low n = n + 32 := if_pos h
theorem low_id {n : Nat} (h : ¬ (65 ≤ n ∧ n ≤ 90)) : low n = n := if_neg h
/-- is it an ASCII letter? -/
def Letter (n : Nat) : Prop := (97 ≤ n ∧ n ≤ 122) ∨ (65 ≤ n ∧ n ≤ 90)
/-- the same name, letter case apart -/
def Fold (x y : ByteArray) : Prop := x.size = y.size ∧ ∀ j, j < x.size → low (byteAt x j) = low (byteAt y j)

theorem ret_int {k : IntKind} {a b : Int} (h : a = b) : Ending.returned (.int k a) = .returned (.int k b) := by rw [h]

/-! ### lower -/
theorem lower_any (n : Nat) (w : World) (hn : n ≤ 255) :
    Calls Try.prog 30 #[.int .u8 (n : Int)] w fun e w' => e = .returned (.int .u8 (low n : Int)) ∧ w' = w := by
  rcases (show (65 ≤ n ∧ n ≤ 90) ∨ n < 65 ∨ 90 < n from by omega) with ⟨h1, h2⟩ | h1 | h1
  · have HR : Hid (((low n : Nat) : Int) = (n : Int) + 97 - 65) := by show ((low n : Nat) : Int) = _; rw [low_up ⟨h1, h2⟩]; omega
    have d1 : decide ((65 : Int) ≤ (n : Int)) = true := by simp; omega
    have d2 : decide ((n : Int) ≤ 90) = true := by simp; omega
    go_enter Try.func30, Try.ntmps30
    go_wp2
    go_ret
    exact ⟨ret_int HR.out.symm, rfl⟩
  · have HR : Hid (((low n : Nat) : Int) = (n : Int)) := by show ((low n : Nat) : Int) = _; rw [low_id (by omega)]
    have d1 : decide ((65 : Int) ≤ (n : Int)) = false := by simp; omega
    go_enter Try.func30, Try.ntmps30
    go_wp2
    go_ret
    exact ⟨ret_int HR.out.symm, rfl⟩
  · have HR : Hid (((low n : Nat) : Int) = (n : Int)) := by show ((low n : Nat) : Int) = _; rw [low_id (by omega)]
    have d1 : decide ((65 : Int) ≤ (n : Int)) = true := by simp; omega
    have d2 : decide ((n : Int) ≤ 90) = false := by simp; omega
    go_enter Try.func30, Try.ntmps30
    go_wp2
    go_ret
    exact ⟨ret_int HR.out.symm, rfl⟩

/-! ### g1IsLetter, g1SameLetter -/
theorem letter_yes (n : Nat) (w : World) (h : Letter n) :
    Calls Try.prog 31 #[.int .u8 (n : Int)] w fun e w' => e = .returned (.bool true) ∧ w = w' := by
  rcases h with ⟨h1, h2⟩ | ⟨h1, h2⟩
  · have d1 : decide ((97 : Int) ≤ (n : Int)) = true := by simp; omega
    have d2 : decide ((n : Int) ≤ 122) = true := by simp; omega
    go_enter Try.func31, Try.ntmps31
    go_wp2
    go_ret
    exact ⟨rfl, rfl⟩
  · have d1 : decide ((97 : Int) ≤ (n : Int)) = false := by simp; omega
    have d3 : decide ((65 : Int) ≤ (n : Int)) = true := by simp; omega
    have d4 : decide ((n : Int) ≤ 90) = true := by simp; omega
    go_enter Try.func31, Try.ntmps31
    go_wp2
    go_ret
    exact ⟨rfl, rfl⟩
theorem letter_no (n : Nat) (w : World) (h : ¬ Letter n) :
    Calls Try.prog 31 #[.int .u8 (n : Int)] w fun e w' => e = .returned (.bool false) ∧ w = w' := by
  unfold Letter at h
  rcases (show n < 65 ∨ (90 < n ∧ n < 97) ∨ 122 < n from by omega) with h1 | ⟨h1, h2⟩ | h1
  · have d1 : decide ((97 : Int) ≤ (n : Int)) = false := by simp; omega
    have d3 : decide ((65 : Int) ≤ (n : Int)) = false := by simp; omega
    clear h
    go_enter Try.func31, Try.ntmps31
    go_wp2
    go_ret
    exact ⟨rfl, rfl⟩
  · have d1 : decide ((97 : Int) ≤ (n : Int)) = false := by simp; omega
    have d3 : decide ((65 : Int) ≤ (n : Int)) = true := by simp; omega
    have d4 : decide ((n : Int) ≤ 90) = false := by simp; omega
    clear h
    go_enter Try.func31, Try.ntmps31
    go_wp2
    go_ret
    exact ⟨rfl, rfl⟩
  · have d1 : decide ((97 : Int) ≤ (n : Int)) = true := by simp; omega
    have d2 : decide ((n : Int) ≤ 122) = false := by simp; omega
    have d3 : decide ((65 : Int) ≤ (n : Int)) = true := by simp; omega
    have d4 : decide ((n : Int) ≤ 90) = false := by simp; omega
    clear h
    go_enter Try.func31, Try.ntmps31
    go_wp2
    go_ret
    exact ⟨rfl, rfl⟩
theorem or_low : ∀ n : Nat, n < 256 → Letter n → bits BinOp.or IntKind.u8 (n : Int) 32 = ((low n : Nat) : Int) := by
  unfold Letter low
  decide +kernel
/-- how SameLetter ends: where it says no, the two are no one letter -/
def SEnd (x y : Nat) (w : World) (e : Ending) (w' : World) : Prop := ∃ b : Bool, e = .returned (.bool b) ∧ (b = false → ¬ (Letter x ∧ Letter y ∧ low x = low y)) ∧ w = w'
theorem same_any (x y : Nat) (w : World) (hx : x ≤ 255) (hy : y ≤ 255) :
    Calls Try.prog 18 #[.int .u8 (x : Int), .int .u8 (y : Int)] w fun e w' => SEnd x y w e w' := by
  by_cases lx : Letter x
  · by_cases ly : Letter y
    · have HX : Hid (bits BinOp.or IntKind.u8 (x : Int) 32 = ((low x : Nat) : Int)) := or_low x (by omega) lx
      have HY : Hid (bits BinOp.or IntKind.u8 (y : Int) 32 = ((low y : Nat) : Int)) := or_low y (by omega) ly
      go_enter Try.func18, Try.ntmps18
      go_wp2_with fail
      refine (letter_yes x _ lx).mono ?_
      rintro e w' ⟨rfl, rfl⟩
      go_wp2_with fail
      refine (letter_yes y _ ly).mono ?_
      rintro e w' ⟨rfl, rfl⟩
      go_wp2
      go_ret
      refine ⟨_, rfl, fun hb => ?_, rfl⟩
      rintro ⟨_, _, he⟩
      rw [HX.out, HY.out, he] at hb
      simp at hb
    · go_enter Try.func18, Try.ntmps18
      go_wp2_with fail
      refine (letter_yes x _ lx).mono ?_
      rintro e w' ⟨rfl, rfl⟩
      go_wp2_with fail
      refine (letter_no y _ ly).mono ?_
      rintro e w' ⟨rfl, rfl⟩
      go_wp2
      go_ret
      exact ⟨_, rfl, fun _ h => ly h.2.1, rfl⟩
  · go_enter Try.func18, Try.ntmps18
    go_wp2_with fail
    refine (letter_no x _ lx).mono ?_
    rintro e w' ⟨rfl, rfl⟩
    go_wp2
    go_ret
    exact ⟨_, rfl, fun _ h => lx h.1, rfl⟩

/-! ### ZZName -/
theorem name_any (x : ByteArray) (w : World) :
    Calls Try.prog 12 #[.string x] w fun e w' => e = .returned (.agg #[.string x]) ∧ Below w.heap.size w w' := by
  go_enter Try.func12, Try.ntmps12
  go_wp2
  exact bodyPost_ret (v := .agg #[.string x]) (by simp [results, Try.results12, go_sem]) rfl ⟨rfl, (Below.refl _ _).alloc (Nat.le_refl _) _⟩

/-! ### EqualFold -/
def FEnd (x y : ByteArray) (w : World) (e : Ending) (w' : World) : Prop := ∃ b : Bool, e = .returned (.bool b) ∧ (b = true ↔ Fold x y) ∧ Below w.heap.size w w'
/-- what holds at the loop's head: the two boxes are as they were laid -/
def FHead (x y : ByteArray) (w : World) (i : Value) (wr : World) : Prop :=
  ∃ k : Nat, k ≤ x.size ∧ i = .int .i64 (k : Int) ∧ (∀ j, j < k → low (byteAt x j) = low (byteAt y j)) ∧ Below w.heap.size w wr ∧ wr.cell? ⟨w.heap.size, 0, none⟩ = some (.string x) ∧ wr.cell? ⟨w.heap.size + 1, 0, none⟩ = some (.string y)

set_option maxHeartbeats 1000000 in
theorem fold_any (x y : ByteArray) (w : World) (hx : x.size ≤ 1048576) :
    Calls Try.prog 13 #[.agg #[.string x], .agg #[.string y]] w fun e w' => FEnd x y w e w' := by
  by_cases hs : x.size = y.size
  · have hs1 : x.size ≤ y.size := by omega
    have hs2 : y.size ≤ x.size := by omega
    have HS : Hid (x.size = y.size) := hs
    clear hs
    go_enter Try.func13, Try.ntmps13
    go_wp2
    go_loopw [5] (fun i wr => FHead x y w i wr) (fun i _ => x.size - (intOf i).toNat)
    case atStart => exact ⟨0, Nat.zero_le _, rfl, fun j hj => absurd hj (by omega), ((Below.refl _ _).alloc (Nat.le_refl _) _).alloc (by simp) _, by simp, by simp⟩
    case round =>
      obtain ⟨k, hk, rfl, hq, hbel, c1, c2⟩ := hrel
      have HQ : Hid (∀ j, j < k → low (byteAt x j) = low (byteAt y j)) := hq
      have HB : Hid (Below w.heap.size w wr) := hbel
      clear hq hbel
      by_cases hlt : k < x.size
      · have hlt2 : k < y.size := by omega
        have i1 : (k : Int) < (x.size : Int) := by omega
        have i2 : (k : Int) < (y.size : Int) := by omega
        have b1 : (x[k]'hlt).toNat ≤ 255 := by have := (x[k]'hlt).toNat_lt; omega
        have b2 : (y[k]'hlt2).toNat ≤ 255 := by have := (y[k]'hlt2).toNat_lt; omega
        have HX : Hid (byteAt x k = (x[k]'hlt).toNat) := byteAt_eq x k hlt
        have HY : Hid (byteAt y k = (y[k]'hlt2).toNat) := byteAt_eq y k hlt2
        by_cases hl : low (x[k]'hlt).toNat = low (y[k]'hlt2).toNat
        · have t : (((low (x[k]'hlt).toNat : Nat) : Int) != ((low (y[k]'hlt2).toNat : Nat) : Int)) = false := by simp [hl]
          have HR : Hid (∀ j, j < k + 1 → low (byteAt x j) = low (byteAt y j)) := fun j hj => by
            by_cases e : j = k
            · rw [e, HX.out, HY.out]; exact hl
            · exact HQ.out j (by omega)
          clear hl HX HY HQ
          go_wp2_with fail
          go_quiet ((go_at_call 30; exact Calls.quiet_of_same (lower_any _ _ (by assumption))))
          go_wp2
          go_roundw
          case rel => exact ⟨k + 1, by omega, by go_num, HR.out, below_drewN HB.out _, by simpa using c1, by simpa using c2⟩
          case measure => simp [intOf]; omega
        · have t : (((low (x[k]'hlt).toNat : Nat) : Int) != ((low (y[k]'hlt2).toNat : Nat) : Int)) = true := by simp; omega
          have HR : Hid (¬ Fold x y) := fun h => hl (by have := h.2 k hlt; rw [HX.out, HY.out] at this; exact this)
          clear hl HX HY HQ
          go_wp2_with fail
          go_quiet ((go_at_call 30; exact Calls.quiet_of_same (lower_any _ _ (by assumption))))
          go_wp2
          go_ret
          exact ⟨false, rfl, ⟨fun h => by simp at h, fun h => absurd h HR.out⟩, below_drewN HB.out _⟩
      · have HR : Hid (Fold x y) := ⟨HS.out, fun j hj => HQ.out j (by omega)⟩
        clear HQ
        go_wp2
        go_ret
        exact ⟨true, rfl, ⟨fun _ => HR.out, fun _ => rfl⟩, HB.out⟩
  · have HR : Hid (¬ Fold x y) := fun h => hs h.1
    have t : ((x.size : Int) != (y.size : Int)) = true := by simp; omega
    clear hs
    go_enter Try.func13, Try.ntmps13
    go_wp2
    go_ret
    exact ⟨false, rfl, ⟨fun h => by simp at h, fun h => absurd h HR.out⟩, ((Below.refl _ _).alloc (Nat.le_refl _) _).alloc (by simp) _⟩
theorem fold_no (x y : ByteArray) (w : World) (hx : x.size ≤ 1048576) (h : ¬ Fold x y) :
    Calls Try.prog 13 #[.agg #[.string x], .agg #[.string y]] w fun e w' => e = .returned (.bool false) ∧ Below w.heap.size w w' := by
  refine (fold_any x y w hx).mono ?_
  rintro e w' ⟨b, he, hb, hbel⟩
  have : b = false := by
    cases b
    · rfl
    · exact absurd (hb.1 rfl) h
  rw [this] at he
  exact ⟨he, hbel⟩

/-! ### the byte bound -/
theorem bytes_yes (a : ByteArray) (k c : Int) (w : World) (h : a.size ≤ 1048576) :
    Calls Try.prog 17 #[.string a, .int .i64 k, .int .u8 c] w fun e w' => e = .returned (.bool true) ∧ w = w' := by
  go_enter Try.func17, Try.ntmps17
  go_wp2
  go_ret
  exact ⟨rfl, rfl⟩
theorem bytes_no (a : ByteArray) (k c : Int) (w : World) (h : ¬ a.size ≤ 1048576) :
    Calls Try.prog 17 #[.string a, .int .i64 k, .int .u8 c] w fun e w' => e = .returned (.bool false) ∧ w = w' := by
  go_enter Try.func17, Try.ntmps17
  go_wp2
  go_ret
  exact ⟨rfl, rfl⟩

/-! ### what the changed byte does -/
/-- s with byte k turned to c -/
def turned (s : ByteArray) (k c : Nat) : List UInt8 := s.data.toList.set k (UInt8.ofNat c)
theorem turned_len (s : ByteArray) (k c : Nat) : (turned s k c).length = s.size := by unfold turned; simp
theorem turned_at {s : ByteArray} {k c : Nat} (hc : c ≤ 255) (j : Nat) (hj : j < (turned s k c).length) : ((turned s k c)[j]).toNat = if j = k then c else byteAt s j := by
  have hl := turned_len s k c
  unfold turned at hj ⊢
  unfold turned at hl
  rw [List.getElem_set]
  by_cases e : j = k
  · rw [if_pos e.symm, if_pos e]; simp; omega
  · rw [if_neg (fun h => e h.symm), if_neg e]
    have h' : j < s.data.toList.length := by simpa using (show j < s.size by omega)
    unfold byteAt
    rw [List.getD_eq_getElem?_getD, List.getElem?_eq_getElem h']
    rfl
theorem byteAt_turned {s : ByteArray} {k c : Nat} (hk : k < s.size) (hc : c ≤ 255) : byteAt ⟨(turned s k c).toArray⟩ k = c := by
  have hj : k < (turned s k c).length := by rw [turned_len]; exact hk
  have := turned_at hc k hj
  rw [if_pos rfl] at this
  unfold byteAt
  rw [List.getD_eq_getElem?_getD, List.toList_toArray, List.getElem?_eq_getElem hj]
  exact this
theorem low_ne {x y : Nat} (h1 : x ≠ y) (h2 : ¬ (Letter x ∧ Letter y ∧ low x = low y)) : low x ≠ low y := by
  intro h
  refine h2 ⟨?_, ?_, h⟩ <;> (unfold low at h; unfold Letter; split at h <;> split at h) <;> omega
theorem not_fold_turned {s : ByteArray} {k c : Nat} (hk : k < s.size) (hc : c ≤ 255) (h1 : byteAt s k ≠ c) (h2 : ¬ (Letter (byteAt s k) ∧ Letter c ∧ low (byteAt s k) = low c)) : ¬ Fold s ⟨(turned s k c).toArray⟩ := by
  intro h
  have := h.2 k hk
  rw [byteAt_turned hk hc] at this
  exact low_ne h1 h2 this
theorem not_fold_cut {s : ByteArray} {k : Nat} (hk : k < s.size) : ¬ Fold s (s.extract 0 k) := by
  intro h
  have := h.1
  rw [ByteArray.size_extract] at this
  omega
end Go.Proofs.Qxb6003357a.Callees
