/- The contracts of the functions that both statements' roads go through. -/
import Derived.Test.Qxb6603700aRows
import Derived.Test.Qxb6603700aPlain
import Derived.WalkKit
import Derived.ProofKit
import Derived.OpenShut
import Derived.ShutString
import Derived.WalkSpells
import Derived.Laws.IdiomStrings
namespace Go.Proofs.Qxb6603700a.Callees
open Go.ChangeShapes Go.WideShapes Go.ChangeAt Go.RowKit
open Go.Proofs.Qxb6603700a.Plain

theorem hex_yes (n : Int) (w : World) (h : (48 ≤ n ∧ n ≤ 57) ∨ (97 ≤ n ∧ n ≤ 102)) :
    Calls Try.prog 7 #[.int .u8 n] w fun e w' => e = .returned (.bool true) ∧ w' = w := by
  rcases h with ⟨h1, h2⟩ | ⟨h1, h2⟩
  · go_enter Try.func7, Try.ntmps7
    go_wp2
    go_ret
    exact ⟨rfl, rfl⟩
  · go_enter Try.func7, Try.ntmps7
    go_wp2
    go_ret
    exact ⟨rfl, rfl⟩

theorem hex_no (n : Int) (w : World) (h : ¬ ((48 ≤ n ∧ n ≤ 57) ∨ (97 ≤ n ∧ n ≤ 102))) :
    Calls Try.prog 7 #[.int .u8 n] w fun e w' => e = .returned (.bool false) ∧ w' = w := by
  rcases (show n < 48 ∨ (57 < n ∧ n < 97) ∨ 102 < n from by omega) with h1 | ⟨h1, h2⟩ | h1
  · clear h
    go_enter Try.func7, Try.ntmps7
    go_wp2
    go_ret
    exact ⟨rfl, rfl⟩
  · have d1 : decide (n ≤ 57) = false := by simp; omega
    clear h
    go_enter Try.func7, Try.ntmps7
    go_wp2
    go_ret
    exact ⟨rfl, rfl⟩
  · have d1 : decide (n ≤ 57) = false := by simp; omega
    have d2 : decide (n ≤ 102) = false := by simp; omega
    clear h
    go_enter Try.func7, Try.ntmps7
    go_wp2
    go_ret
    exact ⟨rfl, rfl⟩

/-- how Valid ends: b tells whether every place holds a byte that may stand there; no old memory has turned (a definition, so that the walk does not take it apart) -/
def VEnd (s : ByteArray) (w : World) (e : Ending) (w' : World) : Prop :=
  ∃ b : Bool, e = .returned (.bool b) ∧ (b = true ↔ ∀ j, j < 36 → Ok j (byteAt s j)) ∧ Below w.heap.size w w'

set_option maxHeartbeats 1000000 in
theorem valid_core (s : ByteArray) (cap : Nat) (C : Array Value) (w : World) (hs : s.size = 36)
    (hconv : (convert 9 31 (.string s)).run Try.prog w = .ok (.slice (some ⟨w.heap.size, 0, none⟩) 36 cap) (w.drew.alloc (.cells C 5 (C.size, C.size + 1))))
    (hcell : ∀ j, j < 36 → (w.alloc (.cells C 5 (C.size, C.size + 1))).cell? ⟨w.heap.size, j, none⟩ = some (.int .u8 (byteAt s j))) :
    Calls Try.prog 10 #[.string s] w fun e w' => VEnd s w e w' := by
  have hs1 : s.size ≤ 36 := by omega
  have hs2 : 36 ≤ s.size := by omega
  clear hs
  go_enter Try.func10, Try.ntmps10
  go_wp2
  go_loop [11] (fun i => ∃ k : Nat, k ≤ 36 ∧ i = .int .i64 k ∧ ∀ j, j < k → Ok j (byteAt s j)) (fun i => 36 - (intOf i).toNat)
  case atStart => exact ⟨0, by omega, rfl, fun j hj => absurd hj (by omega)⟩
  case round =>
    obtain ⟨k, hk, rfl, hok0⟩ := hrel
    have HO : Hid (∀ j, j < k → Ok j (byteAt s j)) := hok0
    clear hok0
    by_cases hlt : k < 36
    · have hc := hcell k hlt
      have HS : Hid (Ok k (byteAt s k) → ∀ j, j < k + 1 → Ok j (byteAt s j)) := fun h => ok_succ HO.out h
      have HN : Hid (¬ Ok k (byteAt s k) → ∀ b : Bool, b = false → (b = true ↔ ∀ j, j < 36 → Ok j (byteAt s j))) := fun h b hb => ⟨fun e => by simp [hb] at e, fun e => absurd (e k hlt) h⟩
      have hbd := byteAt_le s k
      clear hcell HO
      generalize byteAt s k = c at hc hbd HS HN
      by_cases hsep : k = 8 ∨ k = 13 ∨ k = 18 ∨ k = 23
      · by_cases h45 : c = 45
        · have R := HS.out (Or.inl ⟨hsep, h45⟩)
          have HR : Hid (∀ j, j < k + 1 → Ok j (byteAt s j)) := R
          clear R HS HN
          subst h45
          rcases hsep with rfl | rfl | rfl | rfl
          all_goals
            go_wp2
            go_round
            case rel => exact ⟨_, by omega, by go_num, HR.out⟩
            case measure => simp [intOf]
        · have R := HN.out (by unfold Ok IsSep; omega) false rfl
          have HR : Hid (false = true ↔ ∀ j, j < 36 → Ok j (byteAt s j)) := R
          clear R HS HN
          have h45' : (c : Int) ≠ 45 := by omega
          rcases hsep with rfl | rfl | rfl | rfl
          all_goals
            go_wp2
            go_ret
            exact ⟨false, rfl, HR.out, ((Below.refl _ _).alloc (Nat.le_refl _) _).drew⟩
      · have n1 : (k : Int) ≠ 8 := by omega
        have n2 : (k : Int) ≠ 13 := by omega
        have n3 : (k : Int) ≠ 18 := by omega
        have n4 : (k : Int) ≠ 23 := by omega
        by_cases hx : (48 ≤ c ∧ c ≤ 57) ∨ (97 ≤ c ∧ c ≤ 102)
        · have HR : Hid (∀ j, j < k + 1 → Ok j (byteAt s j)) := HS.out (Or.inr ⟨hsep, hx⟩)
          clear HS HN hsep
          rcases hx with ⟨x1, x2⟩ | ⟨x1, x2⟩
          · have d1 : decide ((c : Int) ≤ 57) = true := by simp; omega
            have d3 : decide ((48 : Int) ≤ (c : Int)) = true := by simp; omega
            go_wp2
            go_round
            case rel => exact ⟨k + 1, by omega, by go_num, HR.out⟩
            case measure => simp [intOf]; omega
          · have d1 : decide ((c : Int) ≤ 57) = false := by simp; omega
            have d2 : decide ((c : Int) ≤ 102) = true := by simp; omega
            have d3 : decide ((48 : Int) ≤ (c : Int)) = true := by simp; omega
            have d4 : decide ((97 : Int) ≤ (c : Int)) = true := by simp; omega
            go_wp2
            go_round
            case rel => exact ⟨k + 1, by omega, by go_num, HR.out⟩
            case measure => simp [intOf]; omega
        · have HR : Hid (false = true ↔ ∀ j, j < 36 → Ok j (byteAt s j)) := HN.out (by unfold Ok Hex IsSep; omega) false rfl
          clear HS HN hsep
          rcases (show c < 48 ∨ (57 < c ∧ c < 97) ∨ 102 < c from by omega) with x1 | ⟨x1, x2⟩ | x1
          · clear hx
            go_wp2
            go_ret
            exact ⟨false, rfl, HR.out, ((Below.refl _ _).alloc (Nat.le_refl _) _).drew⟩
          · have d1 : decide ((c : Int) ≤ 57) = false := by simp; omega
            clear hx
            go_wp2
            go_ret
            exact ⟨false, rfl, HR.out, ((Below.refl _ _).alloc (Nat.le_refl _) _).drew⟩
          · have d1 : decide ((c : Int) ≤ 57) = false := by simp; omega
            have d2 : decide ((c : Int) ≤ 102) = false := by simp; omega
            clear hx
            go_wp2
            go_ret
            exact ⟨false, rfl, HR.out, ((Below.refl _ _).alloc (Nat.le_refl _) _).drew⟩
    · have HR : Hid (∀ j, j < 36 → Ok j (byteAt s j)) := fun j hj => HO.out j (by omega)
      clear HO hcell
      go_wp2
      go_ret
      exact ⟨true, rfl, ⟨fun _ => HR.out, fun _ => rfl⟩, ((Below.refl _ _).alloc (Nat.le_refl _) _).drew⟩

theorem valid_any (s : ByteArray) (w : World) :
    Calls Try.prog 10 #[.string s] w fun e w' => ∃ b : Bool, e = .returned (.bool b) ∧ (b = true ↔ Valid s) ∧ Below w.heap.size w w' := by
  by_cases h : s.size = 36
  · have hcv := run_bytes_of_string (P := Try.prog) w 9 31 5 s Try.underlying9 Try.underlying31 Try.underlying5
    rw [h] at hcv
    refine (valid_core s _ _ w h hcv (fun j hj => ?_)).mono ?_
    · rw [World.cell?_alloc_mark, bytesRow_at s _ j (by simpa using (show j < s.size by omega)), byteAt_data]
    · rintro e w' ⟨b, he, hb, hbel⟩
      exact ⟨b, he, hb.trans ⟨fun x => ⟨h, x⟩, fun x => x.2⟩, hbel⟩
  · have h' : (s.size : Int) ≠ 36 := by omega
    have HR : Hid (false = true ↔ Valid s) := ⟨fun e => by simp at e, fun e => absurd e.1 h⟩
    clear h
    go_enter Try.func10, Try.ntmps10
    go_wp2
    go_ret
    exact ⟨false, rfl, HR.out, Below.refl _ _⟩

theorem valid_yes (s : ByteArray) (w : World) (h : Valid s) :
    Calls Try.prog 10 #[.string s] w fun e w' => e = .returned (.bool true) ∧ Below w.heap.size w w' := by
  refine (valid_any s w).mono ?_
  rintro e w' ⟨b, he, hb, hbel⟩
  rw [hb.2 h] at he
  exact ⟨he, hbel⟩
theorem valid_no (s : ByteArray) (w : World) (h : ¬ Valid s) :
    Calls Try.prog 10 #[.string s] w fun e w' => e = .returned (.bool false) ∧ Below w.heap.size w w' := by
  refine (valid_any s w).mono ?_
  rintro e w' ⟨b, he, hb, hbel⟩
  have : b = false := by
    cases b
    · rfl
    · exact absurd (hb.1 rfl) h
  rw [this] at he
  exact ⟨he, hbel⟩
end Go.Proofs.Qxb6603700a.Callees
