/- A proof of the given statement: the frame is the tool's shell, the lemmas and the walk are ours. -/
import Derived.Test.Qxb6603700aRows
import Derived.WalkKit
import Derived.ProofKit
import Derived.OpenShut
import Derived.ShutString
import Derived.WalkSpells
import Derived.Below
import Derived.Test.Qxb6603700aCallees
namespace Go.Proofs.Qxb6603700a.fnValidMatchesGroupModel
open Go.ChangeShapes Go.WideShapes Go.ChangeAt Go.RowKit
open Go.ChangeMaps (open_string shut_string)
set_option linter.unusedVariables false      -- a walk need not use every 'w<i>' (that an integer argument fits its kind)

theorem own : ownKnob Try.prog.godebug = none := by kernel_rfl

open Go.Proofs.Qxb6603700a.Plain Go.Proofs.Qxb6603700a.Callees

theorem bytes_yes (a : ByteArray) (w : World) (h : a.size ≤ 1048576) :
    Calls Try.prog 11 #[.string a] w fun e w' => e = .returned (.bool true) ∧ w' = w := by
  go_enter Try.func11, Try.ntmps11
  go_wp2
  go_ret
  exact ⟨rfl, rfl⟩
theorem bytes_no (a : ByteArray) (w : World) (h : ¬ a.size ≤ 1048576) :
    Calls Try.prog 11 #[.string a] w fun e w' => e = .returned (.bool false) ∧ w' = w := by
  go_enter Try.func11, Try.ntmps11
  go_wp2
  go_ret
  exact ⟨rfl, rfl⟩
theorem ret_int {k : IntKind} {a b : Int} (h : a = b) : Ending.returned (.int k a) = .returned (.int k b) := by rw [h]
theorem glen_any (g : Nat) (w : World) (h : g ≤ 4) :
    Calls Try.prog 12 #[.int .i64 g] w fun e w' => e = .returned (.int .i64 (glen g)) ∧ w' = w := by
  by_cases h4 : g = 4
  · subst h4
    go_enter Try.func12, Try.ntmps12
    go_wp2
    go_ret
    exact ⟨ret_int rfl, rfl⟩
  · have n4 : (g : Int) ≠ 4 := by omega
    by_cases h0 : g = 0
    · subst h0
      go_enter Try.func12, Try.ntmps12
      go_wp2
      go_ret
      exact ⟨ret_int rfl, rfl⟩
    · have n0 : (g : Int) ≠ 0 := by omega
      have HR : Hid ((glen g : Int) = 4) := by show ((glen g : Nat) : Int) = 4; unfold glen; rw [if_neg h4, if_neg h0]; rfl
      go_enter Try.func12, Try.ntmps12
      go_wp2
      go_ret
      exact ⟨ret_int HR.out.symm, rfl⟩

/-- what holds at the loop's head: want still true, and the place is told by group and run; or want false, and s is no canonical text -/
def Head (s : ByteArray) (want group run i : Value) : Prop :=
  ∃ k g r : Nat, k ≤ s.size ∧ i = .int .i64 k ∧ group = .int .i64 g ∧ run = .int .i64 r ∧ g ≤ 4 ∧ r ≤ 13 ∧
    ((want = .bool true ∧ At k g r ∧ ∀ j, j < k → Ok j (byteAt s j)) ∨ (want = .bool false ∧ ¬ Valid s))

/-! ### The walk: the Go text returns true. -/
set_option maxHeartbeats 2000000 in
theorem walk (a0 : ByteArray) (w0 : a0.size ≤ maxLen) (w : World) :
    Calls Try.prog 4 #[.string a0] w fun e w' => e = .returned (.bool true) ∧ Below w.heap.size w w' := by
  unfold maxLen at w0
  by_cases hb : a0.size ≤ 1048576
  · go_enter Try.func4, Try.ntmps4
    go_wp2_with fail
    refine (bytes_yes a0 _ hb).mono ?_
    rintro e w' ⟨rfl, rfl⟩
    go_wp2_with fail
    go_loop [3, 4, 5, 6] (fun want group run i => Head a0 want group run i) (fun _ _ _ i => a0.size - (intOf i).toNat)
    case atStart => exact ⟨0, 0, 0, Nat.zero_le _, rfl, rfl, rfl, by omega, by omega, Or.inl ⟨rfl, by unfold At; omega, fun j hj => absurd hj (by omega)⟩⟩
    case round =>
      obtain ⟨k, g, r, hk, rfl, rfl, rfl, hg, hr, hrest⟩ := hrel
      rcases hrest with ⟨rfl, hat, hok⟩ | ⟨rfl, hnv⟩
      · by_cases hlt : k < a0.size
        · have d0 : decide ((k : Int) < (a0.size : Int)) = true := by simp; omega
          have hbd := hat.bd
          have hgl := glen_bd g
          have HA : Hid (At k g r) := hat
          have HO : Hid (∀ j, j < k → Ok j (byteAt a0 j)) := hok
          have HB : Hid (byteAt a0 k = (a0[k]'hlt).toNat) := byteAt_eq a0 k hlt
          clear hat hok
          by_cases h45 : (a0[k]'hlt).toNat = 45
          · have H45 : Hid (byteAt a0 k = 45) := HB.out.trans h45
            have t45 : (((a0[k]'hlt).toNat : Int) == 45) = true := by simp; omega
            clear h45 HB
            by_cases hgood : g < 4 ∧ r = glen g
            · obtain ⟨hg4, hrg⟩ := hgood
              have d4 : decide ((4 : Int) ≤ (g : Int)) = false := by simp; omega
              have dr : ((r : Int) != (glen g : Int)) = false := by simp; omega
              have R := dash_good HA.out hg4 hrg
              have HR : Hid (Head a0 (.bool true) (.int .i64 ((g + 1 : Nat) : Int)) (.int .i64 ((0 : Nat) : Int)) (.int .i64 ((k + 1 : Nat) : Int))) :=
                ⟨k + 1, g + 1, 0, hlt, rfl, rfl, rfl, by omega, by omega, Or.inl ⟨rfl, R.1, ok_succ HO.out (by rw [H45.out]; exact R.2)⟩⟩
              clear R hrg HA HO H45
              go_wp2_with (go_at_call 12; refine (glen_any _ _ (by omega)).mono ?_; rintro e w' ⟨rfl, rfl⟩)
              go_round
              case rel => exact HR.out
              case measure => simp [intOf]; omega
            · have hv : Hid (¬ Valid a0) := not_valid hlt (fun hi => by rw [H45.out]; exact dash_bad HA.out (by omega) hi)
              have HR : Hid (Head a0 (.bool false) (.int .i64 (g : Int)) (.int .i64 (r : Int)) (.int .i64 ((k + 1 : Nat) : Int))) :=
                ⟨k + 1, g, r, hlt, rfl, rfl, rfl, by omega, by omega, Or.inr ⟨rfl, hv.out⟩⟩
              clear HA HO H45
              by_cases hg4 : 4 ≤ g
              · have d4 : decide ((4 : Int) ≤ (g : Int)) = true := by simp; omega
                clear hgood
                go_wp2_with fail
                go_round
                case rel => exact HR.out
                case measure => simp [intOf]; omega
              · have d4 : decide ((4 : Int) ≤ (g : Int)) = false := by simp; omega
                have dr : ((r : Int) != (glen g : Int)) = true := by simp; omega
                clear hgood
                go_wp2_with (go_at_call 12; refine (glen_any _ _ (by omega)).mono ?_; rintro e w' ⟨rfl, rfl⟩)
                go_round
                case rel => exact HR.out
                case measure => simp [intOf]; omega
          · have t45 : (((a0[k]'hlt).toNat : Int) == 45) = false := by simp; omega
            by_cases hx : (48 ≤ ((a0[k]'hlt).toNat : Int) ∧ ((a0[k]'hlt).toNat : Int) ≤ 57) ∨ (97 ≤ ((a0[k]'hlt).toNat : Int) ∧ ((a0[k]'hlt).toNat : Int) ≤ 102)
            · have HX : Hid ((48 ≤ ((a0[k]'hlt).toNat : Int) ∧ ((a0[k]'hlt).toNat : Int) ≤ 57) ∨ (97 ≤ ((a0[k]'hlt).toNat : Int) ∧ ((a0[k]'hlt).toNat : Int) ≤ 102)) := hx
              have hh : Hex (byteAt a0 k) := by rw [HB.out]; unfold Hex; omega
              clear hx h45 HB
              by_cases hr1 : r + 1 ≤ glen g
              · have R := digit_good HA.out hr1 hh
                have HR : Hid (Head a0 (.bool true) (.int .i64 (g : Int)) (.int .i64 ((r + 1 : Nat) : Int)) (.int .i64 ((k + 1 : Nat) : Int))) :=
                  ⟨k + 1, g, r + 1, hlt, rfl, rfl, rfl, by omega, by omega, Or.inl ⟨rfl, R.1, ok_succ HO.out R.2⟩⟩
                clear R HA HO hh
                go_wp2_with (first | (go_at_call 7; refine (hex_yes _ _ HX.out).mono ?_; rintro e w' ⟨rfl, rfl⟩) | (go_at_call 12; refine (glen_any _ _ (by omega)).mono ?_; rintro e w' ⟨rfl, rfl⟩))
                go_round
                case rel => exact HR.out
                case measure => simp [intOf]; omega
              · have hv : Hid (¬ Valid a0) := not_valid hlt (fun hi => digit_bad HA.out (by omega) hh hi)
                have HR : Hid (Head a0 (.bool false) (.int .i64 (g : Int)) (.int .i64 ((r + 1 : Nat) : Int)) (.int .i64 ((k + 1 : Nat) : Int))) :=
                  ⟨k + 1, g, r + 1, hlt, rfl, rfl, rfl, by omega, by omega, Or.inr ⟨rfl, hv.out⟩⟩
                clear HA HO hh
                go_wp2_with (first | (go_at_call 7; refine (hex_yes _ _ HX.out).mono ?_; rintro e w' ⟨rfl, rfl⟩) | (go_at_call 12; refine (glen_any _ _ (by omega)).mono ?_; rintro e w' ⟨rfl, rfl⟩))
                go_round
                case rel => exact HR.out
                case measure => simp [intOf]; omega
            · have HX : Hid (¬ ((48 ≤ ((a0[k]'hlt).toNat : Int) ∧ ((a0[k]'hlt).toNat : Int) ≤ 57) ∨ (97 ≤ ((a0[k]'hlt).toNat : Int) ∧ ((a0[k]'hlt).toNat : Int) ≤ 102))) := hx
              have hv : Hid (¬ Valid a0) := not_valid hlt (fun _ => other_bad (by rw [HB.out]; exact h45) (by rw [HB.out]; unfold Hex; omega))
              have HR : Hid (Head a0 (.bool false) (.int .i64 (g : Int)) (.int .i64 (r : Int)) (.int .i64 ((k + 1 : Nat) : Int))) :=
                ⟨k + 1, g, r, hlt, rfl, rfl, rfl, by omega, by omega, Or.inr ⟨rfl, hv.out⟩⟩
              clear HA HO HB hx h45
              go_wp2_with (go_at_call 7; refine (hex_no _ _ HX.out).mono ?_; rintro e w' ⟨rfl, rfl⟩)
              go_round
              case rel => exact HR.out
              case measure => simp [intOf]; omega
        · have d0 : decide ((k : Int) < (a0.size : Int)) = false := by simp; omega
          have hke : k = a0.size := by omega
          subst hke
          by_cases hgood : g = 4 ∧ r = 12
          · obtain ⟨rfl, rfl⟩ := hgood
            have hv : Hid (Valid a0) := end_good hat rfl hok
            clear hat hok
            go_wp2_with (go_at_call 10; refine (valid_yes _ _ hv.out).mono ?_; rintro e w' ⟨rfl, hbel⟩)
            go_ret
            exact ⟨rfl, by assumption⟩
          · have hv : Hid (¬ Valid a0) := end_bad hat hgood
            clear hat hok
            by_cases hg4 : g = 4
            · subst hg4
              have dr : ((r : Int) != 12) = true := by simp; omega
              clear hgood
              go_wp2_with (go_at_call 10; refine (valid_no _ _ hv.out).mono ?_; rintro e w' ⟨rfl, hbel⟩)
              go_ret
              exact ⟨rfl, by assumption⟩
            · have dg : ((g : Int) != 4) = true := by simp; omega
              clear hgood hg4
              go_wp2_with (go_at_call 10; refine (valid_no _ _ hv.out).mono ?_; rintro e w' ⟨rfl, hbel⟩)
              go_ret
              exact ⟨rfl, by assumption⟩
      · by_cases hlt : k < a0.size
        · have d0 : decide ((k : Int) < (a0.size : Int)) = true := by simp; omega
          have hv : Hid (¬ Valid a0) := hnv
          clear hnv
          go_wp2_with (go_at_call 10; refine (valid_no _ _ hv.out).mono ?_; rintro e w' ⟨rfl, hbel⟩)
          go_ret
          exact ⟨rfl, by assumption⟩
        · have d0 : decide ((k : Int) < (a0.size : Int)) = false := by simp; omega
          have hv : Hid (¬ Valid a0) := hnv
          clear hnv
          go_wp2_with (go_at_call 10; refine (valid_no _ _ hv.out).mono ?_; rintro e w' ⟨rfl, hbel⟩)
          go_ret
          exact ⟨rfl, by assumption⟩
  · go_enter Try.func4, Try.ntmps4
    go_wp2_with fail
    refine (bytes_no a0 _ hb).mono ?_
    rintro e w' ⟨rfl, rfl⟩
    go_wp2
    go_ret
    exact ⟨rfl, Below.refl _ _⟩

/-! ### THE ROW's STEP: WRITTEN OUT: LEAVE IT -/
set_option maxRecDepth 100000 in
theorem lifted (os : Os) (started : os.Started) (H : Type) (enc : TypeId × Value → H) :
    ReturnsInHanded {} Try.checked os 4 .any (Rows.fnValidMatchesGroupModelSpec.pre6 enc Try.prog Try.f4 Rows.fnValidMatchesGroupModelRow.domain false) (Rows.fnValidMatchesGroupModelSpec.post enc Try.prog Try.f4 false true false false) := by
  refine returnsInHanded_of_change (C := Try.checked) own started (by kernel_rfl) Try.func4
    (ChangeSpec.witness6 (enc := enc) (C := Try.checked) false ⟨#[], #[.string ByteArray.empty], []⟩ 8 (by kernel_rfl) (by kernel_rfl) (by kernel_rfl) (by kernel_rfl)) ?_
  intro W base args ds gs before hval0 hW hcnd _
  have hval : ∀ (j : Nat) t v, Try.f4.params[j]? = some t → args[j]? = some v → Value.okWide Try.prog W .any base t v := hval0
  have hW' := hW
  obtain ⟨p, q, hA0, hV, rfl, hfz, hnd⟩ := hW
  have hA : DataW.TrodAll enc Try.prog W 0 (fun _ => true) true Try.f4.params.toList args.toList ds p := hA0
  rw [Try.params4] at hA hval
  obtain ⟨v0, vs0, d0, ds0, p0, q0, hargs, rfl, rfl, h0, r0⟩ := trodAll_cons hA
  obtain ⟨rfl, rfl, rfl⟩ := trodAll_nil r0
  obtain rfl : args = #[v0] := by cases args; simp_all
  obtain ⟨rfl, rfl⟩ := trodVars_none hV
  obtain ⟨a0, rfl, rfl, rfl, w0⟩ := open_string Try.underlying9 (hval 0 9 v0 rfl rfl) h0
  clear hA0 hval0
  simp only [List.append_nil] at hW'
  refine (walk a0 w0 W).mono fun e W' ⟨he, hg⟩ => ?_
  subst he
  exact ⟨_, rfl, _, _, _, [], [], [], hW', (trodAll_cons_mk (shut_bool Try.underlying4 _) trodAll_mk0), (trodAll_cons_mk (shut_string Try.underlying9 w0) trodAll_mk0), rfl, hg.frame _, fun h => by cases h⟩

theorem over : Rows.fnValidMatchesGroupModelRow.holds Try.pinned (OpenSpec.ofChange Rows.fnValidMatchesGroupModelSpec) :=
  OpenClaim.holds_of_wide 4 Try.f4 rfl rfl rfl rfl rfl rfl rfl ⟨rfl, rfl, rfl, rfl, rfl⟩ rfl rfl rfl rfl rfl (by kernel_rfl) Try.func4 (by kernel_rfl)
    (of_decide_eq_true (by kernel_rfl)) (by unfold Func.isWrapper; first | (rw [if_pos (by decide +kernel)]; kernel_rfl) | (rw [if_neg (by decide +kernel)]; exact ⟨rfl, rfl⟩))
    (fun os started H enc _ => lifted os started H enc)

/-- ████ THE STATEMENT ████ -/
theorem proved : Rows.FnValidMatchesGroupModelSaid :=
  over
end Go.Proofs.Qxb6603700a.fnValidMatchesGroupModel
