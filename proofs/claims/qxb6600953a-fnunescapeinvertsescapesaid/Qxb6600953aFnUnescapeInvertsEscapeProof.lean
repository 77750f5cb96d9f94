/- A proof of the given statement: the frame is the tool's shell, the lemmas and the walk are ours. -/
import Derived.Test.Qxb6600953aRows
import Derived.WalkKit
import Derived.ProofKit
import Derived.OpenShut
import Derived.ShutString
import Derived.WalkSpells
namespace Go.Proofs.Qxb6600953a.fnUnescapeInvertsEscape
open Go.ChangeShapes Go.WideShapes Go.ChangeAt Go.RowKit
open Go.ChangeMaps (open_string shut_string)
set_option linter.unusedVariables false      -- a walk need not use every 'w<i>' (that an integer argument fits its kind)

theorem own : ownKnob Try.prog.godebug = none := by kernel_rfl

/-- what is asked of one byte -/
def Good (n : Int) (w : World) : Prop := Calls Try.prog 3 #[.int .u8 n] w fun e w' => e = .returned (.bool true) ∧ Grown w w'
theorem at8 (w : World) : Good 8 w := by
  unfold Good
  go_enter Try.func3, Try.ntmps3
  go_wp2
  go_ret
  exact ⟨rfl, Grown.refl _⟩
theorem at12 (w : World) : Good 12 w := by
  unfold Good
  go_enter Try.func3, Try.ntmps3
  go_wp2
  go_ret
  exact ⟨rfl, Grown.refl _⟩
theorem at10 (w : World) : Good 10 w := by
  unfold Good
  go_enter Try.func3, Try.ntmps3
  go_wp2
  go_ret
  exact ⟨rfl, Grown.refl _⟩
theorem at13 (w : World) : Good 13 w := by
  unfold Good
  go_enter Try.func3, Try.ntmps3
  go_wp2
  go_ret
  exact ⟨rfl, Grown.refl _⟩
theorem at9 (w : World) : Good 9 w := by
  unfold Good
  go_enter Try.func3, Try.ntmps3
  go_wp2
  go_ret
  exact ⟨rfl, Grown.refl _⟩
theorem at34 (w : World) : Good 34 w := by
  unfold Good
  go_enter Try.func3, Try.ntmps3
  go_wp2
  go_ret
  exact ⟨rfl, Grown.refl _⟩
theorem at92 (w : World) : Good 92 w := by
  unfold Good
  go_enter Try.func3, Try.ntmps3
  go_wp2
  go_ret
  exact ⟨rfl, Grown.refl _⟩
theorem at47 (w : World) : Good 47 w := by
  unfold Good
  go_enter Try.func3, Try.ntmps3
  go_wp2
  go_ret
  exact ⟨rfl, Grown.refl _⟩
theorem at98 (w : World) : Good 98 w := by
  unfold Good
  go_enter Try.func3, Try.ntmps3
  go_wp2
  go_ret
  exact ⟨rfl, Grown.refl _⟩
theorem at102 (w : World) : Good 102 w := by
  unfold Good
  go_enter Try.func3, Try.ntmps3
  go_wp2
  go_ret
  exact ⟨rfl, Grown.refl _⟩
theorem at110 (w : World) : Good 110 w := by
  unfold Good
  go_enter Try.func3, Try.ntmps3
  go_wp2
  go_ret
  exact ⟨rfl, Grown.refl _⟩
theorem at114 (w : World) : Good 114 w := by
  unfold Good
  go_enter Try.func3, Try.ntmps3
  go_wp2
  go_ret
  exact ⟨rfl, Grown.refl _⟩
theorem at116 (w : World) : Good 116 w := by
  unfold Good
  go_enter Try.func3, Try.ntmps3
  go_wp2
  go_ret
  exact ⟨rfl, Grown.refl _⟩
/-- a byte that is neither written as a short escape nor an escape letter -/
theorem other (n : Int) (w : World) (n8 : (n == 8) = false) (n12 : (n == 12) = false) (n10 : (n == 10) = false) (n13 : (n == 13) = false) (n9 : (n == 9) = false) (n34 : (n == 34) = false) (n92 : (n == 92) = false) (n47 : (n == 47) = false) (n98 : (n == 98) = false) (n102 : (n == 102) = false) (n110 : (n == 110) = false) (n114 : (n == 114) = false) (n116 : (n == 116) = false) : Good n w := by
  unfold Good
  go_enter Try.func3, Try.ntmps3
  go_wp2
  go_ret
  exact ⟨rfl, Grown.refl _⟩


/-! ### The walk: the Go text returns true. -/
theorem walk (a0 : Int) (w0 : (Lit.int .u8 a0).wf = true) (w : World) :
    Calls Try.prog 3 #[.int .u8 a0] w fun e w' => e = .returned (.bool true) ∧ Grown w w' := by
  show Good a0 w
  by_cases n8 : a0 = 8
  · rw [n8]; exact at8 w
  by_cases n12 : a0 = 12
  · rw [n12]; exact at12 w
  by_cases n10 : a0 = 10
  · rw [n10]; exact at10 w
  by_cases n13 : a0 = 13
  · rw [n13]; exact at13 w
  by_cases n9 : a0 = 9
  · rw [n9]; exact at9 w
  by_cases n34 : a0 = 34
  · rw [n34]; exact at34 w
  by_cases n92 : a0 = 92
  · rw [n92]; exact at92 w
  by_cases n47 : a0 = 47
  · rw [n47]; exact at47 w
  by_cases n98 : a0 = 98
  · rw [n98]; exact at98 w
  by_cases n102 : a0 = 102
  · rw [n102]; exact at102 w
  by_cases n110 : a0 = 110
  · rw [n110]; exact at110 w
  by_cases n114 : a0 = 114
  · rw [n114]; exact at114 w
  by_cases n116 : a0 = 116
  · rw [n116]; exact at116 w
  exact other a0 w (beq_false_of_ne n8) (beq_false_of_ne n12) (beq_false_of_ne n10) (beq_false_of_ne n13) (beq_false_of_ne n9) (beq_false_of_ne n34) (beq_false_of_ne n92) (beq_false_of_ne n47) (beq_false_of_ne n98) (beq_false_of_ne n102) (beq_false_of_ne n110) (beq_false_of_ne n114) (beq_false_of_ne n116)

/-! ### THE ROW's STEP: WRITTEN OUT: LEAVE IT -/
set_option maxRecDepth 100000 in
theorem lifted (os : Os) (started : os.Started) (H : Type) (enc : TypeId × Value → H) :
    ReturnsInHanded {} Try.checked os 3 .any (Rows.fnUnescapeInvertsEscapeSpec.pre6 enc Try.prog Try.f3 Rows.fnUnescapeInvertsEscapeRow.domain false) (Rows.fnUnescapeInvertsEscapeSpec.post enc Try.prog Try.f3 false true false false) := by
  refine returnsInHanded_of_change (C := Try.checked) own started (by kernel_rfl) Try.func3
    (ChangeSpec.witness6 (enc := enc) (C := Try.checked) false ⟨#[], #[.int .u8 0], []⟩ 8 (by kernel_rfl) (by kernel_rfl) (by kernel_rfl) (by kernel_rfl)) ?_
  intro W base args ds gs before hval0 hW hcnd _
  have hval : ∀ (j : Nat) t v, Try.f3.params[j]? = some t → args[j]? = some v → Value.okWide Try.prog W .any base t v := hval0
  have hW' := hW
  obtain ⟨p, q, hA0, hV, rfl, hfz, hnd⟩ := hW
  have hA : DataW.TrodAll enc Try.prog W 0 (fun _ => true) true Try.f3.params.toList args.toList ds p := hA0
  rw [Try.params3] at hA hval
  obtain ⟨v0, vs0, d0, ds0, p0, q0, hargs, rfl, rfl, h0, r0⟩ := trodAll_cons hA
  obtain ⟨rfl, rfl, rfl⟩ := trodAll_nil r0
  obtain rfl : args = #[v0] := by cases args; simp_all
  obtain ⟨rfl, rfl⟩ := trodVars_none hV
  obtain ⟨a0, rfl, rfl, rfl, w0⟩ := open_int Try.underlying5 (hval 0 5 v0 rfl rfl) h0
  clear hA0 hval0
  simp only [List.append_nil] at hW'
  refine (walk a0 w0 W).mono fun e W' ⟨he, hg⟩ => ?_
  subst he
  exact ⟨_, rfl, post_of_same (pa := []) (pv := []) hW' (fun _ _ _ => (trodAll_cons_mk (shut_bool Try.underlying4 _) trodAll_mk0)) (fun sp _ => (trodAll_cons_mk (shut_int Try.underlying5 w0) trodAll_mk0)) (fun _ _ => rfl) rfl
    (hg.frame _) hg.2.1 (ok_one (by kernel_rfl) rfl (okWide_bool_mk Try.underlying4 _))⟩

theorem over : Rows.fnUnescapeInvertsEscapeRow.holds Try.pinned (OpenSpec.ofChange Rows.fnUnescapeInvertsEscapeSpec) :=
  OpenClaim.holds_of_wide 3 Try.f3 rfl rfl rfl rfl rfl rfl rfl ⟨rfl, rfl, rfl, rfl, rfl⟩ rfl rfl rfl rfl rfl (by kernel_rfl) Try.func3 (by kernel_rfl)
    (of_decide_eq_true (by kernel_rfl)) (by unfold Func.isWrapper; first | (rw [if_pos (by decide +kernel)]; kernel_rfl) | (rw [if_neg (by decide +kernel)]; exact ⟨rfl, rfl⟩))
    (fun os started H enc _ => lifted os started H enc)

/-- ████ THE STATEMENT ████ -/
theorem proved : Rows.FnUnescapeInvertsEscapeSaid :=
  over
end Go.Proofs.Qxb6600953a.fnUnescapeInvertsEscape
