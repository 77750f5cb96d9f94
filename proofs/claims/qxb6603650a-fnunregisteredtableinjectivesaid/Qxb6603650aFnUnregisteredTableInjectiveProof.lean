/- A proof of the given statement: the frame is the tool's shell, the lemmas and the walk are ours. -/
import Derived.Test.Qxb6603650aRows
import Derived.WalkKit
import Derived.ProofKit
import Derived.OpenShut
import Derived.ShutString
namespace Go.Proofs.Qxb6603650a.fnUnregisteredTableInjective
open Go.ChangeShapes Go.WideShapes Go.ChangeAt Go.RowKit
open Go.ChangeMaps (open_string shut_string)
set_option linter.unusedVariables false      -- a walk need not use every 'w<i>' (that an integer argument fits its kind)

theorem own : ownKnob Try.prog.godebug = none := by kernel_rfl

/-! ### The plain law: no Go in sight -/
/-- the thirteen bytes that the program appends -/
def sfx : ByteArray := { data := #[95, 117, 110, 114, 101, 103, 105, 115, 116, 101, 114, 101, 100] }
/-- y is a with the suffix behind it (a definition, so that the walk takes it for no rule) -/
def Ext (a y : ByteArray) : Prop := y = a ++ sfx
theorem sfx_size : sfx.size = 13 := rfl
theorem Ext.size {a y : ByteArray} (h : Ext a y) : y.size = a.size + 13 := by
  unfold Ext at h; rw [h, ByteArray.size_append, sfx_size]
theorem Ext.list {a y : ByteArray} (h : Ext a y) : y.toList = a.toList ++ sfx.toList := by
  unfold Ext at h; rw [h]; simp only [ByteArray.toList_eq]; simp
theorem Ext.cut {a y : ByteArray} (h : Ext a y) : ((y.extract 0 a.size).toList == a.toList) = true := by
  unfold Ext at h; rw [h]
  have : (a ++ sfx).extract 0 a.size = a := by
    apply ByteArray.ext; simp
  rw [this]; simp
theorem Ext.same {a b y z : ByteArray} (ha : Ext a y) (hb : Ext b z) : ((y.toList == z.toList) == (a.toList == b.toList)) = true := by
  rw [ha.list, hb.list]
  have : (a.toList ++ sfx.toList == b.toList ++ sfx.toList) = (a.toList == b.toList) := by
    rw [Bool.eq_iff_iff]; simp
  rw [this]; simp

/-! ### The contracts of the callees -/
theorem bytes_yes (a b : ByteArray) (w : World) (h : a.size + b.size ≤ 1048576) :
    Calls Try.prog 6 #[.string a, .string b] w fun e w' => e = .returned (.bool true) ∧ w' = w := by
  go_enter Try.func6, Try.ntmps6
  go_wp2
  go_ret
  exact ⟨rfl, rfl⟩
theorem bytes_no (a b : ByteArray) (w : World) (h : ¬ a.size + b.size ≤ 1048576) :
    Calls Try.prog 6 #[.string a, .string b] w fun e w' => e = .returned (.bool false) ∧ w' = w := by
  by_cases h1 : a.size ≤ 1048576
  · by_cases h2 : b.size ≤ 1048576
    · go_enter Try.func6, Try.ntmps6
      go_wp2
      go_ret
      exact ⟨rfl, rfl⟩
    · go_enter Try.func6, Try.ntmps6
      go_wp2
      go_ret
      exact ⟨rfl, rfl⟩
  · go_enter Try.func6, Try.ntmps6
    go_wp2
    go_ret
    exact ⟨rfl, rfl⟩
theorem table_any (a : ByteArray) (w : World) (h : a.size ≤ 1048576) :
    Calls Try.prog 7 #[.string a] w fun e w' => ∃ y, e = .returned (.string y) ∧ Ext a y ∧ w' = w := by
  have hno : ¬ (a.size + 13 > 9223372036854775807) := by omega
  have hs : (ByteArray.mk #[95, 117, 110, 114, 101, 103, 105, 115, 116, 101, 114, 101, 100]).size = 13 := rfl
  go_enter Try.func7, Try.ntmps7
  go_wp2
  go_ret
  exact ⟨_, rfl, rfl, rfl⟩


/-! ### The walk: the Go text returns true. -/
theorem walk (a0 : ByteArray) (a1 : ByteArray) (w0 : a0.size ≤ maxLen) (w1 : a1.size ≤ maxLen) (w : World) :
    Calls Try.prog 3 #[.string a0, .string a1] w fun e w' => e = .returned (.bool true) ∧ Grown w w' := by
  unfold maxLen at w0 w1
  by_cases hb : a0.size + a1.size ≤ 1048576
  · by_cases h0 : a0.size ≤ 65536
    · by_cases h1 : a1.size ≤ 65536
      · go_enter Try.func3, Try.ntmps3
        go_wp2_with fail
        refine (bytes_yes a0 a1 _ hb).mono ?_
        rintro e w' ⟨rfl, rfl⟩
        go_wp2_with fail
        refine (table_any a0 _ (by omega)).mono ?_
        rintro e w' ⟨y, rfl, hy, rfl⟩
        have hs := hy.size
        have hy1 : y.size ≤ a0.size + 13 := by omega
        have hy2 : a0.size + 13 ≤ y.size := by omega
        have hc := hy.cut
        clear hs
        go_wp2_with fail
        refine (table_any a1 _ (by omega)).mono ?_
        rintro e w' ⟨z, rfl, hz, rfl⟩
        have hq := hy.same hz
        go_wp2
        go_ret
        exact ⟨rfl, Grown.refl _⟩
      · go_enter Try.func3, Try.ntmps3
        go_wp2_with fail
        refine (bytes_yes a0 a1 _ hb).mono ?_
        rintro e w' ⟨rfl, rfl⟩
        go_wp2
        go_ret
        exact ⟨rfl, Grown.refl _⟩
    · go_enter Try.func3, Try.ntmps3
      go_wp2_with fail
      refine (bytes_yes a0 a1 _ hb).mono ?_
      rintro e w' ⟨rfl, rfl⟩
      go_wp2
      go_ret
      exact ⟨rfl, Grown.refl _⟩
  · go_enter Try.func3, Try.ntmps3
    go_wp2_with fail
    refine (bytes_no a0 a1 _ hb).mono ?_
    rintro e w' ⟨rfl, rfl⟩
    go_wp2
    go_ret
    exact ⟨rfl, Grown.refl _⟩

/-! ### THE ROW's STEP: WRITTEN OUT: LEAVE IT -/
set_option maxRecDepth 100000 in
theorem lifted (os : Os) (started : os.Started) (H : Type) (enc : TypeId × Value → H) :
    ReturnsInHanded {} Try.checked os 3 .any (Rows.fnUnregisteredTableInjectiveSpec.pre6 enc Try.prog Try.f3 Rows.fnUnregisteredTableInjectiveRow.domain false) (Rows.fnUnregisteredTableInjectiveSpec.post enc Try.prog Try.f3 false true false false) := by
  refine returnsInHanded_of_change (C := Try.checked) own started (by kernel_rfl) Try.func3
    (ChangeSpec.witness6 (enc := enc) (C := Try.checked) false ⟨#[], #[.string ByteArray.empty, .string ByteArray.empty], []⟩ 8 (by kernel_rfl) (by kernel_rfl) (by kernel_rfl) (by kernel_rfl)) ?_
  intro W base args ds gs before hval0 hW hcnd _
  have hval : ∀ (j : Nat) t v, Try.f3.params[j]? = some t → args[j]? = some v → Value.okWide Try.prog W .any base t v := hval0
  have hW' := hW
  obtain ⟨p, q, hA0, hV, rfl, hfz, hnd⟩ := hW
  have hA : DataW.TrodAll enc Try.prog W 0 (fun _ => true) true Try.f3.params.toList args.toList ds p := hA0
  rw [Try.params3] at hA hval
  obtain ⟨v0, vs0, d0, ds0, p0, q0, hargs, rfl, rfl, h0, r0⟩ := trodAll_cons hA
  obtain ⟨v1, vs1, d1, ds1, p1, q1, rfl, rfl, rfl, h1, r1⟩ := trodAll_cons r0
  obtain ⟨rfl, rfl, rfl⟩ := trodAll_nil r1
  obtain rfl : args = #[v0, v1] := by cases args; simp_all
  obtain ⟨rfl, rfl⟩ := trodVars_none hV
  obtain ⟨a0, rfl, rfl, rfl, w0⟩ := open_string Try.underlying9 (hval 0 9 v0 rfl rfl) h0
  obtain ⟨a1, rfl, rfl, rfl, w1⟩ := open_string Try.underlying9 (hval 1 9 v1 rfl rfl) h1
  clear hA0 hval0
  simp only [List.append_nil] at hW'
  refine (walk a0 a1 w0 w1 W).mono fun e W' ⟨he, hg⟩ => ?_
  subst he
  exact ⟨_, rfl, post_of_same (pa := []) (pv := []) hW' (fun _ _ _ => (trodAll_cons_mk (shut_bool Try.underlying4 _) trodAll_mk0)) (fun sp _ => (trodAll_cons_mk (shut_string Try.underlying9 w0) (trodAll_cons_mk (shut_string Try.underlying9 w1) trodAll_mk0))) (fun _ _ => rfl) rfl
    (hg.frame _) hg.2.1 (ok_one (by kernel_rfl) rfl (okWide_bool_mk Try.underlying4 _))⟩

theorem over : Rows.fnUnregisteredTableInjectiveRow.holds Try.pinned (OpenSpec.ofChange Rows.fnUnregisteredTableInjectiveSpec) :=
  OpenClaim.holds_of_wide 3 Try.f3 rfl rfl rfl rfl rfl rfl rfl ⟨rfl, rfl, rfl, rfl, rfl⟩ rfl rfl rfl rfl rfl (by kernel_rfl) Try.func3 (by kernel_rfl)
    (of_decide_eq_true (by kernel_rfl)) (by unfold Func.isWrapper; first | (rw [if_pos (by decide +kernel)]; kernel_rfl) | (rw [if_neg (by decide +kernel)]; exact ⟨rfl, rfl⟩))
    (fun os started H enc _ => lifted os started H enc)

/-- ████ THE STATEMENT ████ -/
theorem proved : Rows.FnUnregisteredTableInjectiveSaid :=
  over
end Go.Proofs.Qxb6603650a.fnUnregisteredTableInjective
