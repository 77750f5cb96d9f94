/- A proof of the given statement: the frame is the tool's shell, the lemmas and the walk are ours. -/
import Derived.Test.Qxb6603700aRows
import Derived.WalkKit
import Derived.ProofKit
import Derived.OpenShut
import Derived.ShutString
import Derived.WalkSpells
import Derived.Below
import Derived.Test.Qxb6603700aDigits
namespace Go.Proofs.Qxb6603700a.fnValidMatchesImageOfFormatter
open Go.ChangeShapes Go.WideShapes Go.ChangeAt Go.RowKit
open Go.ChangeMaps (open_string shut_string)
set_option linter.unusedVariables false      -- a walk need not use every 'w<i>' (that an integer argument fits its kind)

theorem own : ownKnob Try.prog.godebug = none := by kernel_rfl

open Go.Proofs.Qxb6603700a.Plain Go.Proofs.Qxb6603700a.Callees Go.Proofs.Qxb6603700a.Format Go.Proofs.Qxb6603700a.Digits

theorem bytes_yes (a : ByteArray) (w : World) (h : a.size ≤ 1048576) :
    Calls Try.prog 6 #[.string a] w fun e w' => e = .returned (.bool true) ∧ w = w' := by
  go_enter Try.func6, Try.ntmps6
  go_wp2
  go_ret
  exact ⟨rfl, rfl⟩
theorem bytes_no (a : ByteArray) (w : World) (h : ¬ a.size ≤ 1048576) :
    Calls Try.prog 6 #[.string a] w fun e w' => e = .returned (.bool false) ∧ w = w' := by
  go_enter Try.func6, Try.ntmps6
  go_wp2
  go_ret
  exact ⟨rfl, rfl⟩
theorem val_any (n : Nat) (w : World) (h : Hex n) :
    Calls Try.prog 8 #[.int .u8 (n : Int)] w fun e w' => e = .returned (.int .u8 (hv n : Int)) ∧ w = w' := by
  unfold Hex at h
  by_cases h1 : n ≤ 57
  · have HR : Hid (((hv n : Nat) : Int) = (n : Int) - 48) := by show ((hv n : Nat) : Int) = _; unfold hv; rw [if_pos h1]; omega
    have h2 : 48 ≤ n := by omega
    clear h
    go_enter Try.func8, Try.ntmps8
    go_wp2
    go_ret
    exact ⟨ret_int HR.out.symm, rfl⟩
  · have HR : Hid (((hv n : Nat) : Int) = (n : Int) - 97 + 10) := by show ((hv n : Nat) : Int) = _; unfold hv; rw [if_neg h1]; omega
    have h2 : 97 ≤ n ∧ n ≤ 102 := by omega
    obtain ⟨h3, h4⟩ := h2
    clear h
    go_enter Try.func8, Try.ntmps8
    go_wp2
    go_ret
    exact ⟨ret_int HR.out.symm, rfl⟩
theorem hexn_yes (n : Nat) (w : World) (h : Hex n) :
    Calls Try.prog 7 #[.int .u8 (n : Int)] w fun e w' => e = .returned (.bool true) ∧ w = w' := by
  refine (hex_yes n w (by unfold Hex at h; omega)).mono ?_
  rintro e w' ⟨h1, h2⟩
  exact ⟨h1, h2.symm⟩
theorem hexn_no (n : Nat) (w : World) (h : ¬ Hex n) :
    Calls Try.prog 7 #[.int .u8 (n : Int)] w fun e w' => e = .returned (.bool false) ∧ w = w' := by
  refine (hex_no n w (by unfold Hex at h; omega)).mono ?_
  rintro e w' ⟨h1, h2⟩
  exact ⟨h1, h2.symm⟩

/-- the digits' array behind k bytes -/
def Dig (s : ByteArray) (w : World) (k : Nat) (wr : World) : Prop :=
  wr.heap.size = w.heap.size + 1 ∧ Below w.heap.size w wr ∧ (∀ m, m < 32 → wr.cell? ⟨w.heap.size, m, none⟩ = some (.int .u8 (dg s k m : Int))) ∧ (∀ m, m < 32 → wr.frozen? ⟨w.heap.size, m, none⟩ = false)
theorem dig_start (s : ByteArray) (w : World) : Dig s w 0 (w.alloc (.cells (Array.replicate 32 (.int .u8 0)) 23)) := by
  refine ⟨by simp, (Below.refl _ _).alloc (Nat.le_refl _) _, fun m hm => ?_, fun m _ => ?_⟩
  · rw [World.cell?_alloc_mark, dg_zero, Array.getElem?_replicate, if_pos hm]; rfl
  · rw [World.frozen?_alloc_mark]; simp
theorem dig_no {s : ByteArray} {w wr : World} {k : Nat} (h : Dig s w k wr) (hx : ¬ Hex (byteAt s k)) : Dig s w (k + 1) wr := by
  obtain ⟨h1, h2, h3, h4⟩ := h
  exact ⟨h1, h2, fun m hm => by rw [dg_no hx]; exact h3 m hm, h4⟩
theorem dig_full {s : ByteArray} {w wr : World} {k : Nat} (h : Dig s w k wr) (hx : Hex (byteAt s k)) (hl : 32 ≤ (dl s k).length) : Dig s w (k + 1) wr := by
  obtain ⟨h1, h2, h3, h4⟩ := h
  exact ⟨h1, h2, fun m hm => by rw [dg_old (by omega) hx]; exact h3 m hm, h4⟩
theorem dig_put {s : ByteArray} {w wr : World} {k m : Nat} (h : Dig s w k wr) (hx : Hex (byteAt s k)) (hm : m = (dl s k).length) (hl : m < 32) :
    Dig s w (k + 1) (wr.setCell ⟨w.heap.size, m, none⟩ (.int .u8 (hv (byteAt s k) : Int))) := by
  obtain ⟨h1, h2, h3, h4⟩ := h
  refine ⟨by simpa [World.setCell] using h1, h2.setCell (Nat.le_refl _) _, fun j hj => ?_, fun j hj => by rw [World.frozen?_setCell]; exact h4 j hj⟩
  by_cases e : j = m
  · rw [e, World.cell?_setCell_same _ _ _ (h3 m hl), dg_new hm hx]
  · rw [World.cell?_setCell_other _ _ _ _ (by intro q; injection q with _ q; exact e q.symm), dg_old (by omega) hx]; exact h3 j hj
/-- what holds at the first loop's head -/
def HeadA (s : ByteArray) (w : World) (n i : Value) (wr : World) : Prop :=
  ∃ k m : Nat, k ≤ s.size ∧ m ≤ k ∧ m = (dl s k).length ∧ n = .int .i64 (m : Int) ∧ i = .int .i64 (k : Int) ∧ Dig s w k wr

/-- the sixteen bytes' array behind k of them -/
def Sixteen (s : ByteArray) (w : World) (k : Nat) (wr : World) : Prop :=
  wr.heap.size = w.heap.size + 2 ∧ Below w.heap.size w wr ∧ (∀ m, m < 32 → wr.cell? ⟨w.heap.size, m, none⟩ = some (.int .u8 (dg s s.size m : Int))) ∧
    ∃ cs : Array Value, wr.heap[w.heap.size + 1]? = some (.cells cs 26 (0, 0)) ∧ cs.size = 16 ∧ ∀ m, m < k → cs[m]? = some (.int .u8 (bv s m : Int))
theorem six_start {s : ByteArray} {w wr : World} (h : Dig s w s.size wr) : Sixteen s w 0 (wr.alloc (.cells (Array.replicate 16 (.int .u8 0)) 26)) := by
  obtain ⟨h1, h2, h3, h4⟩ := h
  refine ⟨by simp [h1], h2.alloc (by omega) _, fun m hm => ?_, Array.replicate 16 (.int .u8 0), ?_, by simp, fun m hm => absurd hm (by omega)⟩
  · rw [World.cell?_of_block (w := wr) (Below.heap_alloc _ _ _ (by simp [h1]))]; exact h3 m hm
  · rw [← h1]
    show (wr.heap.push _)[wr.heap.size]? = _
    simp
theorem six_put {s : ByteArray} {w wr : World} {k : Nat} (h : Sixteen s w k wr) (hk : k < 16) : Sixteen s w (k + 1) (wr.setCell ⟨w.heap.size + 1, k, none⟩ (.int .u8 (bv s k : Int))) := by
  obtain ⟨h1, h2, h3, cs, h4, h5, h6⟩ := h
  refine ⟨by simpa [World.setCell] using h1, h2.setCell (by simp) _, fun m hm => ?_, cs.setIfInBounds k (.int .u8 (bv s k : Int)), ?_, by simpa using h5, fun m hm => ?_⟩
  · rw [World.cell?_setCell_other _ _ _ _ (by intro q; injection q with q; omega)]; exact h3 m hm
  · simp only [World.setCell, Array.getElem?_modify, if_true, h4]
    rfl
  · by_cases e : m = k
    · rw [e, Array.getElem?_setIfInBounds_self_of_lt (by omega)]
    · rw [Array.getElem?_setIfInBounds_ne (by omega)]; exact h6 m (by omega)
theorem six_cell {s : ByteArray} {w wr : World} {k : Nat} (h : Sixteen s w k wr) (hk : k < 16) : (∃ u, wr.cell? ⟨w.heap.size + 1, k, none⟩ = some u) ∧ wr.frozen? ⟨w.heap.size + 1, k, none⟩ = false := by
  obtain ⟨h1, h2, h3, cs, h4, h5, h6⟩ := h
  refine ⟨⟨cs[k], ?_⟩, ?_⟩
  · simp [World.cell?, h4]
  · simp [World.frozen?, h4]
theorem six_drew {s : ByteArray} {w wr : World} {k : Nat} (h : Sixteen s w k wr) : Sixteen s w k wr.drew := ⟨h.1, h.2.1.drew, h.2.2.1, h.2.2.2⟩
theorem or_small : ∀ a : Nat, a < 16 → ∀ b : Nat, b < 16 → bits BinOp.or IntKind.u8 ((a : Int) * 16) (b : Int) = ((a * 16 + b : Nat) : Int) := by decide +kernel
theorem or_any {n : Nat} (a b : Nat) (ha : a < 16) (hb : b < 16) (h : n = a * 16 + b) : bits BinOp.or IntKind.u8 ((a : Int) * 16) (b : Int) = (n : Int) := by rw [h]; exact or_small a ha b hb
/-- what holds at the second loop's head -/
def HeadB (s : ByteArray) (w : World) (i : Value) (wr : World) : Prop := ∃ k : Nat, k ≤ 16 ∧ i = .int .i64 (k : Int) ∧ Sixteen s w k wr

theorem info26 : (Try.prog.info? 26).map (·.size) = some 16 := by kernel_rfl


/-! ### The walk: the Go text returns true. -/
set_option maxHeartbeats 2000000 in
theorem walk (a0 : ByteArray) (w0 : a0.size ≤ maxLen) (w : World) :
    Calls Try.prog 3 #[.string a0] w fun e w' => e = .returned (.bool true) ∧ Below w.heap.size w w' := by
  unfold maxLen at w0
  by_cases hb : a0.size ≤ 1048576
  · go_enter Try.func3, Try.ntmps3
    go_wp2_with fail
    refine (bytes_yes a0 _ hb).mono ?_
    rintro e w' ⟨rfl, rfl⟩
    go_wp2_with fail
    go_loopw [4, 5] (fun n i wr => HeadA a0 w n i wr) (fun _ i _ => a0.size - (intOf i).toNat)
    case atStart => exact ⟨0, 0, Nat.zero_le _, Nat.le_refl _, rfl, rfl, rfl, dig_start a0 w⟩
    case round =>
      obtain ⟨k, m, hk, hm, hml, rfl, rfl, hdig⟩ := hrel
      have HM : Hid (m = (dl a0 k).length) := hml
      have HD : Hid (Dig a0 w k wr) := hdig
      clear hml hdig
      by_cases hlt : k < a0.size
      · have HB : Hid (byteAt a0 k = (a0[k]'hlt).toNat) := byteAt_eq a0 k hlt
        by_cases hx : Hex (a0[k]'hlt).toNat
        · have HX : Hid (Hex (byteAt a0 k)) := by show Hex (byteAt a0 k); rw [HB.out]; exact hx
          have HE : Hid (m + 1 = (dl a0 (k + 1)).length) := by show m + 1 = _; rw [dl_yes HX.out, HM.out]; simp
          by_cases hf : m < 32
          · have hcell := HD.out.2.2.1 m hf
            have hfr := HD.out.2.2.2 m hf
            have R := dig_put HD.out HX.out HM.out hf
            rw [HB.out] at R
            have HR : Hid (Dig a0 w (k + 1) (wr.setCell ⟨w.heap.size, m, none⟩ (.int .u8 (hv (a0[k]'hlt).toNat : Int)))) := R
            clear R HB HX HD HM
            go_wp2_with (first | (go_at_call 7; refine (hexn_yes _ _ hx).mono ?_; rintro e w' ⟨rfl, rfl⟩) | (go_at_call 8; refine (val_any _ _ hx).mono ?_; rintro e w' ⟨rfl, rfl⟩))
            go_roundw
            case rel => exact ⟨k + 1, m + 1, by omega, by omega, HE.out, by go_num, by go_num, HR.out⟩
            case measure => simp [intOf]; omega
          · have HR : Hid (Dig a0 w (k + 1) wr) := dig_full HD.out HX.out (by rw [← HM.out]; omega)
            clear HB HX HD HM
            go_wp2_with (go_at_call 7; refine (hexn_yes _ _ hx).mono ?_; rintro e w' ⟨rfl, rfl⟩)
            go_roundw
            case rel => exact ⟨k + 1, m + 1, by omega, by omega, HE.out, by go_num, by go_num, HR.out⟩
            case measure => simp [intOf]; omega
        · have HX : Hid (¬ Hex (byteAt a0 k)) := by show ¬ Hex (byteAt a0 k); rw [HB.out]; exact hx
          have HE : Hid (m = (dl a0 (k + 1)).length) := by show m = _; rw [dl_no HX.out]; exact HM.out
          have HR : Hid (Dig a0 w (k + 1) wr) := dig_no HD.out HX.out
          clear HB HX HD HM
          go_wp2_with (go_at_call 7; refine (hexn_no _ _ hx).mono ?_; rintro e w' ⟨rfl, rfl⟩)
          go_roundw
          case rel => exact ⟨k + 1, m, by omega, by omega, HE.out, rfl, by go_num, HR.out⟩
          case measure => simp [intOf]; omega
      · have hke : k = a0.size := by omega
        subst hke
        by_cases h32 : m = 32
        · have HL : Hid ((dl a0 a0.size).length = 32) := by show _ = 32; rw [← HM.out]; exact h32
          have t32 : ((m : Int) == 32) = true := by simp; omega
          have hws : wr.heap.size = w.heap.size + 1 := HD.out.1
          have HS : Hid (Sixteen a0 w 0 (wr.alloc (.cells (Array.replicate 16 (.int .u8 0)) 26))) := six_start HD.out
          clear HM HD h32
          go_wp2_with fail
          clear hws
          go_loopw [9] (fun i wr => HeadB a0 w i wr) (fun i _ => 16 - (intOf i).toNat)
          case atStart => exact ⟨0, by omega, rfl, HS.out⟩
          case round =>
            clear HS
            obtain ⟨k, hk, rfl, hsix⟩ := hrel
            have HS : Hid (Sixteen a0 w k wr) := hsix
            clear hsix
            by_cases hlt : k < 16
            · have c1 := HS.out.2.2.1 (2 * k) (by omega)
              have c2 := HS.out.2.2.1 (2 * k + 1) (by omega)
              obtain ⟨⟨u, c3⟩, f3⟩ := six_cell HS.out hlt
              have b1 := dg_lt a0 a0.size (2 * k)
              have b2 := dg_lt a0 a0.size (2 * k + 1)
              have HR : Hid (Sixteen a0 w (k + 1) (wr.setCell ⟨w.heap.size + 1, k, none⟩ (.int .u8 (bv a0 k : Int)))) := six_put HS.out hlt
              have HV : Hid (bv a0 k = dg a0 a0.size (2 * k) * 16 + dg a0 a0.size (2 * k + 1)) := rfl
              clear HS
              generalize dg a0 a0.size (2 * k) = D1 at c1 b1 HV
              generalize dg a0 a0.size (2 * k + 1) = D2 at c2 b2 HV
              go_wp2_with fail
              go_region
              go_wp2
              go_roundw
              case rel => exact ⟨k + 1, by omega, by go_num, by rw [or_any D1 D2 b1 b2 HV.out]; exact six_drew HR.out⟩
              case measure => simp [intOf]; omega
            · have hk16 : k = 16 := by omega
              subst hk16
              obtain ⟨h1, h2, h3, cs, h4, h5, h6⟩ := HS.out
              have HB : Hid (Below w.heap.size w wr) := h2
              have H6 : Hid (∀ j, j < 16 → cs[j]? = some (.int .u8 (bv a0 j : Int))) := h6
              have H5 : Hid (cs.size = 16) := h5
              have H4 : Hid (wr.heap[w.heap.size + 1]? = some (.cells cs 26 (0, 0))) := h4
              have HZ : Hid ((Try.prog.info? 26).map (·.size) = some cs.size) := by show _ = _; rw [h5]; exact info26
              clear h1 h2 h3 h4 h5 h6 HS
              go_wp2_with (refine wpList_load_row rfl 26 (.tmp 8) rfl (w.heap.size + 1) rfl 26 cs (0, 0) _ H4.out Try.underlying26 rfl HZ.out ?_)
              refine (format_any (bv a0) (bv_le a0) cs H5.out H6.out _).mono ?_
              rintro e w1 ⟨t, rfl, ht, hbel1⟩
              have HT : Hid (t.data.toList.map UInt8.toNat = fmt (bv a0) 16) := ht
              have HB1 : Hid (Below w.heap.size w w1) := HB.out.trans (hbel1.mono HB.out.size)
              clear ht hbel1 HB H4 H5 H6 HZ HL
              by_cases hv : Valid a0
              · have hq := same_yes hv HT.out
                have HV : Hid (Valid a0) := hv
                clear hv HT
                go_wp2_with fail
                refine (valid_yes _ _ HV.out).mono ?_
                rintro e w2 ⟨rfl, hbel2⟩
                go_wp2
                go_ret
                exact ⟨rfl, HB1.out.trans (hbel2.mono HB1.out.size)⟩
              · have hq := same_no hv HT.out
                have HV : Hid (¬ Valid a0) := hv
                clear hv HT
                go_wp2_with fail
                refine (valid_no _ _ HV.out).mono ?_
                rintro e w2 ⟨rfl, hbel2⟩
                go_wp2
                go_ret
                exact ⟨rfl, HB1.out.trans (hbel2.mono HB1.out.size)⟩
        · have hv : Hid (¬ Valid a0) := fun v => h32 (by rw [HM.out]; exact (valid_back v).1)
          have t32 : ((m : Int) == 32) = false := by simp; omega
          have HB : Hid (Below w.heap.size w wr) := HD.out.2.1
          clear HM HD
          go_wp2_with fail
          refine (valid_no _ _ hv.out).mono ?_
          rintro e w' ⟨rfl, hbel⟩
          go_wp2
          go_ret
          exact ⟨rfl, HB.out.trans (hbel.mono HB.out.size)⟩
  · go_enter Try.func3, Try.ntmps3
    go_wp2_with fail
    refine (bytes_no a0 _ hb).mono ?_
    rintro e w' ⟨rfl, rfl⟩
    go_wp2
    go_ret
    exact ⟨rfl, Below.refl _ _⟩

/-! ### THE ROW's STEP: WRITTEN OUT: LEAVE IT -/
set_option maxRecDepth 100000 in
theorem lifted (os : Os) (started : os.Started) (H : Type) (enc : TypeId × Value → H) :
    ReturnsInHanded {} Try.checked os 3 .any (Rows.fnValidMatchesImageOfFormatterSpec.pre6 enc Try.prog Try.f3 Rows.fnValidMatchesImageOfFormatterRow.domain false) (Rows.fnValidMatchesImageOfFormatterSpec.post enc Try.prog Try.f3 false true false false) := by
  refine returnsInHanded_of_change (C := Try.checked) own started (by kernel_rfl) Try.func3
    (ChangeSpec.witness6 (enc := enc) (C := Try.checked) false ⟨#[], #[.string ByteArray.empty], []⟩ 8 (by kernel_rfl) (by kernel_rfl) (by kernel_rfl) (by kernel_rfl)) ?_
  intro W base args ds gs before hval0 hW hcnd _
  have hval : ∀ (j : Nat) t v, Try.f3.params[j]? = some t → args[j]? = some v → Value.okWide Try.prog W .any base t v := hval0
  have hW' := hW
  obtain ⟨p, q, hA0, hV, rfl, hfz, hnd⟩ := hW
  have hA : DataW.TrodAll enc Try.prog W 0 (fun _ => true) true Try.f3.params.toList args.toList ds p := hA0
  rw [Try.params3] at hA hval
  obtain ⟨v0, vs0, d0, ds0, p0, q0, hargs, rfl, rfl, h0, r0⟩ := trodAll_cons hA
  obtain ⟨rfl, rfl, rfl⟩ := trodAll_nil r0
  obtain rfl : args = #[v0] := by cases args; simp_all
  obtain ⟨rfl, rfl⟩ := trodVars_none hV
  obtain ⟨a0, rfl, rfl, rfl, w0⟩ := open_string Try.underlying9 (hval 0 9 v0 rfl rfl) h0
  clear hA0 hval0
  simp only [List.append_nil] at hW'
  refine (walk a0 w0 W).mono fun e W' ⟨he, hg⟩ => ?_
  subst he
  exact ⟨_, rfl, _, _, _, [], [], [], hW', (trodAll_cons_mk (shut_bool Try.underlying4 _) trodAll_mk0), (trodAll_cons_mk (shut_string Try.underlying9 w0) trodAll_mk0), rfl, hg.frame _, fun h => by cases h⟩

theorem over : Rows.fnValidMatchesImageOfFormatterRow.holds Try.pinned (OpenSpec.ofChange Rows.fnValidMatchesImageOfFormatterSpec) :=
  OpenClaim.holds_of_wide 3 Try.f3 rfl rfl rfl rfl rfl rfl rfl ⟨rfl, rfl, rfl, rfl, rfl⟩ rfl rfl rfl rfl rfl (by kernel_rfl) Try.func3 (by kernel_rfl)
    (of_decide_eq_true (by kernel_rfl)) (by unfold Func.isWrapper; first | (rw [if_pos (by decide +kernel)]; kernel_rfl) | (rw [if_neg (by decide +kernel)]; exact ⟨rfl, rfl⟩))
    (fun os started H enc _ => lifted os started H enc)

/-- ████ THE STATEMENT ████ -/
theorem proved : Rows.FnValidMatchesImageOfFormatterSaid :=
  over
end Go.Proofs.Qxb6603700a.fnValidMatchesImageOfFormatter
