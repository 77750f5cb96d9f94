/- A proof of the given statement: the frame is the tool's shell, the lemmas and the walk are ours. -/
import Derived.Test.Qxb6003357aRows
import Derived.WalkKit
import Derived.ProofKit
import Derived.OpenShut
import Derived.ShutString
import Derived.WalkSpells
import Derived.Below
import Derived.Test.Qxb6003357aCallees
namespace Go.Proofs.Qxb6003357a.fnEqualFoldSeesOtherBytes
open Go.ChangeShapes Go.WideShapes Go.ChangeAt Go.RowKit
open Go.ChangeMaps (open_string shut_string)
set_option linter.unusedVariables false      -- a walk need not use every 'w<i>' (that an integer argument fits its kind)

theorem own : ownKnob Try.prog.godebug = none := by kernel_rfl

open Go.Proofs.Qxb6003357a.Callees

/-- the way on which the byte is turned, the two conversions handed in -/
def Core (s : ByteArray) (k c : Nat) (w : World) : Prop :=
  Calls Try.prog 6 #[.string s, .int .i64 (k : Int), .int .u8 (c : Int)] w fun e w' => e = .returned (.bool true) ∧ Below w.heap.size w w'
/-- the two callees' contracts, told from the world in which the law began -/
theorem name_from (w0 : World) (x : ByteArray) (w : World) (h : Hid (Below w0.heap.size w0 w)) :
    Calls Try.prog 12 #[.string x] w fun e w' => e = .returned (.agg #[.string x]) ∧ Hid (Below w0.heap.size w0 w') := by
  refine (name_any x w).mono ?_
  rintro e w' ⟨he, hb⟩
  exact ⟨he, h.out.trans (hb.mono h.out.size)⟩
theorem fold_from (w0 : World) (x y : ByteArray) (w : World) (hx : x.size ≤ 1048576) (hn : ¬ Fold x y) (h : Hid (Below w0.heap.size w0 w)) :
    Calls Try.prog 13 #[.agg #[.string x], .agg #[.string y]] w fun e w' => e = .returned (.bool false) ∧ Hid (Below w0.heap.size w0 w') := by
  refine (fold_no x y w hx hn).mono ?_
  rintro e w' ⟨he, hb⟩
  exact ⟨he, h.out.trans (hb.mono h.out.size)⟩

set_option maxHeartbeats 1000000 in
theorem core (s : ByteArray) (k c : Nat) (w : World) (hb : s.size ≤ 1048576) (hk : k < s.size) (hc : c ≤ 255) (hne : ((((s[k]'hk).toNat : Nat) : Int) == (c : Int)) = false)
    (cap : Nat) (C : Array Value) (t : ByteArray) (c0 : Value)
    (hconv : (convert 9 40 (.string s)).run Try.prog w = .ok (.slice (some ⟨w.heap.size, 0, none⟩) s.size cap) (w.drew.alloc (.cells C 5 (C.size, C.size + 1))))
    (hcell : (w.alloc (.cells C 5 (C.size, C.size + 1))).cell? ⟨w.heap.size, k, none⟩ = some c0) (hfr : (w.alloc (.cells C 5 (C.size, C.size + 1))).frozen? ⟨w.heap.size, k, none⟩ = false)
    (hback : (convert 40 9 (.slice (some ⟨w.heap.size, 0, none⟩) s.size cap)).run Try.prog ((w.alloc (.cells C 5 (C.size, C.size + 1))).setCell ⟨w.heap.size, k, none⟩ (.int .u8 (c : Int))).drew = .ok (.string t) ((w.alloc (.cells C 5 (C.size, C.size + 1))).setCell ⟨w.heap.size, k, none⟩ (.int .u8 (c : Int))).drew)
    (HT : Hid (¬ (Letter (s[k]'hk).toNat ∧ Letter c ∧ low (s[k]'hk).toNat = low c) → ¬ Fold s t)) : Core s k c w := by
  have d0 : decide ((k : Int) < 0) = false := by simp
  have d1 : decide ((s.size : Int) ≤ (k : Int)) = false := by simp; omega
  have HB : Hid (Below w.heap.size w ((w.alloc (.cells C 5 (C.size, C.size + 1))).setCell ⟨w.heap.size, k, none⟩ (.int .u8 (c : Int))).drew) := (((Below.refl _ _).alloc (Nat.le_refl _) _).setCell (Nat.le_refl _) _).drew
  have HC : Hid (¬ Fold s (s.extract 0 k)) := not_fold_cut hk
  have b1 : (s[k]'hk).toNat ≤ 255 := by have := (s[k]'hk).toNat_lt; omega
  unfold Core
  go_enter Try.func6, Try.ntmps6
  go_wp2_with fail
  refine (bytes_yes s _ _ _ hb).mono ?_
  rintro e w' ⟨rfl, rfl⟩
  go_wp2_with fail
  refine (same_any _ _ _ b1 hc).mono ?_
  rintro e w' ⟨b, rfl, hsame, rfl⟩
  cases b
  · have HN : Hid (¬ Fold s t) := HT.out (hsame rfl)
    clear HT hsame
    go_wp2_with fail
    clear hconv hback hcell hfr
    refine (name_from w s _ HB).mono ?_
    rintro e wa ⟨rfl, HA⟩
    clear HB
    go_wp2_with fail
    refine (name_from w t _ HA).mono ?_
    rintro e wb ⟨rfl, HB⟩
    clear HA
    go_wp2_with fail
    refine (fold_from w s t _ hb HN.out HB).mono ?_
    rintro e wc ⟨rfl, HA⟩
    clear HB HN
    have HD : Hid (Below w.heap.size w wc.drew) := HA.out.drew
    clear HA
    go_wp2_with fail
    go_region_with (first | (go_at_call 12; refine (name_from w _ _ ?_).mono ?_; assumption; rintro e wd ⟨rfl, HE⟩) | (go_at_call 13; refine (fold_from w _ _ _ hb HC.out ?_).mono ?_; assumption; rintro e we ⟨rfl, HE⟩))
    all_goals
      go_wp2
      go_ret
      exact ⟨rfl, (by assumption : Hid (Below w.heap.size w _)).out⟩
  · clear HT hsame
    go_wp2
    go_ret
    exact ⟨rfl, Below.refl _ _⟩
theorem core_any (s : ByteArray) (k c : Nat) (w : World) (hb : s.size ≤ 1048576) (hk : k < s.size) (hc : c ≤ 255) (hne : (s[k]'hk).toNat ≠ c) : Core s k c w := by
  have hkd : k < s.data.size := by simpa using hk
  obtain ⟨cap, hcap⟩ : ∃ cap, cap = grownCap w s.size 0 5 := ⟨_, rfl⟩
  have hcv := run_bytes_of_string (P := Try.prog) w 9 40 5 s Try.underlying9 Try.underlying40 Try.underlying5
  rw [← hcap] at hcv
  obtain ⟨C, hC⟩ : ∃ C, C = bytesRow s cap := ⟨_, rfl⟩
  rw [← hC] at hcv
  have hcell : ∀ j (hj : j < s.data.size), (w.alloc (.cells C 5 (C.size, C.size + 1))).cell? ⟨w.heap.size, j, none⟩ = some (.int .u8 ((s.data[j]'hj).toNat : Int)) := fun j hj => by
    rw [World.cell?_alloc_mark, hC, bytesRow_at s _ j hj]
  have hCs : s.size ≤ C.size := by rw [hC]; unfold bytesRow; simp
  have hl := turned_len s k c
  have hbk := run_convert_bytes_back (P := Try.prog) ((w.alloc (.cells C 5 (C.size, C.size + 1))).setCell ⟨w.heap.size, k, none⟩ (.int .u8 (c : Int))).drew 40 9 5 ⟨w.heap.size, 0, none⟩ cap (turned s k c) Try.underlying40 Try.underlying5 Try.underlying9 (fun j hj => by
    rw [Addr.add_lit, Nat.zero_add, turned_at hc j hj]
    show ((w.alloc (.cells C 5 (C.size, C.size + 1))).setCell ⟨w.heap.size, k, none⟩ (.int .u8 (c : Int))).cell? ⟨w.heap.size, j, none⟩ = _
    by_cases e : j = k
    · rw [e, World.cell?_setCell_same _ _ _ (hcell k hkd), if_pos rfl]
    · have hjd : j < s.data.size := by simpa using (show j < s.size by omega)
      rw [World.cell?_setCell_other _ _ _ _ (by intro q; injection q with _ q; exact e q.symm), hcell j hjd, if_neg e, byteAt_eq s j (by omega)]
      rfl)
  rw [hl] at hbk
  refine core s k c w hb hk hc (by simp; omega) cap C ⟨(turned s k c).toArray⟩ _ hcv (hcell k hkd) ?_ hbk ?_
  · rw [World.frozen?_alloc_mark]; simp; omega
  · intro h
    exact not_fold_turned hk hc (by rw [byteAt_eq s k hk]; exact hne) (by rw [byteAt_eq s k hk]; exact h)


/-! ### The walk: the Go text returns true. -/
set_option maxHeartbeats 1000000 in
theorem walk (a0 : ByteArray) (a1 : Int) (a2 : Int) (w0 : a0.size ≤ maxLen) (w1 : (Lit.int .i64 a1).wf = true) (w2 : (Lit.int .u8 a2).wf = true) (w : World) :
    Calls Try.prog 6 #[.string a0, .int .i64 a1, .int .u8 a2] w fun e w' => e = .returned (.bool true) ∧ Below w.heap.size w w' := by
  unfold maxLen at w0
  obtain ⟨c0, c1⟩ := bounds_u8 w2
  clear w1 w2
  obtain ⟨c, rfl⟩ : ∃ c : Nat, a2 = (c : Int) := ⟨a2.toNat, by omega⟩
  by_cases hb : a0.size ≤ 1048576
  · by_cases hn : a1 < 0
    · have d0 : decide (a1 < 0) = true := by simp; omega
      go_enter Try.func6, Try.ntmps6
      go_wp2_with fail
      refine (bytes_yes a0 _ _ _ hb).mono ?_
      rintro e w' ⟨rfl, rfl⟩
      go_wp2
      go_ret
      exact ⟨rfl, Below.refl _ _⟩
    · obtain ⟨k, rfl⟩ : ∃ k : Nat, a1 = (k : Int) := ⟨a1.toNat, by omega⟩
      have d0 : decide ((k : Int) < 0) = false := by simp
      by_cases hk : k < a0.size
      · by_cases he : (a0[k]'hk).toNat = c
        · have d1 : decide ((a0.size : Int) ≤ (k : Int)) = false := by simp; omega
          have t1 : ((((a0[k]'hk).toNat : Nat) : Int) == (c : Int)) = true := by simp; omega
          clear he
          go_enter Try.func6, Try.ntmps6
          go_wp2_with fail
          refine (bytes_yes a0 _ _ _ hb).mono ?_
          rintro e w' ⟨rfl, rfl⟩
          go_wp2_with fail
          go_ret
          exact ⟨rfl, Below.refl _ _⟩
        · exact core_any a0 k c w hb hk (by omega) he
      · have d1 : decide ((a0.size : Int) ≤ (k : Int)) = true := by simp; omega
        go_enter Try.func6, Try.ntmps6
        go_wp2_with fail
        refine (bytes_yes a0 _ _ _ hb).mono ?_
        rintro e w' ⟨rfl, rfl⟩
        go_wp2
        go_ret
        exact ⟨rfl, Below.refl _ _⟩
  · go_enter Try.func6, Try.ntmps6
    go_wp2_with fail
    refine (bytes_no a0 _ _ _ hb).mono ?_
    rintro e w' ⟨rfl, rfl⟩
    go_wp2
    go_ret
    exact ⟨rfl, Below.refl _ _⟩

/-! ### THE ROW's STEP: WRITTEN OUT: LEAVE IT -/
set_option maxRecDepth 100000 in
theorem lifted (os : Os) (started : os.Started) (H : Type) (enc : TypeId × Value → H) :
    ReturnsInHanded {} Try.checked os 6 .any (Rows.fnEqualFoldSeesOtherBytesSpec.pre6 enc Try.prog Try.f6 Rows.fnEqualFoldSeesOtherBytesRow.domain false) (Rows.fnEqualFoldSeesOtherBytesSpec.post enc Try.prog Try.f6 false true false false) := by
  refine returnsInHanded_of_change (C := Try.checked) own started (by kernel_rfl) Try.func6
    (ChangeSpec.witness6 (enc := enc) (C := Try.checked) false ⟨#[], #[.string ByteArray.empty, .int .i64 0, .int .u8 0], []⟩ 8 (by kernel_rfl) (by kernel_rfl) (by kernel_rfl) (by kernel_rfl)) ?_
  intro W base args ds gs before hval0 hW hcnd _
  have hval : ∀ (j : Nat) t v, Try.f6.params[j]? = some t → args[j]? = some v → Value.okWide Try.prog W .any base t v := hval0
  have hW' := hW
  obtain ⟨p, q, hA0, hV, rfl, hfz, hnd⟩ := hW
  have hA : DataW.TrodAll enc Try.prog W 0 (fun _ => true) true Try.f6.params.toList args.toList ds p := hA0
  rw [Try.params6] at hA hval
  obtain ⟨v0, vs0, d0, ds0, p0, q0, hargs, rfl, rfl, h0, r0⟩ := trodAll_cons hA
  obtain ⟨v1, vs1, d1, ds1, p1, q1, rfl, rfl, rfl, h1, r1⟩ := trodAll_cons r0
  obtain ⟨v2, vs2, d2, ds2, p2, q2, rfl, rfl, rfl, h2, r2⟩ := trodAll_cons r1
  obtain ⟨rfl, rfl, rfl⟩ := trodAll_nil r2
  obtain rfl : args = #[v0, v1, v2] := by cases args; simp_all
  obtain ⟨rfl, rfl⟩ := trodVars_none hV
  obtain ⟨a0, rfl, rfl, rfl, w0⟩ := open_string Try.underlying9 (hval 0 9 v0 rfl rfl) h0
  obtain ⟨a1, rfl, rfl, rfl, w1⟩ := open_int Try.underlying3 (hval 1 3 v1 rfl rfl) h1
  obtain ⟨a2, rfl, rfl, rfl, w2⟩ := open_int Try.underlying5 (hval 2 5 v2 rfl rfl) h2
  clear hA0 hval0
  simp only [List.append_nil] at hW'
  refine (walk a0 a1 a2 w0 w1 w2 W).mono fun e W' ⟨he, hg⟩ => ?_
  subst he
  exact ⟨_, rfl, _, _, _, [], [], [], hW', (trodAll_cons_mk (shut_bool Try.underlying4 _) trodAll_mk0), (trodAll_cons_mk (shut_string Try.underlying9 w0) (trodAll_cons_mk (shut_int Try.underlying3 w1) (trodAll_cons_mk (shut_int Try.underlying5 w2) trodAll_mk0))), rfl, hg.frame _, fun h => by cases h⟩

theorem over : Rows.fnEqualFoldSeesOtherBytesRow.holds Try.pinned (OpenSpec.ofChange Rows.fnEqualFoldSeesOtherBytesSpec) :=
  OpenClaim.holds_of_wide 6 Try.f6 rfl rfl rfl rfl rfl rfl rfl ⟨rfl, rfl, rfl, rfl, rfl⟩ rfl rfl rfl rfl rfl (by kernel_rfl) Try.func6 (by kernel_rfl)
    (of_decide_eq_true (by kernel_rfl)) (by unfold Func.isWrapper; first | (rw [if_pos (by decide +kernel)]; kernel_rfl) | (rw [if_neg (by decide +kernel)]; exact ⟨rfl, rfl⟩))
    (fun os started H enc _ => lifted os started H enc)

/-- ████ THE STATEMENT ████ -/
theorem proved : Rows.FnEqualFoldSeesOtherBytesSaid :=
  over
end Go.Proofs.Qxb6003357a.fnEqualFoldSeesOtherBytes
