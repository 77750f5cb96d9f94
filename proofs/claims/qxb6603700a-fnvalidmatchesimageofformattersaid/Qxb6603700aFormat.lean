/- The contract of formatUUID. -/
import Derived.Test.Qxb6603700aCallees
namespace Go.Proofs.Qxb6603700a.Format
open Go.ChangeShapes Go.WideShapes Go.ChangeAt Go.RowKit
open Go.Proofs.Qxb6603700a.Plain

def hd (n : Nat) : Nat := if n < 10 then 48 + n else 87 + n
theorem hd_lo {n : Nat} (h : n < 10) : hd n = 48 + n := if_pos h
theorem hd_hi {n : Nat} (h : ¬ n < 10) : hd n = 87 + n := if_neg h
def fmt (b : Nat → Nat) : Nat → List Nat
  | 0 => []
  | i + 1 => fmt b i ++ (if i = 4 ∨ i = 6 ∨ i = 8 ∨ i = 10 then [45] else []) ++ [hd (b i / 16), hd (b i % 16)]

theorem ret_int {k : IntKind} {a b : Int} (h : a = b) : Ending.returned (.int k a) = .returned (.int k b) := by rw [h]
theorem digit_any (n : Int) (w : World) (h0 : 0 ≤ n) (h : n < 16) :
    Calls Try.prog 13 #[.int .u8 n] w fun e w' => e = .returned (.int .u8 (hd n.toNat)) ∧ w = w' := by
  by_cases h1 : n < 10
  · have HR : Hid ((hd n.toNat : Int) = 48 + n) := by show ((hd n.toNat : Nat) : Int) = _; rw [hd_lo (by omega)]; omega
    go_enter Try.func13, Try.ntmps13
    go_wp2
    go_ret
    exact ⟨ret_int HR.out.symm, rfl⟩
  · have HR : Hid ((hd n.toNat : Int) = 97 + n - 10) := by show ((hd n.toNat : Nat) : Int) = _; rw [hd_hi (by omega)]; omega
    go_enter Try.func13, Try.ntmps13
    go_wp2
    go_ret
    exact ⟨ret_int HR.out.symm, rfl⟩

theorem digit_hi (m : Nat) (w : World) (h : m ≤ 255) :
    Calls Try.prog 13 #[.int .u8 ((m : Int) / 16)] w fun e w' => e = .returned (.int .u8 (hd (m / 16))) ∧ w = w' := by
  have := digit_any ((m : Int) / 16) w (by omega) (by omega)
  rwa [show ((m : Int) / 16).toNat = m / 16 by omega] at this

theorem digit_lo (m : Nat) (w : World) :
    Calls Try.prog 13 #[.int .u8 ((m : Int) % 16)] w fun e w' => e = .returned (.int .u8 (hd (m % 16))) ∧ w = w' := by
  have := digit_any ((m : Int) % 16) w (by omega) (by omega)
  rwa [show ((m : Int) % 16).toNat = m % 16 by omega] at this

theorem info5 : (Try.prog.info? 5).map (fun i => (i.zero, i.size, i.bytes)) = some (some (.int .u8 0), 1, 1) := by kernel_rfl

def zeros36 : Array Value := Array.replicate 36 (.int .u8 0)
theorem make36 (w : World) : (Instr.makeSlice 31 (.int .i64 0) (.int .i64 36)).run Try.prog w = .ok (.slice (some ⟨w.heap.size, 0, none⟩) 0 36) (w.alloc (.cells zeros36 5)) := by kernel_rfl

def vs (l : List Nat) : List Value := l.map fun (c : Nat) => Value.int .u8 (c : Int)
theorem fmt_len (b : Nat → Nat) : ∀ k, (fmt b k).length = 2 * k + (if 4 < k then 1 else 0) + (if 6 < k then 1 else 0) + (if 8 < k then 1 else 0) + (if 10 < k then 1 else 0)
  | 0 => rfl
  | k + 1 => by
    rw [fmt, List.length_append, List.length_append, fmt_len b k]
    simp only [List.length_cons, List.length_nil]
    by_cases h : k = 4 ∨ k = 6 ∨ k = 8 ∨ k = 10
    · rw [if_pos h]; rcases h with rfl | rfl | rfl | rfl <;> rfl
    · rw [if_neg h]; simp only [List.length_nil]; repeat' split
      all_goals omega
theorem fmt_bd (b : Nat → Nat) (k : Nat) : (fmt b k).length ≤ 2 * k + 4 := by
  rw [fmt_len]; repeat' split
  all_goals omega
theorem fmt_sep (b : Nat → Nat) (k : Nat) (h : k = 4 ∨ k = 6 ∨ k = 8 ∨ k = 10) : fmt b (k + 1) = fmt b k ++ [45] ++ [hd (b k / 16)] ++ [hd (b k % 16)] := by
  rw [fmt, if_pos h]; simp
theorem fmt_non (b : Nat → Nat) (k : Nat) (h : ¬ (k = 4 ∨ k = 6 ∨ k = 8 ∨ k = 10)) : fmt b (k + 1) = fmt b k ++ [hd (b k / 16)] ++ [hd (b k % 16)] := by
  rw [fmt, if_neg h]; simp

/-- what holds at the loop's head -/
def FRel (b : Nat → Nat) (cs : Array Value) (w : World) (v i : Value) (wr : World) : Prop :=
  ∃ (k n : Nat) (X : List Value), k ≤ 16 ∧ n = (fmt b k).length ∧ X = vs (fmt b k) ∧ i = .int .i64 k ∧ v = .slice (some ⟨w.heap.size + 1, 0, none⟩) n 36 ∧
    wr.ownsRow (w.heap.size + 1) 5 1 (.slice (some ⟨w.heap.size + 1, 0, none⟩) n 36) n X ∧ Below (w.heap.size + 1) (w.alloc (.cells cs 26)) wr
theorem vs_snoc (l : List Nat) (c : Nat) : vs (l ++ [c]) = vs l ++ [.int .u8 (c : Int)] := by simp [vs]

def FEnd (b : Nat → Nat) (w : World) (e : Ending) (w' : World) : Prop := ∃ t, e = .returned (.string t) ∧ t.data.toList.map UInt8.toNat = fmt b 16 ∧ Below w.heap.size w w'

theorem step_below {w wr w1 : World} {cs : Array Value} {x : Value} (h : Below (w.heap.size + 1) (w.alloc (.cells cs 26)) wr) (hsz : w.heap.size + 1 ≤ wr.heap.size)
    (hg : (wr.alloc (.cells #[x] 5)).grownBy w1 (some (w.heap.size + 1))) : Below (w.heap.size + 1) (w.alloc (.cells cs 26)) w1 ∧ w.heap.size + 1 ≤ w1.heap.size := by
  have e1 : (wr.alloc (.cells #[x] 5)).heap.size = wr.heap.size + 1 := by simp
  have h2 := hg.size
  rw [e1] at h2
  exact ⟨(h.alloc hsz _).grown hg (by rw [e1]; omega) (by intro k hk; cases hk; omega), by omega⟩
theorem box_cell {w wr : World} {cs : Array Value} {b : Nat → Nat} {k : Nat} (h : Below (w.heap.size + 1) (w.alloc (.cells cs 26)) wr) (hcs : ∀ i, i < 16 → cs[i]? = some (.int .u8 (b i))) (hk : k < 16) :
    wr.cell? ⟨w.heap.size, k, none⟩ = some (.int .u8 (b k)) := by
  rw [h.cell (by simp), World.cell?_alloc_mark, hcs k hk]

theorem hd_lt {n : Nat} (h : n < 16) : hd n < 256 := by unfold hd; split <;> omega
theorem fmt_lt (b : Nat → Nat) (hb : ∀ i, b i ≤ 255) : ∀ k, ∀ c ∈ fmt b k, c < 256
  | 0, c, hc => by simp [fmt] at hc
  | k + 1, c, hc => by
    have hbk := hb k
    rw [fmt, List.mem_append, List.mem_append] at hc
    rcases hc with (hc | hc) | hc
    · exact fmt_lt b hb k c hc
    · split at hc
      · simp at hc; omega
      · simp at hc
    · simp at hc
      rcases hc with rfl | rfl
      · exact hd_lt (by omega)
      · exact hd_lt (by omega)
/-- the text as bytes -/
def txt (b : Nat → Nat) : List UInt8 := (fmt b 16).map UInt8.ofNat
theorem txt_nat (b : Nat → Nat) (hb : ∀ i, b i ≤ 255) : (txt b).map UInt8.toNat = fmt b 16 := by
  unfold txt
  rw [List.map_map]
  have e : (fmt b 16).map (UInt8.toNat ∘ UInt8.ofNat) = (fmt b 16).map id := by
    apply List.map_congr_left
    intro c hc
    have := fmt_lt b hb 16 c hc
    simp
    omega
  rw [e, List.map_id]
theorem txt_len (b : Nat → Nat) : (txt b).length = (fmt b 16).length := by unfold txt; simp
theorem back_any (b : Nat → Nat) (hb : ∀ i, b i ≤ 255) (wr : World) (g n : Nat) (X : List Value) (hn : n = (fmt b 16).length) (hX : X = vs (fmt b 16))
    (hown : wr.ownsRow g 5 1 (.slice (some ⟨g, 0, none⟩) n 36) n X) :
    (convert 31 9 (.slice (some ⟨g, 0, none⟩) n 36)).run Try.prog wr = .ok (.string ⟨(txt b).toArray⟩) wr := by
  have h := run_convert_bytes_back (P := Try.prog) wr 31 9 5 ⟨g, 0, none⟩ 36 (txt b) Try.underlying31 Try.underlying5 Try.underlying9 (fun j hj => by
    have hj' : j < (fmt b 16).length := by rw [← txt_len]; exact hj
    rw [Addr.add_lit, Nat.zero_add, hown.cellAt j (by omega), hX]
    have e := congrArg (fun l => l[j]?) (txt_nat b hb)
    simp only [List.getElem?_map] at e
    rw [List.getElem?_eq_getElem hj, List.getElem?_eq_getElem hj'] at e
    simp only [Option.map_some, Option.some.injEq] at e
    unfold vs
    rw [List.getElem?_map, List.getElem?_eq_getElem hj']
    simp only [Option.map_some, e])
  rw [txt_len, ← hn] at h
  exact h

set_option maxHeartbeats 1000000 in
theorem format_any (b : Nat → Nat) (hb : ∀ i, b i ≤ 255) (cs : Array Value) (hs : cs.size = 16) (hcs : ∀ i, i < 16 → cs[i]? = some (.int .u8 (b i))) (w : World) :
    Calls Try.prog 9 #[.agg cs] w fun e w' => FEnd b w e w' := by
  obtain ⟨i0, hi, hz0, hz1, hz2⟩ := info_parts info5
  have hmk := make36
  have HC : Hid (∀ i, i < 16 → cs[i]? = some (.int .u8 (b i))) := hcs
  have HZ : Hid (cs.size = 16) := hs
  clear hs hcs
  go_enter Try.func9, Try.ntmps9
  go_wp2
  clear hmk
  go_loopw [3, 4] (fun v i wr => FRel b cs w v i wr) (fun _ i _ => 16 - (intOf i).toNat)
  case atStart =>
    have hA := World.ownsRow_made (base := w.heap.size + 1) (e := 5) (size := 1) (w.alloc (.cells cs 26)) zeros36 36 (by simp) (by decide) rfl
    have e1 : (w.alloc (.cells cs 26)).heap.size = w.heap.size + 1 := by simp
    rw [e1] at hA
    exact ⟨0, 0, [], by omega, rfl, rfl, rfl, rfl, hA, (Below.refl _ _).alloc (by simp) _⟩
  case round =>
    obtain ⟨k, n, X, hk, hn, hX, rfl, rfl, hown, hbel⟩ := hrel
    have hbd : n ≤ 2 * k + 4 := by rw [hn]; exact fmt_bd b k
    have hbk := hb k
    have HN : Hid (n = (fmt b k).length) := hn
    have HX : Hid (X = vs (fmt b k)) := hX
    clear hn hX
    by_cases hlt : k < 16
    · have hc : wr.cell? ⟨w.heap.size, k, none⟩ = some (.int .u8 (b k)) := box_cell hbel HC.out hlt
      have hsz : w.heap.size + 1 ≤ wr.heap.size := by have := hbel.size; simpa using this
      by_cases hsep : k = 4 ∨ k = 6 ∨ k = 8 ∨ k = 10
      · have HF : Hid (fmt b (k + 1) = fmt b k ++ [45] ++ [hd (b k / 16)] ++ [hd (b k % 16)]) := fmt_sep b k hsep
        have hk10 : k ≤ 10 := by omega
        have hcase : (((k : Int) == 4) = true) ∨ (((k : Int) == 4) = false ∧ ((k : Int) == 6) = true) ∨ (((k : Int) == 4) = false ∧ ((k : Int) == 6) = false ∧ ((k : Int) == 8) = true) ∨
            (((k : Int) == 4) = false ∧ ((k : Int) == 6) = false ∧ ((k : Int) == 8) = false ∧ ((k : Int) == 10) = true) := by
          simp; omega
        clear hsep
        have hd1 := fun wx => digit_hi (b k) wx hbk
        have hd2 := fun wx => digit_lo (b k) wx
        generalize hd (b k / 16) = d1 at HF hd1
        generalize hd (b k % 16) = d2 at HF hd2
        have H1 : Hid (∀ wx, Calls Try.prog 13 #[.int .u8 ((b k : Int) / 16)] wx fun e w' => e = .returned (.int .u8 (d1 : Int)) ∧ wx = w') := hd1
        have H2 : Hid (∀ wx, Calls Try.prog 13 #[.int .u8 ((b k : Int) % 16)] wx fun e w' => e = .returned (.int .u8 (d2 : Int)) ∧ wx = w') := hd2
        clear hd1 hd2
        rcases hcase with t1 | ⟨t1, t2⟩ | ⟨t1, t2, t3⟩ | ⟨t1, t2, t3, t4⟩
        all_goals
          go_wp2_with (at_builtin; refine wpList_append_fits _ rfl (.tmp 24) (.tmp 25) 31 rfl (w.heap.size + 1) 5 i0 1 Try.underlying31 hi hz1 (w.heap.size + 1) n 36 X rfl (hown.alloc _) ⟨wr.heap.size, 0, none⟩ 1 1 [.int .u8 ((45 : Nat) : Int)] rfl rfl (cell_one_new _ _ _) (by simp [Value.oneCell']) (by omega) ?_; intro w0 hown0 hgrow0; have hb0 := step_below hbel hsz hgrow0; have hc0 := box_cell hb0.1 HC.out hlt)
          refine (H1.out _).mono ?_
          rintro e w' ⟨rfl, rfl⟩
          go_wp2_with (at_builtin; refine wpList_append_fits _ rfl (.tmp 27) (.tmp 33) 31 rfl (w.heap.size + 1) 5 i0 1 Try.underlying31 hi hz1 (w.heap.size + 1) (n + 1) 36 _ rfl (hown0.alloc _) ⟨w0.heap.size, 0, none⟩ 1 1 [.int .u8 (d1 : Int)] rfl rfl (cell_one_new _ _ _) (by simp [Value.oneCell']) (by omega) ?_; intro w1 hown1 hgrow1; have hb1 := step_below hb0.1 hb0.2 hgrow1; have hc1 := box_cell hb1.1 HC.out hlt)
          refine (H2.out _).mono ?_
          rintro e w' ⟨rfl, rfl⟩
          go_wp2_with (at_builtin; refine wpList_append_fits _ rfl (.tmp 35) (.tmp 41) 31 rfl (w.heap.size + 1) 5 i0 1 Try.underlying31 hi hz1 (w.heap.size + 1) (n + 1 + 1) 36 _ rfl (hown1.alloc _) ⟨w1.heap.size, 0, none⟩ 1 1 [.int .u8 (d2 : Int)] rfl rfl (cell_one_new _ _ _) (by simp [Value.oneCell']) (by omega) ?_; intro w2 hown2 hgrow2; have hb2 := step_below hb1.1 hb1.2 hgrow2)
          go_roundw
          case rel => exact ⟨k + 1, n + 1 + 1 + 1, _, by omega, by rw [HF.out, HN.out]; simp, by rw [HF.out, HX.out, vs_snoc, vs_snoc, vs_snoc], by go_num, rfl, hown2, hb2.1⟩
          case measure => simp [intOf]; omega
      · have n1 : ((k : Int) == 4) = false := by simp; omega
        have n2 : ((k : Int) == 6) = false := by simp; omega
        have n3 : ((k : Int) == 8) = false := by simp; omega
        have n4 : ((k : Int) == 10) = false := by simp; omega
        have HF : Hid (fmt b (k + 1) = fmt b k ++ [hd (b k / 16)] ++ [hd (b k % 16)]) := fmt_non b k hsep
        clear hsep
        have hd1 := fun wx => digit_hi (b k) wx hbk
        have hd2 := fun wx => digit_lo (b k) wx
        generalize hd (b k / 16) = d1 at HF hd1
        generalize hd (b k % 16) = d2 at HF hd2
        have H1 : Hid (∀ wx, Calls Try.prog 13 #[.int .u8 ((b k : Int) / 16)] wx fun e w' => e = .returned (.int .u8 (d1 : Int)) ∧ wx = w') := hd1
        have H2 : Hid (∀ wx, Calls Try.prog 13 #[.int .u8 ((b k : Int) % 16)] wx fun e w' => e = .returned (.int .u8 (d2 : Int)) ∧ wx = w') := hd2
        clear hd1 hd2
        go_wp2_with fail
        refine (H1.out _).mono ?_
        rintro e w' ⟨rfl, rfl⟩
        go_wp2_with (at_builtin; refine wpList_append_fits _ rfl (.tmp 27) (.tmp 33) 31 rfl (w.heap.size + 1) 5 i0 1 Try.underlying31 hi hz1 (w.heap.size + 1) n 36 X rfl (hown.alloc _) ⟨wr.heap.size, 0, none⟩ 1 1 [.int .u8 (d1 : Int)] rfl rfl (cell_one_new _ _ _) (by simp [Value.oneCell']) (by omega) ?_; intro w1 hown1 hgrow1; have hb1 := step_below hbel hsz hgrow1; have hc1 := box_cell hb1.1 HC.out hlt)
        refine (H2.out _).mono ?_
        rintro e w' ⟨rfl, rfl⟩
        go_wp2_with (at_builtin; refine wpList_append_fits _ rfl (.tmp 35) (.tmp 41) 31 rfl (w.heap.size + 1) 5 i0 1 Try.underlying31 hi hz1 (w.heap.size + 1) (n + 1) 36 _ rfl (hown1.alloc _) ⟨w1.heap.size, 0, none⟩ 1 1 [.int .u8 (d2 : Int)] rfl rfl (cell_one_new _ _ _) (by simp [Value.oneCell']) (by omega) ?_; intro w2 hown2 hgrow2; have hb2 := step_below hb1.1 hb1.2 hgrow2)
        go_roundw
        case rel => exact ⟨k + 1, n + 1 + 1, _, by omega, by rw [HF.out, HN.out]; simp, by rw [HF.out, HX.out, vs_snoc, vs_snoc], by go_num, rfl, hown2, hb2.1⟩
        case measure => simp [intOf]; omega
    · have hk16 : k = 16 := by omega
      subst hk16
      have hback := back_any b hb wr _ n X HN.out HX.out hown
      have HT : Hid ((txt b).map UInt8.toNat = fmt b 16) := txt_nat b hb
      have HB : Hid (Below w.heap.size w wr) := ((Below.refl _ _).alloc (Nat.le_refl _) _).trans (hbel.mono (by omega))
      clear hb hbk hbel hown HN HX HC HZ
      generalize txt b = T at hback HT
      go_wp2
      go_ret
      exact ⟨_, rfl, HT.out, HB.out⟩
end Go.Proofs.Qxb6603700a.Format
