import Derived.Test.Qxb6630632aW3
import Derived.Lib.IndexBytes
namespace Go.Proofs.Qxb6630632a
open Go.RowKit
set_option linter.unusedVariables false

set_option maxHeartbeats 2000000 in
set_option maxRecDepth 100000 in
theorem Grow_fresh (B b n : Nat) (w : World) (hB : B ≤ b) (hbk : w.heap[b]? = some (.cells #[.pointer none, .slice none 0 0] 29 (0, 0))) (hBw : B ≤ w.heap.size) (h0 : 0 < n) (hn : n ≤ 281474976710656) :
    Calls Try.prog 10 #[.pointer (some ⟨b, 0, none⟩), .int .i64 n] w fun e w' => e = .returned (.tuple #[]) ∧ (Lib.BuilderAt 29 5 B b (.pointer (some ⟨b, 0, none⟩)) [] w' ∧ Fr B b w w') := by
  have hbk1 : (w.setCell ⟨b, 0, none⟩ (.pointer (some ⟨b, 0, none⟩))).heap[b]? = some (.cells #[.pointer (some ⟨b, 0, none⟩), .slice none 0 0] 29 (0, 0)) := by
    simp [World.setCell, Array.getElem?_modify, hbk]
  have hb1 : Fr B b w (w.setCell ⟨b, 0, none⟩ (.pointer (some ⟨b, 0, none⟩))) := (Fr.refl B b w).set hB 0 _
  have HC : Hid (Calls Try.prog 13 #[.pointer (some ⟨b, 0, none⟩)] w fun e w' => e = .returned (.tuple #[]) ∧ w' = w.setCell ⟨b, 0, none⟩ (.pointer (some ⟨b, 0, none⟩))) :=
    check_fresh b w (by rw [Lib.cell_of_heap hbk]; rfl) (by simp [World.shape?, hbk]) (Lib.frozen_of_heap hbk 0)
  obtain ⟨W1, hW1⟩ : ∃ W1, W1 = w.setCell ⟨b, 0, none⟩ (.pointer (some ⟨b, 0, none⟩)) := ⟨_, rfl⟩
  rw [← hW1] at hbk1 hb1 HC
  have hBw1 : B ≤ W1.heap.size := by rw [hW1]; simpa [World.setCell] using hBw
  have c1 : W1.cell? ⟨b, 1, none⟩ = some (.slice none 0 0) := by rw [Lib.cell_of_heap hbk1]; rfl
  clear hW1 hbk
  go_enter Try.func10, Try.ntmps10
  go_wp2_with fail
  refine HC.out.mono ?_
  rintro e w' ⟨rfl, hw⟩
  rw [hw]
  clear hw
  go_wp2
  go_quiet (fail)
  go_wp2_with fail
  refine (grow_fresh B b n (W1.drewN nq) hB (by exact hbk1) (by exact hBw1) hn).mono ?_
  rintro e w2 ⟨rfl, h1, h2⟩
  go_wp2
  go_end0
  exact ⟨rfl, h1, (hb1.drewN _).trans h2⟩

theorem Grow_int (B b : Nat) (ni : Int) (w : World) (hB : B ≤ b) (hbk : w.heap[b]? = some (.cells #[.pointer none, .slice none 0 0] 29 (0, 0))) (hBw : B ≤ w.heap.size) (h0 : 0 < ni) (hn : ni ≤ 281474976710656) :
    Calls Try.prog 10 #[.pointer (some ⟨b, 0, none⟩), .int .i64 ni] w fun e w' => e = .returned (.tuple #[]) ∧ (Lib.BuilderAt 29 5 B b (.pointer (some ⟨b, 0, none⟩)) [] w' ∧ Fr B b w w') := by
  obtain ⟨n, rfl⟩ := Int.eq_ofNat_of_zero_le (show 0 ≤ ni by omega)
  exact Grow_fresh B b n w hB hbk hBw (by omega) (by omega)

theorem reset_heap {w : World} {b : Nat} {p v : Value} (hbk : w.heap[b]? = some (.cells #[p, v] 29 (0, 0))) (q : Nat) :
    (((w.drewN q).setCell ⟨b, 0, none⟩ (.pointer none)).setCell ⟨b, 1, none⟩ (.slice none 0 0)).heap[b]? = some (.cells #[.pointer none, .slice none 0 0] 29 (0, 0)) := by
  have h0 : (w.drewN q).heap[b]? = some (.cells #[p, v] 29 (0, 0)) := hbk
  have h1 := heap_setCell_same (w.drewN q) b 0 #[p, v] 29 (.pointer none) h0
  have h2 := heap_setCell_same _ b 1 _ 29 (.slice none 0 0) h1
  simpa using h2

/-- what Keep leaves: the field's own text; a builder still, which has grown by no more than the field -/
def KeepP (B b : Nat) (x : ByteArray) (L : Nat) (w : World) (e : Ending) (w' : World) : Prop :=
  ∃ l, e = .returned (.string x) ∧ Lib.IsBuilderF 29 5 B b (Lib.byteCells l) w' ∧ l.length ≤ L + x.size ∧ Fr B b w w'

theorem tail_of (l : List UInt8) (x : ByteArray) : (⟨(l ++ x.data.toList).toArray⟩ : ByteArray).extract l.length (⟨(l ++ x.data.toList).toArray⟩ : ByteArray).size = x := by
  have e : ((⟨(l ++ x.data.toList).toArray⟩ : ByteArray).extract l.length (⟨(l ++ x.data.toList).toArray⟩ : ByteArray).size).data.toList = x.data.toList := by
    rw [Lib.extract_to_end]; simp
  exact ByteArray.ext (Array.toList_inj.1 e)

theorem tail_nil (x : ByteArray) : (⟨([] ++ x.data.toList).toArray⟩ : ByteArray) = x := by
  refine ByteArray.ext ?_
  simp

theorem ret_str {a b : ByteArray} (h : a = b) : Ending.returned (.string a) = .returned (.string b) := by rw [h]

theorem size_cat (l : List UInt8) (x : ByteArray) : (⟨(l ++ x.data.toList).toArray⟩ : ByteArray).size = l.length + x.size := by
  show (l ++ x.data.toList).toArray.size = l.length + x.data.size
  simp

set_option maxHeartbeats 2000000 in
set_option maxRecDepth 100000 in
theorem keep_any (B b : Nat) (l : List UInt8) (x : ByteArray) (w : World) (h : Lib.IsBuilderF 29 5 B b (Lib.byteCells l) w) (hBw : B ≤ w.heap.size) (hl : l.length ≤ 1099511627776) (hx : x.size ≤ 1048576) :
    Calls Try.prog 6 #[.pointer (some ⟨b, 0, none⟩), .string x] w (KeepP B b x l.length w) := by
  obtain ⟨p, hp, hAt⟩ : ∃ p, (p = none ∨ p = some ⟨b, 0, none⟩) ∧ Lib.BuilderAtF 29 5 B b (.pointer p) (Lib.byteCells l) w := by
    rcases h with h | h
    · exact ⟨_, .inl rfl, h⟩
    · exact ⟨_, .inr rfl, h⟩
  obtain ⟨hB, v, hbk, hown, hne⟩ := hAt
  rw [Lib.byteCells_length] at hown
  obtain ⟨ao, cap, rfl, hcap⟩ : ∃ ao cap, v = .slice ao l.length cap ∧ (cap : Int) ≤ 9223372036854775807 := by
    rcases hown.2 with ⟨hv, h0⟩ | ⟨g, cap, cur, fz, hv, _, _, _, _, hm, _⟩
    · exact ⟨none, 0, by rw [hv, h0], by omega⟩
    · refine ⟨_, _, hv, ?_⟩
      unfold maxLen at hm; omega
  have c0 : w.cell? ⟨b, 0, none⟩ = some (.pointer p) := by rw [Lib.cell_of_heap hbk]; rfl
  have c1 : w.cell? ⟨b, 1, none⟩ = some (.slice ao l.length cap) := by rw [Lib.cell_of_heap hbk]; rfl
  have f0 := Lib.frozen_of_heap hbk 0
  have f1 := Lib.frozen_of_heap hbk 1
  by_cases hroom : (cap : Int) - (l.length : Int) < (x.size : Int)
  · go_enter Try.func6, Try.ntmps6
    go_wp2
    go_quiet (first | (go_at_call 8; exact Calls.quiet_of_same (cap_cell b ao l.length cap _ c1)) | (go_at_call 9; exact Calls.quiet_of_same (len_cell b ao l.length cap _ c1)))
    have hbk' := reset_heap hbk nq
    have hBel : Fr B b w (((w.drewN nq).setCell ⟨b, 0, none⟩ (.pointer none)).setCell ⟨b, 1, none⟩ (.slice none 0 0)) := (((Fr.refl B b w).drewN nq).set hB 0 _).set hB 1 _
    clear hp h
    go_wp2_with fail
    all_goals
      obtain ⟨W1, hW1⟩ : ∃ W1, W1 = ((w.drewN nq).setCell ⟨b, 0, none⟩ (.pointer none)).setCell ⟨b, 1, none⟩ (.slice none 0 0) := ⟨_, rfl⟩
      rw [← hW1] at hbk' hBel ⊢
      have hBw1 : B ≤ W1.heap.size := Nat.le_trans hBw hBel.bel.size
      clear hW1
      refine (Grow_int B b _ W1 hB hbk' hBw1 (by omega) (by omega)).mono ?_
      rintro e w1 ⟨rfl, hA1, hb1⟩
      have hI1 : Lib.IsBuilderF 29 5 B b (Lib.byteCells []) w1 := .inr (Lib.BuilderAtF.of hA1)
      obtain ⟨hB', v1, hbk1, hown1, hne1⟩ := hA1
      obtain ⟨a1, k1, hv1⟩ : ∃ a1 k1, v1 = .slice a1 0 k1 := by
        rcases hown1.2 with ⟨hv, h0⟩ | ⟨g, k, cur, hv, _⟩
        · exact ⟨none, 0, hv⟩
        · exact ⟨_, _, hv⟩
      rw [hv1] at hbk1
      have d1 : w1.cell? ⟨b, 1, none⟩ = some (.slice a1 0 k1) := by rw [Lib.cell_of_heap hbk1]; rfl
      have hBw2 : B ≤ w1.heap.size := Nat.le_trans hBw1 hb1.bel.size
      clear hown1 hne1 hbk1 hv1 hbk' hbk hown hne c0 c1 f0 f1
      go_wp2_with fail
      refine (len_cell b a1 0 k1 w1 d1).mono ?_
      rintro e w5 ⟨rfl, rfl⟩
      go_wp2_with fail
      refine (write_any B b (Lib.byteCells []) x w5 hI1 (by rw [Lib.byteCells_length]; simp; omega) hBw2).mono ?_
      rintro e w2 ⟨rfl, h2, hb2⟩
      have h2' : Lib.IsBuilderF 29 5 B b (Lib.byteCells ([] ++ x.data.toList)) w2 := by
        rw [Lib.byteCells_append, ← Lib.strCells_eq]; exact .inr h2
      clear h2 d1
      go_wp2_with fail
      refine (string_any B b ([] ++ x.data.toList) w2 h2' (Nat.le_trans hBw2 hb2.bel.size)).mono ?_
      rintro e w3 ⟨rfl, h3, hb3⟩
      have HT := tail_nil x
      generalize (⟨([] ++ x.data.toList).toArray⟩ : ByteArray) = t at *
      have HT' : Hid (t = x) := HT
      clear HT
      go_wp2
      go_ret
      exact ⟨[] ++ x.data.toList, ret_str HT'.out, h3, by simp, hBel.trans (hb1.trans (hb2.trans hb3))⟩
  · go_enter Try.func6, Try.ntmps6
    go_wp2
    go_quiet (first | (go_at_call 8; exact Calls.quiet_of_same (cap_cell b ao l.length cap _ c1)) | (go_at_call 9; exact Calls.quiet_of_same (len_cell b ao l.length cap _ c1)))
    go_wp2_with fail
    refine (len_cell b ao l.length cap (w.drewN nq) (by exact c1)).mono ?_
    rintro e w1 ⟨rfl, rfl⟩
    go_wp2_with fail
    refine (write_any B b (Lib.byteCells l) x (w.drewN nq) (by exact h) (by rw [Lib.byteCells_length]; omega) (by exact hBw)).mono ?_
    rintro e w2 ⟨rfl, h2, hb2⟩
    have h2' : Lib.IsBuilderF 29 5 B b (Lib.byteCells (l ++ x.data.toList)) w2 := by
      rw [Lib.byteCells_append, ← Lib.strCells_eq]; exact .inr h2
    clear h2 hown hbk hne c0 c1 f0 f1
    go_wp2_with fail
    refine (string_any B b (l ++ x.data.toList) w2 h2' (by have := hb2.bel.size; simp at this; omega)).mono ?_
    rintro e w3 ⟨rfl, h3, hb3⟩
    have HT := tail_of l x
    have hsz := size_cat l x
    generalize (⟨(l ++ x.data.toList).toArray⟩ : ByteArray) = t at *
    have hsz1 : l.length ≤ t.size := by omega
    have HT' : Hid (t.extract l.length t.size = x) := HT
    clear HT hsz
    go_wp2
    go_ret
    exact ⟨l ++ x.data.toList, ret_str HT'.out, h3, by simp, ((Fr.refl B b w).drewN nq).trans (hb2.trans hb3)⟩

end Go.Proofs.Qxb6630632a
