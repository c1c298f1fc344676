import Derived.Test.Qxb6629351aW3
import Derived.Test.Qxb6629351aPlain3
import Derived.Deep.OwnRows
namespace Go.Proofs.Qxb6629351a
open Go.RowKit
set_option linter.unusedVariables false

theorem info5 : (Try.prog.info? 5).map (fun i => (i.zero, i.size, i.bytes)) = some (some (.int .u8 0), 1, 1) := by kernel_rfl

theorem ins_length (l : List UInt8) (i : Nat) (c : UInt8) (h : i ≤ l.length) : (ins l i c).length = l.length + 1 := by
  simp [ins]; omega

theorem ins_lt {l : List UInt8} {i j : Nat} {c : UInt8} (h : i ≤ l.length) (hj : j < i) : (ins l i c)[j]? = l[j]? := by
  rw [ins, List.getElem?_append_left (by simp; omega), List.getElem?_take, if_pos hj]

theorem ins_at {l : List UInt8} {i : Nat} {c : UInt8} (h : i ≤ l.length) : (ins l i c)[i]? = some c := by
  rw [ins, List.getElem?_append_right (by simp; omega)]
  simp [Nat.min_eq_left h]

theorem ins_gt {l : List UInt8} {i j : Nat} {c : UInt8} (h : i ≤ l.length) (hj : i ≤ j) : (ins l i c)[j + 1]? = l[j]? := by
  rw [ins, List.getElem?_append_right (by simp; omega)]
  simp only [List.length_take, Nat.min_eq_left h]
  rw [show j + 1 - i = (j - i) + 1 by omega, List.getElem?_cons_succ, List.getElem?_drop]
  congr 1; omega

/-- the new row when its first k cells have been written -/
def part (l : List UInt8) (k j : Nat) : Value := if j < k then .int .u8 (((l[j]?).map num).getD 0) else .int .u8 0

structure InsI (w : World) (g : Nat) (l : List UInt8) (k : Nat) (wr : World) : Prop where
  row : wr.rowIs g 5 l.length (part l k)
  bel : Below w.heap.size w wr

theorem InsI.step {w : World} {g : Nat} {l : List UInt8} {k : Nat} {wr : World} (h : InsI w g l k wr) (hg : w.heap.size ≤ g) {c : UInt8} (hc : l[k]? = some c) :
    InsI w g l (k + 1) (wr.setCell ⟨g, k, none⟩ (.int .u8 (num c))) := by
  refine ⟨(h.row.set _ _).congr (fun i hi => ?_), h.bel.setCell (by exact hg) _⟩
  by_cases e : i = k
  · subst e; simp [part, hc]
  · simp only [e, if_false, part]
    have : (i < k + 1) = (i < k) := by apply propext; omega
    simp only [this]

theorem InsI.start (w : World) (l : List UInt8) : InsI w w.heap.size l 0 (w.alloc (.cells (madeCells #[.int .u8 0] l.length) 5)) :=
  ⟨(World.rowIs_made w (.int .u8 0) l.length 5).congr (fun i hi => by simp [part]), (Below.refl _ _).alloc (Nat.le_refl _) _⟩

theorem InsI.run {w : World} {g : Nat} {l : List UInt8} {wr : World} (h : InsI w g l l.length wr) (cap : Nat) :
    (convert 27 9 (.slice (some ⟨g, 0, none⟩) l.length cap)).run Try.prog wr = .ok (.string ⟨l.toArray⟩) wr := by
  refine run_convert_bytes_back wr 27 9 5 ⟨g, 0, none⟩ cap l Try.underlying27 Try.underlying5 Try.underlying9 (fun j hj => ?_)
  rw [Addr.add_lit, Nat.zero_add, h.row.cell hj]
  simp [part, hj, num]

def InsP (l : List UInt8) (i : Nat) (c : UInt8) (w : World) (e : Ending) (w' : World) : Prop := e = .returned (.string ⟨(ins l i c).toArray⟩) ∧ Below w.heap.size w w'

set_option maxHeartbeats 400000 in
theorem ins_any (s : ByteArray) (i : Nat) (c : UInt8) (ci : Int) (hci : Hid (ci = num c)) (w : World) (hs : s.size ≤ 65536) (hi : i ≤ s.size) :
    Calls Try.prog 9 #[.string s, .int .i64 (i : Int), .int .u8 ci] w (InsP s.data.toList i c w) := by
  have hll : s.data.toList.length = s.size := by simp
  have hlen : (ins s.data.toList i c).length = s.size + 1 := by rw [ins_length _ _ _ (by omega), hll]
  have hmk := run_make_row' (P := Try.prog) 27 5 (.int .u8 0) 1 Try.underlying27 info5 rfl .i64 .i64 (s.size + 1) (by omega) (by omega)
  have ec : ((s.size + 1 : Nat) : Int) = (s.size : Int) + 1 := by omega
  rw [ec] at hmk
  have hst := InsI.start w (ins s.data.toList i c)
  rw [hlen] at hst
  have Hst : Hid (InsI w w.heap.size (ins s.data.toList i c) 0 (w.alloc (.cells (madeCells #[.int .u8 0] (s.size + 1)) 5))) := hst
  have Hlen : Hid ((ins s.data.toList i c).length = s.size + 1) := hlen
  clear ec hlen hll hst
  go_enter Try.func9, Try.ntmps9
  go_wp2
  go_loopw [8] (fun x wr => ∃ k : Nat, k ≤ i ∧ x = .int .i64 k ∧ InsI w w.heap.size (ins s.data.toList i c) k wr) (fun x _ => i - (intOf x).toNat)
  case atStart => exact ⟨0, Nat.zero_le _, rfl, Hst.out⟩
  case round =>
    obtain ⟨k, hk, rfl, hI⟩ := hrel
    clear hmk Hst
    by_cases hlt : k < i
    · have hks : k < s.size := by omega
      have hS := hI.step (Nat.le_refl _) (c := s[k]) (by rw [ins_lt (by simpa using hi) hlt]; exact get_list s k hks)
      have hx0 := hI.row.cell (i := k) (by rw [Hlen.out]; omega)
      have hf0 := hI.row.frozen k
      have HS : Hid (InsI w w.heap.size (ins s.data.toList i c) (k + 1) (wr.setCell ⟨w.heap.size, k, none⟩ (.int .u8 (s[k].toNat : Int)))) := hS
      clear hI hS
      go_wp2
      go_roundw
      case rel => exact ⟨k + 1, by omega, by go_num, HS.out⟩
      case measure => simp [intOf]; omega
    · have hki : k = i := by omega
      subst hki
      have hS := hI.step (Nat.le_refl _) (c := c) (ins_at (by simpa using hi))
      rw [← hci.out] at hS
      have hx0 := hI.row.cell (i := k) (by rw [Hlen.out]; omega)
      have hf0 := hI.row.frozen k
      have HS : Hid (InsI w w.heap.size (ins s.data.toList k c) (k + 1) (wr.setCell ⟨w.heap.size, k, none⟩ (.int .u8 ci))) := hS
      clear hI hS
      go_wp2
      obtain ⟨W1, hW1⟩ : ∃ W1, W1 = wr.setCell ⟨w.heap.size, k, none⟩ (.int .u8 ci) := ⟨_, rfl⟩
      rw [← hW1]
      have hI1 := HS.out
      rw [← hW1] at hI1
      clear hW1 HS hx0 hf0
      go_loopw [9] (fun x wr => ∃ j : Nat, k ≤ j ∧ j ≤ s.size ∧ x = .int .i64 j ∧ InsI w w.heap.size (ins s.data.toList k c) (j + 1) wr) (fun x _ => s.size - (intOf x).toNat)
      case atStart => exact ⟨k, Nat.le_refl _, hi, rfl, hI1⟩
      case round =>
        clear hI1
        obtain ⟨j, hj0, hj, rfl, hI⟩ := hrel
        by_cases hjs : j < s.size
        · have hS := hI.step (Nat.le_refl _) (c := s[j]) (by rw [ins_gt (by simpa using hi) hj0]; exact get_list s j hjs)
          have hx0 := hI.row.cell (i := j + 1) (by rw [Hlen.out]; omega)
          have hf0 := hI.row.frozen (j + 1)
          have HS : Hid (InsI w w.heap.size (ins s.data.toList k c) (j + 1 + 1) (World.setCell _ ⟨w.heap.size, j + 1, none⟩ (.int .u8 (s[j].toNat : Int)))) := hS
          clear hI hS
          go_wp2
          go_roundw
          case rel => exact ⟨j + 1, by omega, by omega, by go_num, HS.out⟩
          case measure => simp [intOf]; omega
        · have hjn : j = s.size := by omega
          have hlen := Hlen.out
          have hI' : InsI w w.heap.size (ins s.data.toList k c) (ins s.data.toList k c).length wr := by rw [hlen]; rw [hjn] at hI; exact hI
          have hrun := hI'.run (cap := s.size + 1)
          rw [hlen] at hrun
          have hbel := hI.bel
          clear hI hI' hlen
          go_wp2
          go_ret
          exact ⟨rfl, hbel⟩

end Go.Proofs.Qxb6629351a
