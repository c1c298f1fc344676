import Derived.Test.Qxb6629283aW1
import Derived.Deep.OwnRows
namespace Go.Proofs.Qxb6629283a
open Go.RowKit
set_option linter.unusedVariables false

theorem info42 : (Try.prog.info? 42).map (fun i => (i.zero, i.size, i.bytes)) = some (some (.agg #[.int .i8 0, .string ⟨#[]⟩]), 2, 24) := by kernel_rfl

def mk2 (n : Nat) : Array Value := madeCells #[.int .i8 0, .string ⟨#[]⟩] (n * 2)

set_option maxHeartbeats 400000 in
theorem one_any (s : Int) (x : ByteArray) (w : World) :
    Calls Try.prog 14 #[.agg #[.int .i8 s, .string x]] w fun e w' => e = .returned (.agg #[.int .i8 s, .string x]) ∧ Below w.heap.size w w' := by
  go_enter Try.func14, Try.ntmps14
  go_wp2
  exact bodyPost_ret (v := .agg #[.int .i8 s, .string x]) (by simp [results, Try.results14, go_sem]) rfl ⟨rfl, ((Below.refl _ _).alloc (Nat.le_refl _) _).alloc (by simp) _⟩

theorem make2 (n : Nat) (hn : n ≤ 4194304) (w : World) :
    (Instr.makeSlice 25 (.int .i64 (n : Int)) (.int .i64 (n : Int))).run Try.prog w = .ok (.slice (some ⟨w.heap.size, 0, none⟩) n n) (w.alloc (.cells (mk2 n) 42)) := by
  obtain ⟨i, hi, h0, h1, h2⟩ := info_parts info42
  have hr := run_make (P := Try.prog) w 25 42 i _ Try.underlying25 hi h0 .i64 .i64 n n (by omega) (Int.le_refl _) (by rw [h2]; omega) (by omega)
  rw [hr, h1]
  simp [mk2, Value.cells]

theorem rowIs_mk2 (w : World) (n : Nat) : (w.alloc (.cells (mk2 n) 42)).rowIs w.heap.size 42 (n * 2) (fun j => if j % 2 = 0 then .int .i8 0 else .string ⟨#[]⟩) := by
  refine ⟨_, Go.Deep.blk_alloc_new _ _, by simp [mk2, size_madeCells], fun i hi => ?_⟩
  simp only [mk2, madeCells]
  rcases Nat.mod_two_eq_zero_or_one i with h | h <;> simp [hi, h]

/-- what the new row holds when k elements have been copied -/
def cv (S : Nat → Int) (V : Nat → ByteArray) (k j : Nat) : Value :=
  if j < k * 2 then (if j % 2 = 0 then .int .i8 (S (j / 2)) else .string (V (j / 2))) else (if j % 2 = 0 then .int .i8 0 else .string ⟨#[]⟩)

structure CvI (w : World) (g n : Nat) (S : Nat → Int) (V : Nat → ByteArray) (k : Nat) (wr : World) : Prop where
  row : wr.rowIs g 42 (n * 2) (cv S V k)
  bel : Below w.heap.size w wr

theorem CvI.start (w : World) (n : Nat) (S : Nat → Int) (V : Nat → ByteArray) : CvI w w.heap.size n S V 0 (w.alloc (.cells (mk2 n) 42)) :=
  ⟨(rowIs_mk2 w n).congr (fun i hi => by simp [cv]), (Below.refl _ _).alloc (Nat.le_refl _) _⟩

theorem CvI.later {w : World} {g n : Nat} {S : Nat → Int} {V : Nat → ByteArray} {k : Nat} {wr w1 : World} (h : CvI w g n S V k wr) (hb : Below wr.heap.size wr w1) : CvI w g n S V k w1 :=
  ⟨h.row.of_block (hb.block _ h.row.lt), h.bel.trans (hb.mono h.bel.size)⟩

theorem CvI.step {w : World} {g n : Nat} {S : Nat → Int} {V : Nat → ByteArray} {k : Nat} {wr : World} (h : CvI w g n S V k wr) (hg : w.heap.size ≤ g) :
    CvI w g n S V (k + 1) ((wr.setCell ⟨g, k * 2, none⟩ (.int .i8 (S k))).setCell ⟨g, k * 2 + 1, none⟩ (.string (V k))) := by
  refine ⟨((h.row.set _ _).set _ _).congr (fun i hi => ?_), (h.bel.setCell (by exact hg) _).setCell (by exact hg) _⟩
  by_cases h1 : i = k * 2 + 1
  · subst h1
    have : (k * 2 + 1) / 2 = k := by omega
    have h2 : (k * 2 + 1) % 2 = 1 := by omega
    simp [cv, this, h2]; omega
  · by_cases h0 : i = k * 2
    · subst h0
      have : (k * 2) / 2 = k := by omega
      have h2 : (k * 2) % 2 = 0 := by omega
      simp [cv, this]
    · simp only [h0, h1, if_false, cv]
      have e : (i < (k + 1) * 2) = (i < k * 2) := by apply propext; omega
      simp only [e]

theorem CvI.rw {w : World} {g n : Nat} {S : Nat → Int} {V : Nat → ByteArray} {wr : World} (h : CvI w g n S V n wr) : Rw wr (some ⟨g, 0, none⟩) n S V := by
  refine .inr ⟨g, 0, rfl, fun i hi => ?_⟩
  have a := h.row.cell (i := i * 2) (by omega)
  have b := h.row.cell (i := i * 2 + 1) (by omega)
  rw [Nat.zero_add]
  rw [a, b]
  have e1 : (i * 2) / 2 = i := by omega
  have e2 : (i * 2 + 1) / 2 = i := by omega
  have e3 : (i * 2 + 1) % 2 = 1 := by omega
  simp [cv, e1, e2, e3]; omega

theorem Rw.later {w w1 : World} {a : Option Addr} {n : Nat} {S : Nat → Int} {V : Nat → ByteArray} {B : Nat} (h : Rw w a n S V) (hb : Below B w w1) (hB : w.heap.size ≤ B) : Rw w1 a n S V := by
  rcases h with h | ⟨b, off, rfl, hc⟩
  · exact .inl h
  · refine .inr ⟨b, off, rfl, fun i hi => ⟨?_, ?_⟩⟩
    · rw [hb.cell (p := ⟨b, off + i * 2, none⟩) (Nat.lt_of_lt_of_le (World.block_lt_of_cell? _ _ (hc i hi).1) hB)]; exact (hc i hi).1
    · rw [hb.cell (p := ⟨b, off + i * 2 + 1, none⟩) (Nat.lt_of_lt_of_le (World.block_lt_of_cell? _ _ (hc i hi).2) hB)]; exact (hc i hi).2

def ConvP (n : Nat) (S : Nat → Int) (V : Nat → ByteArray) (w : World) (e : Ending) (w' : World) : Prop :=
  ∃ a cap, e = .returned (.slice a n cap) ∧ Rw w' a n S V ∧ Below w.heap.size w w'

set_option maxHeartbeats 400000 in
theorem conv_any (a : Option Addr) (n cap : Nat) (S : Nat → Int) (V : Nat → ByteArray) (w : World) (hn : n ≤ 1048576) (hnil : a = none → n = 0) (hr : Rw w a n S V) :
    Calls Try.prog 7 #[.slice a n cap] w (ConvP n S V w) := by
  have q := fun (w : World) (a : Option Addr) (n c : Nat) => Lib.run_eql_slice_nil w 22 33 a n c 0 0 Try.underlying22
  have hmk := make2 n (by omega)
  cases a with
  | none =>
    obtain rfl := hnil rfl
    go_enter Try.func7, Try.ntmps7
    go_wp2
    go_ret
    exact ⟨none, 0, rfl, .inl rfl, Below.refl _ _⟩
  | some a =>
    have hst := CvI.start w n S V
    go_enter Try.func7, Try.ntmps7
    go_wp2
    go_loopw [4] (fun i wr => ∃ k : Nat, k ≤ n ∧ i = .int .i64 k ∧ CvI w w.heap.size n S V k wr) (fun i _ => n - (intOf i).toNat)
    case atStart => exact ⟨0, Nat.zero_le _, rfl, hst⟩
    case round =>
      obtain ⟨k, hk, rfl, hI⟩ := hrel
      by_cases hlt : k < n
      · have hr1 := hr.later hI.bel (Nat.le_refl _)
        rcases hr1 with h0 | ⟨b, off, hab, hc⟩
        · omega
        obtain rfl := Option.some.inj hab
        obtain ⟨hc1, hc2⟩ := hc k hlt
        clear hab hc hr hst
        go_wp2_with fail
        refine (one_any (S k) (V k) wr).mono ?_
        rintro e w1 ⟨rfl, hb⟩
        have hI1 := hI.later hb
        have hS := hI1.step (Nat.le_refl _)
        have hx0 := hI1.row.cell (i := k * 2) (by omega)
        have hx1 := hI1.row.cell (i := k * 2 + 1) (by omega)
        have hf0 := hI1.row.frozen (k * 2)
        have hf1 := hI1.row.frozen (k * 2 + 1)
        clear hI hI1 hc1 hc2 hb
        go_wp2
        go_roundw
        case rel => exact ⟨k + 1, by omega, by go_num, hS⟩
        case measure => simp [intOf]; omega
      · go_wp2
        go_ret
        have hkn : k = n := by omega
        subst hkn
        exact ⟨_, _, rfl, hI.rw, hI.bel⟩

end Go.Proofs.Qxb6629283a
