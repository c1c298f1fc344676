import Derived.Test.Qxb6630632aW2
namespace Go.Proofs.Qxb6630632a
open Go.RowKit
set_option linter.unusedVariables false

set_option maxHeartbeats 2000000 in
set_option maxRecDepth 100000 in
theorem grow_fresh (B b n : Nat) (w : World) (hB : B ≤ b) (hbk : w.heap[b]? = some (.cells #[.pointer (some ⟨b, 0, none⟩), .slice none 0 0] 29 (0, 0))) (hBw : B ≤ w.heap.size) (hn : n ≤ 281474976710656) :
    Calls Try.prog 14 #[.pointer (some ⟨b, 0, none⟩), .int .i64 n] w fun e w' => e = .returned (.tuple #[]) ∧ (Lib.BuilderAt 29 5 B b (.pointer (some ⟨b, 0, none⟩)) [] w' ∧ Fr B b w w') := by
  obtain ⟨cs, hrun, hle, hmax⟩ := Lib.run_makeNoZero (P := Try.prog) w.drew #[3] 25 5 Try.underlying25 n hn
  have hw : IntKind.i64.wrap (IntKind.i64.wrap 0 + (n : Int)) = n := by
    rw [IntKind.wrap_i64, IntKind.wrap_i64]
    omega
  have hcall : (callFunc 16 #[.int .i64 (IntKind.i64.wrap (IntKind.i64.wrap 0 + (n : Int)))]).run Try.prog w.drew = .ok (.value (.slice (some ⟨w.drew.heap.size, 0, none⟩) n cs.size)) (w.drew.drew.drew.alloc (.cells cs 5)) := by
    rw [hw, run_callFunc_extern Try.func16 (by kernel_rfl) (by kernel_rfl) (by kernel_rfl) (e := Extern.BytealgMakeNoZero.makeNoZero #[3] #[25]) (by kernel_rfl), hrun]
    rfl
  have c1 : w.drew.cell? ⟨b, 1, none⟩ = some (.slice none 0 0) := by
    have : w.drew.heap[b]? = _ := hbk
    rw [Lib.cell_of_heap this]; rfl
  have hlt : b < w.heap.size := by
    rcases Nat.lt_or_ge b w.heap.size with h' | h'
    · exact h'
    · simp [Array.getElem?_eq_none h'] at hbk
  have c2 : (w.alloc (.cells cs 5)).cell? ⟨b, 1, none⟩ = some (.slice none 0 0) := by
    have : (w.alloc (.cells cs 5)).heap[b]? = _ := (Lib.alloc_old w _ b hlt).trans hbk
    rw [Lib.cell_of_heap this]; rfl
  have f2 : (w.alloc (.cells cs 5)).frozen? ⟨b, 1, none⟩ = false := Lib.frozen_of_heap ((Lib.alloc_old w _ b hlt).trans hbk) 1
  have hcopy : ∀ W : World, (Builtin.copy_ #[25, 25] 3 #[.slice (some ⟨w.heap.size, 0, none⟩) 0 cs.size, .slice none 0 0]).run Try.prog W = .ok (goInt 0) W :=
    fun W => run_copy_none W 25 25 3 5 _ _ 0 cs.size 0 0 Try.underlying25 size5 rfl
  clear hw
  have hfin := Lib.grown_fresh (T := 29) (e := 5) (cs := cs) hB hbk hBw (hmax (by unfold maxLen; omega)) (by decide)
  rw [World.setCell_alloc_past _ _ _ _ hlt] at hfin
  have hfin2 : Lib.BuilderAt 29 5 B b (.pointer (some ⟨b, 0, none⟩)) [] ((w.setCell ⟨b, 1, none⟩ (.slice (some ⟨w.heap.size, 0, none⟩) 0 cs.size)).alloc (.cells cs 5)).drew.drew.drew ∧ Fr B b w ((w.setCell ⟨b, 1, none⟩ (.slice (some ⟨w.heap.size, 0, none⟩) 0 cs.size)).alloc (.cells cs 5)).drew.drew.drew :=
    ⟨hfin.1, hfin.2, ((((Lib.OthersKept.refl 5 (some b) w).setCell ⟨b, 1, none⟩ rfl _).alloc _).drew.drew.drew)⟩
  clear hle hmax hrun hfin
  go_enter Try.func14, Try.ntmps14
  go_wp2
  go_region
  all_goals (go_wp2; go_end0; exact ⟨rfl, hfin2⟩)

end Go.Proofs.Qxb6630632a
