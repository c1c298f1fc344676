import Derived.Test.Qxb6629283aW3
import Derived.Deep.QuietTactic
import Derived.BigQuiet
namespace Go.Proofs.Qxb6629283a
open Go.RowKit
set_option linter.unusedVariables false

/-- a slice that holds the ints us; nothing is said of its address where there are none -/
def Ints (w : World) (a : Option Addr) (us : List Int) : Prop :=
  us.length = 0 ∨ ∃ g, a = some ⟨g, 0, none⟩ ∧ ∀ j, j < us.length → w.cell? ⟨g, j, none⟩ = some (.int .i64 (us.getD j 0))

theorem Ints.of_own {w : World} {b : Nat} {a : Option Addr} {c : Nat} {us : List Int} (h : w.ownsRow b 3 1 (.slice a us.length c) us.length (us.map (Value.int .i64))) : Ints w a us := by
  rcases h.2 with ⟨_, h0⟩ | ⟨g, c', cur, h1, _⟩
  · exact .inl h0
  · simp only [Value.slice.injEq, true_and] at h1
    obtain ⟨rfl, rfl⟩ := h1
    refine .inr ⟨g, rfl, fun j hj => ?_⟩
    rw [h.cellAt j (by omega)]
    simp [List.getD, hj]

theorem Ints.later {w w1 : World} {a : Option Addr} {us : List Int} {B : Nat} (h : Ints w a us) (hb : Below B w w1) (hB : w.heap.size ≤ B) : Ints w1 a us := by
  rcases h with h | ⟨g, rfl, hc⟩
  · exact .inl h
  · refine .inr ⟨g, rfl, fun j hj => ?_⟩
    rw [hb.cell (p := ⟨g, j, none⟩) (Nat.lt_of_lt_of_le (World.block_lt_of_cell? _ _ (hc j hj)) hB)]
    exact hc j hj

set_option maxHeartbeats 400000 in
theorem ints_eq (a b : Option Addr) (ca cb : Nat) (us : List Int) (w : World) (hl : us.length ≤ 4194304) (ha : Ints w a us) (hb : Ints w b us) :
    Calls Try.prog 10 #[.slice a us.length ca, .slice b us.length cb] w fun e w' => e = .returned (.bool true) ∧ ∃ n, w' = w.drewN n := by
  go_enter Try.func10, Try.ntmps10
  go_wp2
  go_loopw [5] (fun i wr => ∃ (k nq : Nat), k ≤ us.length ∧ i = .int .i64 k ∧ wr = w.drewN nq) (fun i _ => us.length - (intOf i).toNat)
  case atStart => exact ⟨0, 0, Nat.zero_le _, rfl, rfl⟩
  case round =>
    obtain ⟨k, nq, hk, rfl, rfl⟩ := hrel
    by_cases hlt : k < us.length
    · rcases ha with h0 | ⟨g, rfl, hca⟩
      · omega
      rcases hb with h0 | ⟨g', rfl, hcb⟩
      · omega
      have h1 := hca k hlt
      have h2 := hcb k hlt
      clear hca hcb
      go_wp2
      go_quiet (fail)
      go_wp2
      go_roundw
      case rel => exact ⟨k + 1, _, by omega, by go_num, rfl⟩
      case measure => simp [intOf]; omega
    · go_wp2
      go_ret
      exact ⟨rfl, _, rfl⟩

end Go.Proofs.Qxb6629283a
