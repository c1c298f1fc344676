import Derived.Test.Qxb6630632aW6
namespace Go.Proofs.Qxb6630632a
open Go.RowKit
set_option linter.unusedVariables false

set_option maxHeartbeats 400000 in
theorem bound7_any (a : Option Addr) (n cap : Nat) (V : Nat → ByteArray) (w : World) (hm : n ≤ maxLen) (hr : Rs w a n V) :
    Calls Try.prog 7 #[.slice a n cap] w (Bd n V w) := by
  unfold maxLen at hm
  by_cases hn : n ≤ 1048576
  · go_enter Try.func7, Try.ntmps7
    go_wp2
    go_loop [3, 4] (fun t i => ∃ k : Nat, k ≤ n ∧ i = .int .i64 k ∧ (∃ r : Int, t = .int .i64 r) ∧ Hid (∀ i, i < k → (V i).size ≤ 1048576)) (fun _ i => n - (intOf i).toNat)
    case atStart => exact ⟨0, Nat.zero_le _, rfl, ⟨_, rfl⟩, fun i hi => by omega⟩
    case round =>
      obtain ⟨k, hk, rfl, ⟨r, rfl⟩, hall⟩ := hrel
      by_cases hlt : k < n
      · rcases hr with h0 | ⟨b, off, rfl, hc⟩
        · omega
        have hc2 := hc k hlt
        clear hc
        by_cases hsz : (V k).size ≤ 1048576
        · go_wp2
          · go_ret
            exact ⟨⟨_, rfl, fun h => by cases h⟩, rfl⟩
          · go_round
            case rel =>
              refine ⟨k + 1, by omega, by go_num, ⟨_, rfl⟩, fun i hi => ?_⟩
              by_cases e : i = k
              · subst e; exact hsz
              · exact hall.out i (by omega)
            case measure => simp [intOf]; omega
        · go_wp2
          go_ret
          exact ⟨⟨_, rfl, fun h => by cases h⟩, rfl⟩
      · go_wp2
        go_ret
        exact ⟨⟨_, rfl, fun _ => ⟨hn, fun i hi => hall.out i (by omega)⟩⟩, rfl⟩
  · go_enter Try.func7, Try.ntmps7
    go_wp2
    go_ret
    exact ⟨⟨_, rfl, fun h => by cases h⟩, rfl⟩

theorem Bl.more {w wr : World} {M M' : Nat} (h : Bl w M wr) (hM : M ≤ M') : Bl w M' wr := by
  obtain ⟨l, h1, h2, h3⟩ := h
  exact ⟨l, h1, Nat.le_trans h2 hM, h3⟩

/-- a row of texts of which those from place k on have been written -/
def gd (V : Nat → ByteArray) (k j : Nat) : Value := if k ≤ j then .string (V j) else .string ⟨#[]⟩

theorem rowD (w : World) (n : Nat) (V : Nat → ByteArray) : (w.alloc (.cells (mkS n) 9)).rowIs w.heap.size 9 n (gd V n) :=
  (World.rowIs_made w (.string ⟨#[]⟩) n 9).congr (fun i hi => by simp [gd]; omega)

theorem row_down {w : World} {g n k : Nat} {V : Nat → ByteArray} (h : w.rowIs g 9 n (gd V (k + 1))) : (w.setCell ⟨g, k, none⟩ (.string (V k))).rowIs g 9 n (gd V k) := by
  refine (h.set k _).congr (fun i hi => ?_)
  by_cases e : i = k
  · subst e; simp [gd]
  · have : (k + 1 ≤ i) = (k ≤ i) := by apply propext; omega
    simp only [e, if_false, gd, this]

/-- the second half of each text -/
def hf (V : Nat → ByteArray) (i : Nat) : ByteArray := (V i).extract ((V i).size / 2) (V i).size

theorem hf_size (V : Nat → ByteArray) (i : Nat) (h : (V i).size ≤ 1048576) : (hf V i).size ≤ 1048576 := by
  unfold hf; rw [ByteArray.size_extract]; omega

end Go.Proofs.Qxb6630632a
