import Derived.Test.Qxb6629283aW5
import Derived.Test.Qxb6629283aPlain3
namespace Go.Proofs.Qxb6629283a
open Go.RowKit
set_option linter.unusedVariables false

def Bd2 (n m : Nat) (w : World) (e : Ending) (w' : World) : Prop := (∃ b : Bool, e = .returned (.bool b) ∧ (b = true → n ≤ 1048576 ∧ m ≤ 1048576)) ∧ w' = w

set_option maxHeartbeats 400000 in
theorem bound4_any (a : Option Addr) (n cap : Nat) (S : Nat → Int) (V : Nat → ByteArray) (b : Option Addr) (m cb : Nat) (T : Nat → Int) (U : Nat → ByteArray) (x : ByteArray) (w : World) (hn : n ≤ maxLen) (hm : m ≤ maxLen) (hx : x.size ≤ maxLen) (hr : Rw w a n S V) (hs : Rw w b m T U) :
    Calls Try.prog 11 #[.slice a n cap, .slice b m cb, .string x] w (Bd2 n m w) := by
  unfold maxLen at hn hm hx
  by_cases hn1 : n ≤ 1048576
  · go_enter Try.func11, Try.ntmps11
    go_wp2
    go_loop [7, 8] (fun t i => ∃ k : Nat, k ≤ n ∧ i = .int .i64 k ∧ ∃ r : Int, t = .int .i64 r ∧ r ≤ 1048576) (fun _ i => n - (intOf i).toNat)
    case atStart => exact ⟨0, Nat.zero_le _, rfl, _, rfl, by omega⟩
    case round =>
      obtain ⟨k, hk, rfl, r, rfl, hrb⟩ := hrel
      by_cases hlt : k < n
      · rcases hr with h0 | ⟨b, off, rfl, hc⟩
        · omega
        have hc2 := (hc k hlt).2
        clear hc
        go_wp2
        · go_ret
          exact ⟨⟨_, rfl, fun h => by cases h⟩, rfl⟩
        · go_ret
          exact ⟨⟨_, rfl, fun h => by cases h⟩, rfl⟩
        · go_round
          case rel => exact ⟨k + 1, by omega, by go_num, _, rfl, by assumption⟩
          case measure => simp [intOf]; omega
      · clear hr
        by_cases hm1 : m ≤ 1048576
        · go_wp2
          · go_ret
            exact ⟨⟨_, rfl, fun h => by cases h⟩, rfl⟩
          · go_loop [7, 9] (fun t i => ∃ k : Nat, k ≤ m ∧ i = .int .i64 k ∧ ∃ r : Int, t = .int .i64 r ∧ r ≤ 1048576) (fun _ i => m - (intOf i).toNat)
            case atStart => exact ⟨0, Nat.zero_le _, rfl, _, rfl, by assumption⟩
            case round =>
              obtain ⟨k, hk, rfl, r, rfl, hrb⟩ := hrel
              by_cases hlt : k < m
              · rcases hs with h0 | ⟨b, off, rfl, hc⟩
                · omega
                have hc2 := (hc k hlt).2
                clear hc
                go_wp2
                · go_ret
                  exact ⟨⟨_, rfl, fun h => by cases h⟩, rfl⟩
                · go_ret
                  exact ⟨⟨_, rfl, fun h => by cases h⟩, rfl⟩
                · go_round
                  case rel => exact ⟨k + 1, by omega, by go_num, _, rfl, by assumption⟩
                  case measure => simp [intOf]; omega
              · go_wp2
                all_goals
                  go_ret
                  exact ⟨⟨_, rfl, fun _ => ⟨hn1, hm1⟩⟩, rfl⟩
        · go_wp2
          go_ret
          exact ⟨⟨_, rfl, fun h => by cases h⟩, rfl⟩
  · go_enter Try.func11, Try.ntmps11
    go_wp2
    go_ret
    exact ⟨⟨_, rfl, fun h => by cases h⟩, rfl⟩

set_option maxHeartbeats 400000 in
theorem join_any (a : Option Addr) (n cap : Nat) (S : Nat → Int) (V : Nat → ByteArray) (b : Option Addr) (m cb : Nat) (T : Nat → Int) (U : Nat → ByteArray) (w : World) (hn : n ≤ 1048576) (hm : m ≤ 1048576) (hr : Rw w a n S V) (hs : Rw w b m T U) :
    Calls Try.prog 12 #[.slice a n cap, .slice b m cb] w (ConvP (n + m) (cat n S T) (cat n V U) w) := by
  have hmk := make2 (n + m) (by omega)
  rw [Int.natCast_add] at hmk
  have hst := CvI.start w (n + m) (cat n S T) (cat n V U)
  go_enter Try.func12, Try.ntmps12
  go_wp2
  go_loopw [6] (fun i wr => ∃ k : Nat, k ≤ n ∧ i = .int .i64 k ∧ CvI w w.heap.size (n + m) (cat n S T) (cat n V U) k wr) (fun i _ => n - (intOf i).toNat)
  case atStart => exact ⟨0, Nat.zero_le _, rfl, hst⟩
  case round =>
    obtain ⟨k, hk, rfl, hI⟩ := hrel
    clear hst hmk
    by_cases hlt : k < n
    · have hr1 := hr.later hI.bel (Nat.le_refl _)
      rcases hr1 with h0 | ⟨b', off, rfl, hc⟩
      · omega
      obtain ⟨hc1, hc2⟩ := hc k hlt
      clear hc hr hs
      go_wp2_with fail
      refine (one_any (S k) (V k) wr).mono ?_
      rintro e w1 ⟨rfl, hb⟩
      have hI1 := hI.later hb
      have hS := hI1.step (Nat.le_refl _)
      have e1 : cat n S T k = S k := if_pos hlt
      have e2 : cat n V U k = V k := if_pos hlt
      rw [e1, e2] at hS
      have hx0 := hI1.row.cell (i := k * 2) (by omega)
      have hx1 := hI1.row.cell (i := k * 2 + 1) (by omega)
      have hf0 := hI1.row.frozen (k * 2)
      have hf1 := hI1.row.frozen (k * 2 + 1)
      clear hI hI1 hc1 hc2 hb e1 e2
      go_wp2
      go_roundw
      case rel => exact ⟨k + 1, by omega, by go_num, hS⟩
      case measure => simp [intOf]; omega
    · have hkn : k = n := by omega
      subst hkn
      clear hr
      go_wp2
      go_loopw [7] (fun i wr => ∃ j : Nat, j ≤ m ∧ i = .int .i64 j ∧ CvI w w.heap.size (k + m) (cat k S T) (cat k V U) (k + j) wr) (fun i _ => m - (intOf i).toNat)
      case atStart => exact ⟨0, Nat.zero_le _, rfl, hI⟩
      case round =>
        clear hI
        obtain ⟨j, hj, rfl, hI⟩ := hrel
        by_cases hlt : j < m
        · have hr1 := hs.later hI.bel (Nat.le_refl _)
          rcases hr1 with h0 | ⟨b', off, rfl, hc⟩
          · omega
          obtain ⟨hc1, hc2⟩ := hc j hlt
          clear hc hs
          go_wp2_with fail
          refine (one_any (T j) (U j) _).mono ?_
          rintro e w1 ⟨rfl, hb⟩
          have hI1 := hI.later hb
          have hS := hI1.step (Nat.le_refl _)
          have e1 : cat k S T (k + j) = T j := by unfold cat; rw [if_neg (by omega), Nat.add_sub_cancel_left]
          have e2 : cat k V U (k + j) = U j := by unfold cat; rw [if_neg (by omega), Nat.add_sub_cancel_left]
          rw [e1, e2] at hS
          have hx0 := hI1.row.cell (i := (k + j) * 2) (by omega)
          have hx1 := hI1.row.cell (i := (k + j) * 2 + 1) (by omega)
          have hf0 := hI1.row.frozen ((k + j) * 2)
          have hf1 := hI1.row.frozen ((k + j) * 2 + 1)
          clear hI hI1 hc1 hc2 hb e1 e2
          go_wp2
          go_roundw
          case rel => exact ⟨j + 1, by omega, by go_num, hS⟩
          case measure => simp [intOf]; omega
        · have hjm : j = m := by omega
          subst hjm
          go_wp2
          go_ret
          exact ⟨_, _, rfl, hI.rw, hI.bel⟩

set_option maxHeartbeats 400000 in
theorem first_any (a : Option Addr) (n cap : Nat) (S : Nat → Int) (V : Nat → ByteArray) (w : World) (hn : n ≤ 1048576) (hr : Rw w a n S V) :
    Calls Try.prog 13 #[.slice a n cap] w fun e w' => e = .returned (.tuple #[.string (fst S V n), .bool (any S n)]) ∧ w' = w := by
  go_enter Try.func13, Try.ntmps13
  go_wp2
  go_loop [4] (fun i => ∃ k : Nat, k ≤ n ∧ i = .int .i64 k ∧ any S k = false) (fun i => n - (intOf i).toNat)
  case atStart => exact ⟨0, Nat.zero_le _, rfl, rfl⟩
  case round =>
    obtain ⟨k, hk, rfl, han⟩ := hrel
    have Han : Hid (any S k = false) := han
    clear han
    by_cases hlt : k < n
    · rcases hr with h0 | ⟨b, off, rfl, hc⟩
      · omega
      obtain ⟨hc1, hc2⟩ := hc k hlt
      clear hc
      cases hdl : dlv (S k) with
      | false =>
        have HE : Hid (any S (k + 1) = false) := by show any S (k + 1) = false; simp [any, Han.out, hdl]
        go_wp2_with (go_at_call 9; refine (dlv_no hdl _).mono ?_; rintro e w' ⟨rfl, rfl⟩)
        go_round
        case rel => exact ⟨k + 1, by omega, by go_num, HE.out⟩
        case measure => simp [intOf]; omega
      | true =>
        have HE : Hid (fst S V n = V k ∧ any S n = true) := fst_found hlt Han.out hdl
        go_wp2_with (go_at_call 9; refine (dlv_yes hdl _).mono ?_; rintro e w' ⟨rfl, rfl⟩)
        go_ret2
        rw [HE.out.1, HE.out.2]
        exact ⟨rfl, rfl⟩
    · have hkn : k = n := by omega
      subst hkn
      have HE : Hid (fst S V k = ⟨#[]⟩) := fst_empty Han.out
      go_wp2
      go_ret2
      rw [HE.out, Han.out]
      exact ⟨rfl, rfl⟩

end Go.Proofs.Qxb6629283a
