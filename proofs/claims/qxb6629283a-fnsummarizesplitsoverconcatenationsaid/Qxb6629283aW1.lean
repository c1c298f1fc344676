import Derived.Test.Qxb6629283aRows
import Derived.Test.Qxb6629283aPlain
import Derived.WalkKit
import Derived.WalkSpells
import Derived.WalkLawsBesides
namespace Go.Proofs.Qxb6629283a
open Go.RowKit
set_option linter.unusedVariables false

theorem ret_bool {a b : Bool} (h : a = b) : Ending.returned (.bool a) = .returned (.bool b) := by rw [h]
theorem ret_int {k : IntKind} {a b : Int} (h : a = b) : Ending.returned (.int k a) = .returned (.int k b) := by rw [h]

/-- A slice of pairs (status, text): n elements from the address a on; nothing is said of a where n = 0. -/
def Rw (w : World) (a : Option Addr) (n : Nat) (S : Nat → Int) (V : Nat → ByteArray) : Prop :=
  n = 0 ∨ ∃ b off, a = some ⟨b, off, none⟩ ∧ ∀ i, i < n → w.cell? ⟨b, off + i * 2, none⟩ = some (.int .i8 (S i)) ∧ w.cell? ⟨b, off + i * 2 + 1, none⟩ = some (.string (V i))

set_option maxHeartbeats 400000 in
theorem bytes_any (a : Option Addr) (n cap : Nat) (S : Nat → Int) (V : Nat → ByteArray) (st : Int) (w : World) (hn : n ≤ 1048576) (hr : Rw w a n S V) :
    Calls Try.prog 6 #[.slice a n cap, .int .i64 st] w fun e w' => (∃ r, e = .returned (.int .i64 r)) ∧ w' = w := by
  go_enter Try.func6, Try.ntmps6
  go_wp2
  go_loop [5, 6] (fun t i => ∃ k : Nat, k ≤ n ∧ i = .int .i64 k ∧ ∃ r, t = .int .i64 r) (fun _ i => n - (intOf i).toNat)
  case atStart => exact ⟨0, Nat.zero_le _, rfl, _, rfl⟩
  case round =>
    obtain ⟨k, hk, rfl, r, rfl⟩ := hrel
    by_cases hlt : k < n
    · rcases hr with h0 | ⟨b, off, rfl, hc⟩
      · omega
      have hc2 := (hc k hlt).2
      clear hc
      go_wp2
      · go_ret
        exact ⟨⟨_, rfl⟩, rfl⟩
      · go_ret
        exact ⟨⟨_, rfl⟩, rfl⟩
      · go_round
        case rel => exact ⟨k + 1, by omega, by go_num, _, rfl⟩
        case measure => simp [intOf]; omega
    · go_wp2
      go_ret
      exact ⟨⟨_, rfl⟩, rfl⟩

/-- what a bound test comes to: some Bool; where it is true there are at most 2^20 elements; the world stands -/
def Bd (n : Nat) (w : World) (e : Ending) (w' : World) : Prop := (∃ b : Bool, e = .returned (.bool b) ∧ (b = true → n ≤ 1048576)) ∧ w' = w

set_option maxHeartbeats 400000 in
theorem bound3_any (a : Option Addr) (n cap : Nat) (S : Nat → Int) (V : Nat → ByteArray) (x : ByteArray) (w : World) (hm : n ≤ maxLen) (hx : x.size ≤ maxLen) (hr : Rw w a n S V) :
    Calls Try.prog 5 #[.slice a n cap, .string x] w (Bd n w) := by
  unfold maxLen at hm hx
  by_cases hn : n ≤ 1048576
  · go_enter Try.func5, Try.ntmps5
    go_wp2
    go_loop [5, 6] (fun t i => ∃ k : Nat, k ≤ n ∧ i = .int .i64 k ∧ ∃ r : Int, t = .int .i64 r ∧ r ≤ 1048576) (fun _ i => n - (intOf i).toNat)
    case atStart => exact ⟨0, Nat.zero_le _, rfl, _, rfl, by omega⟩
    case round =>
      obtain ⟨k, hk, rfl, r, rfl, hrb⟩ := hrel
      by_cases hlt : k < n
      · rcases hr with h0 | ⟨b, off, rfl, hc⟩
        · omega
        have hc2 := (hc k hlt).2
        clear hc
        go_wp2
        · go_ret
          exact ⟨⟨_, rfl, fun _ => hn⟩, rfl⟩
        · go_ret
          exact ⟨⟨_, rfl, fun _ => hn⟩, rfl⟩
        · go_round
          case rel => exact ⟨k + 1, by omega, by go_num, _, rfl, by assumption⟩
          case measure => simp [intOf]; omega
      · go_wp2
        all_goals
          go_ret
          exact ⟨⟨_, rfl, fun _ => hn⟩, rfl⟩
  · go_enter Try.func5, Try.ntmps5
    go_wp2
    go_ret
    exact ⟨⟨_, rfl, fun h => by cases h⟩, rfl⟩

set_option maxHeartbeats 400000 in
theorem dlv_any (s : Int) (w : World) :
    Calls Try.prog 9 #[.int .i8 s] w fun e w' => e = .returned (.bool (dlv s)) ∧ w' = w := by
  by_cases h0 : s = 0
  · subst h0
    go_enter Try.func9, Try.ntmps9
    go_wp2
    go_ret
    exact ⟨rfl, rfl⟩
  · by_cases h2 : s = 2
    · subst h2
      go_enter Try.func9, Try.ntmps9
      go_wp2
      go_ret
      exact ⟨rfl, rfl⟩
    · have e0 : (s != 0) = true := by simpa using h0
      have e2 : (s != 2) = true := by simpa using h2
      have hd : Hid (dlv s = true) := by show dlv s = true; simp [dlv, h0, h2]
      go_enter Try.func9, Try.ntmps9
      go_wp2
      go_ret
      exact ⟨ret_bool hd.out.symm, rfl⟩


end Go.Proofs.Qxb6629283a
