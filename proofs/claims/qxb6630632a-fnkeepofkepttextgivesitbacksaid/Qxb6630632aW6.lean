import Derived.Test.Qxb6630632aW5
namespace Go.Proofs.Qxb6630632a
open Go.RowKit
set_option linter.unusedVariables false

/-- the law's end -/
def TrueP (w : World) (e : Ending) (w' : World) : Prop := e = .returned (.bool true) ∧ Below w.heap.size w w'

structure K1 (w : World) (n : Nat) (V : Nat → ByteArray) (k : Nat) (wr : World) : Prop where
  bl : Bl w (k * 1048576) wr
  row : wr.rowIs (w.heap.size + 1) 9 n (gt V k)

set_option maxRecDepth 100000 in
set_option maxHeartbeats 1000000 in
theorem walk3 (a : Option Addr) (n cap : Nat) (V : Nat → ByteArray) (w : World) (hm : n ≤ maxLen) (hr : Rs w a n V) :
    Calls Try.prog 3 #[.slice a n cap] w (TrueP w) := by
  go_enter Try.func3, Try.ntmps3
  go_wp2_with fail
  refine (bound5_any a n cap V w hm hr).mono ?_
  rintro e w' ⟨⟨bb, rfl, hbb⟩, rfl⟩
  cases bb with
  | false =>
    go_wp2
    go_ret
    exact ⟨rfl, Below.refl _ _⟩
  | true =>
    obtain ⟨hn, hall⟩ := hbb rfl
    have Hall : Hid (∀ i, i < n → (V i).size ≤ 1048576) := hall
    clear hbb hm hall
    have hmk := makeS n hn
    go_wp2
    go_loop [3, 4] (fun t i => ∃ k : Nat, k ≤ n ∧ i = .int .i64 k ∧ (∃ r : Int, t = .int .i64 r)) (fun _ i => n - (intOf i).toNat)
    case atStart => exact ⟨0, Nat.zero_le _, rfl, ⟨_, rfl⟩⟩
    case round =>
      obtain ⟨k, hk, rfl, ⟨r, rfl⟩⟩ := hrel
      by_cases hlt : k < n
      · rcases hr with h0 | ⟨b, off, rfl, hc⟩
        · omega
        have hc2 := hc k hlt
        clear hc
        go_wp2
        · go_ret
          exact ⟨rfl, Below.refl _ _⟩
        · go_round
          case rel => exact ⟨k + 1, by omega, by go_num, ⟨_, rfl⟩⟩
          case measure => simp [intOf]; omega
      · have hst : K1 w' n V 0 ((w'.alloc (.cells #[.pointer none, .slice none 0 0] 29)).alloc (.cells (mkS n) 9)) := by
          refine ⟨by simpa using (Bl.start w').alloc _, ?_⟩
          have := rowS (w'.alloc (.cells #[.pointer none, .slice none 0 0] 29)) n V
          rwa [Go.Deep.nblk_alloc] at this
        go_wp2
        go_loopw [7] (fun i wr => ∃ k : Nat, k ≤ n ∧ i = .int .i64 k ∧ K1 w' n V k wr) (fun i _ => n - (intOf i).toNat)
        case atStart => exact ⟨0, Nat.zero_le _, rfl, hst⟩
        case round =>
          clear hst hk hlt hmk
          obtain ⟨k, hk, rfl, hI⟩ := hrel
          by_cases hlt : k < n
          · have hr1 := hr.later hI.bl.bel (Nat.le_refl _)
            rcases hr1 with h0 | ⟨b, off, rfl, hc⟩
            · omega
            have hc1 := hc k hlt
            have hsz := Hall.out k hlt
            go_wp2_with fail
            refine (keep_law w' (k * 1048576) (V k) wr hI.bl (by omega) hsz).mono ?_
            rintro e w1 ⟨rfl, hb1, ho1⟩
            have hrow := row_oth hI.row ho1 (by omega)
            have hx0 := hrow.cell (i := k) hlt
            have hf0 := hrow.frozen k
            have hb2 := hb1.set hrow (by omega) k (.string (V k))
            have hrow2 := row_step hrow
            go_wp2
            obtain ⟨W1, hW1⟩ : ∃ W1, W1 = w1.setCell ⟨w'.heap.size + 1, k, none⟩ (.string (V k)) := ⟨_, rfl⟩
            rw [← hW1] at hb2 hrow2 ⊢
            clear hW1 hx0 hf0 hrow hI ho1 hb1 hc1 hc
            rcases hr.later hb2.bel (Nat.le_refl _) with h0 | ⟨b', off', hab, hc⟩
            · omega
            simp only [Option.some.injEq, Addr.mk.injEq, and_true] at hab
            obtain ⟨rfl, rfl⟩ := hab
            have hc1 := hc k hlt
            have hg1 : W1.cell? ⟨w'.heap.size + 1, k, none⟩ = some (.string (V k)) := by rw [hrow2.cell (i := k) hlt]; simp [gt]
            have HK : Hid (K1 w' n V (k + 1) W1) := ⟨by
              obtain ⟨l, h1, h2, h3⟩ := hb2
              exact ⟨l, h1, by omega, h3⟩, hrow2⟩
            clear hc hb2 hrow2 hr
            go_quiet (fail)
            go_wp2
            go_roundw
            case rel => exact ⟨k + 1, by omega, by go_num, HK.out.bl.drewN _, HK.out.row⟩
            case measure => simp [intOf]; omega
          · have hkn : k = n := by omega
            subst hkn
            obtain ⟨W1, hW1⟩ : ∃ W1, W1 = wr := ⟨_, rfl⟩
            subst hW1
            have hr1 := hr.later hI.bl.bel (Nat.le_refl _)
            have hbel := hI.bl.bel
            clear hr
            go_wp2
            go_loopw [8] (fun i wr => ∃ (j q : Nat), j ≤ k ∧ i = .int .i64 j ∧ wr = W1.drewN q) (fun i _ => k - (intOf i).toNat)
            case atStart => exact ⟨0, 0, Nat.zero_le _, rfl, rfl⟩
            case round =>
              obtain ⟨j, q, hj, rfl, rfl⟩ := hrel
              by_cases hjt : j < k
              · rcases hr1 with h0 | ⟨b, off, rfl, hc⟩
                · omega
                have hc1 := hc j hjt
                have hg1 : W1.cell? ⟨w'.heap.size + 1, j, none⟩ = some (.string (V j)) := by rw [hI.row.cell (i := j) hjt]; simp [gt, hjt]
                clear hc hI
                go_wp2
                go_quiet (fail)
                go_wp2
                go_roundw
                case rel => exact ⟨j + 1, _, by omega, by go_num, rfl⟩
                case measure => simp [intOf]; omega
              · go_wp2
                go_ret
                exact ⟨rfl, below_drewN hbel _⟩

end Go.Proofs.Qxb6630632a
