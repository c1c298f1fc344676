import Derived.Test.Qxb6630632aW7
namespace Go.Proofs.Qxb6630632a
open Go.RowKit
set_option linter.unusedVariables false

/-- the first loop: k fields have been kept -/
structure J1 (w : World) (n : Nat) (V : Nat → ByteArray) (k : Nat) (wr : World) : Prop where
  bl : Bl w (k * 1048576) wr
  got : wr.rowIs (w.heap.size + 1) 9 n (gt V k)

/-- the second loop, downward: those from place k on have been kept again -/
structure J2 (w : World) (n : Nat) (V : Nat → ByteArray) (g : Nat) (k : Nat) (wr : World) : Prop where
  bl : Bl w (n * 1048576 + (n - k) * 1048576) wr
  got : wr.rowIs (w.heap.size + 1) 9 n (gt V n)
  aga : wr.rowIs g 9 n (gd V k)

/-- the third loop: k halves have been kept -/
structure J3 (w : World) (n : Nat) (V : Nat → ByteArray) (g h : Nat) (k : Nat) (wr : World) : Prop where
  bl : Bl w (n * 1048576 + n * 1048576 + k * 1048576) wr
  got : wr.rowIs (w.heap.size + 1) 9 n (gt V n)
  aga : wr.rowIs g 9 n (gd V 0)
  hal : wr.rowIs h 9 n (gt (hf V) k)

set_option maxRecDepth 100000 in
set_option maxHeartbeats 2000000 in
theorem walk4 (a : Option Addr) (n cap : Nat) (V : Nat → ByteArray) (w : World) (hm : n ≤ maxLen) (hr : Rs w a n V) :
    Calls Try.prog 4 #[.slice a n cap] w (TrueP w) := by
  go_enter Try.func4, Try.ntmps4
  go_wp2_with fail
  refine (bound7_any a n cap V w hm hr).mono ?_
  rintro e w' ⟨⟨bb, rfl, hbb⟩, rfl⟩
  cases bb with
  | false =>
    go_wp2
    go_ret
    exact ⟨rfl, Below.refl _ _⟩
  | true =>
    obtain ⟨hn, hall⟩ := hbb rfl
    have Hall : Hid (∀ i, i < n → (V i).size ≤ 1048576) := hall
    clear hbb hm hall
    have hmk := makeS n hn
    go_wp2
    go_loop [3, 4] (fun t i => ∃ (k : Nat) (r : Int), k ≤ n ∧ i = .int .i64 k ∧ t = .int .i64 r ∧ 16 * (k : Int) ≤ r ∧ r ≤ 1048576) (fun _ i => n - (intOf i).toNat)
    case atStart => exact ⟨0, 0, Nat.zero_le _, rfl, rfl, by omega, by omega⟩
    case round =>
      obtain ⟨k, r, hk, rfl, rfl, hr0, hr1⟩ := hrel
      by_cases hlt : k < n
      · rcases hr with h0 | ⟨b, off, rfl, hc⟩
        · omega
        have hc2 := hc k hlt
        have hsz := Hall.out k hlt
        clear hc
        go_wp2
        · go_ret
          exact ⟨rfl, Below.refl _ _⟩
        · go_round
          case rel => exact ⟨k + 1, _, by omega, by go_num, rfl, by omega, by assumption⟩
          case measure => simp [intOf]; omega
      · have hn2 : n ≤ 65536 := by omega
        have hst : J1 w' n V 0 ((w'.alloc (.cells #[.pointer none, .slice none 0 0] 29)).alloc (.cells (mkS n) 9)) := by
          refine ⟨by simpa using (Bl.start w').alloc _, ?_⟩
          have := rowS (w'.alloc (.cells #[.pointer none, .slice none 0 0] 29)) n V
          rwa [Go.Deep.nblk_alloc] at this
        go_wp2
        go_loopw [8] (fun i wr => ∃ k : Nat, k ≤ n ∧ i = .int .i64 k ∧ J1 w' n V k wr) (fun i _ => n - (intOf i).toNat)
        case atStart => exact ⟨0, Nat.zero_le _, rfl, hst⟩
        case round =>
          clear hst hk hlt hr0 hr1
          obtain ⟨k, hk, rfl, hI⟩ := hrel
          by_cases hlt : k < n
          · have hrr := hr.later hI.bl.bel (Nat.le_refl _)
            rcases hrr with h0 | ⟨b, off, rfl, hc⟩
            · omega
            have hc1 := hc k hlt
            have hsz := Hall.out k hlt
            go_wp2_with fail
            refine (keep_law w' (k * 1048576) (V k) wr hI.bl (by omega) hsz).mono ?_
            rintro e w1 ⟨rfl, hb1, ho1⟩
            have hrow := row_oth hI.got ho1 (by omega)
            have hx0 := hrow.cell (i := k) hlt
            have hf0 := hrow.frozen k
            have HK : Hid (J1 w' n V (k + 1) (w1.setCell ⟨w'.heap.size + 1, k, none⟩ (.string (V k)))) :=
              ⟨(hb1.set hrow (by omega) k (.string (V k))).more (by omega), row_step hrow⟩
            clear hrow hI ho1 hb1 hc1 hc hr
            go_wp2
            go_roundw
            case rel => exact ⟨k + 1, by omega, by go_num, HK.out⟩
            case measure => simp [intOf]; omega
          · have hkn : k = n := by omega
            subst hkn
            obtain ⟨W1, hW1⟩ : ∃ W1, W1 = wr := ⟨_, rfl⟩
            subst hW1
            have hb0 := hI.got.lt
            have hst2 : J2 w' k V W1.heap.size k (W1.alloc (.cells (mkS k) 9)) :=
              ⟨(hI.bl.alloc _).more (by omega), hI.got.alloc _, rowD W1 k V⟩
            clear hI
            go_wp2
            go_loopw [10] (fun i wr => ∃ (j : Nat) (z : Int), j ≤ k ∧ z = (j : Int) - 1 ∧ i = .int .i64 z ∧ J2 w' k V W1.heap.size j wr) (fun i _ => (intOf i + 1).toNat)
            case atStart => exact ⟨k, _, Nat.le_refl _, rfl, rfl, hst2⟩
            case round =>
              clear hst2 hk hlt
              obtain ⟨j, z, hj, hz, rfl, hI⟩ := hrel
              by_cases hj0 : 0 < j
              · obtain ⟨m, rfl⟩ : ∃ m, j = m + 1 := ⟨j - 1, by omega⟩
                obtain rfl : z = (m : Int) := by omega
                have hg1 : wr.cell? ⟨w'.heap.size + 1, m, none⟩ = some (.string (V m)) := by
                  rw [hI.got.cell (i := m) (by omega)]
                  have : m < k := by omega
                  simp [gt, this]
                have hsz := Hall.out m (by omega)
                clear hz
                go_wp2_with fail
                refine (keep_law w' (k * 1048576 + (k - (m + 1)) * 1048576) (V m) wr hI.bl (by omega) hsz).mono ?_
                rintro e w1 ⟨rfl, hb1, ho1⟩
                have hgot := row_oth hI.got ho1 (by omega)
                have hrow := row_oth hI.aga ho1 (by omega)
                have hx0 := hrow.cell (i := m) (by omega)
                have hf0 := hrow.frozen m
                have HK : Hid (J2 w' k V W1.heap.size m (w1.setCell ⟨W1.heap.size, m, none⟩ (.string (V m)))) :=
                  ⟨(hb1.set hrow (by omega) m (.string (V m))).more (by omega), hgot.setOther (by show w'.heap.size + 1 ≠ W1.heap.size; omega) _, row_down hrow⟩
                clear hrow hI ho1 hb1 hg1 hgot hr
                go_wp2
                go_roundw
                case rel => exact ⟨m, (m : Int) - 1, by omega, rfl, rfl, HK.out⟩
                case measure => simp [intOf]
              · obtain rfl : j = 0 := by omega
                obtain rfl : z = -1 := by omega
                clear hz hj hj0
                obtain ⟨W2, hW2⟩ : ∃ W2, W2 = wr := ⟨_, rfl⟩
                subst hW2
                have hb2 := hI.aga.lt
                have hst3 : J3 w' k V W1.heap.size W2.heap.size 0 (W2.alloc (.cells (mkS k) 9)) :=
                  ⟨(hI.bl.alloc _).more (by omega), hI.got.alloc _, hI.aga.alloc _, rowS W2 k (hf V)⟩
                clear hI
                go_wp2
                go_loopw [12] (fun i wr => ∃ j : Nat, j ≤ k ∧ i = .int .i64 j ∧ J3 w' k V W1.heap.size W2.heap.size j wr) (fun i _ => k - (intOf i).toNat)
                case atStart => exact ⟨0, Nat.zero_le _, rfl, hst3⟩
                case round =>
                  clear hst3
                  obtain ⟨j, hj, rfl, hI⟩ := hrel
                  by_cases hlt : j < k
                  · have hg1 : wr.cell? ⟨w'.heap.size + 1, j, none⟩ = some (.string (V j)) := by
                      rw [hI.got.cell (i := j) hlt]; simp [gt, hlt]
                    have hsz := Hall.out j hlt
                    go_wp2_with fail
                    refine (keep_law w' (k * 1048576 + k * 1048576 + j * 1048576) _ wr hI.bl (by omega) ?hS).mono ?_
                    case hS => exact hf_size V j hsz
                    rintro e w1 ⟨rfl, hb1, ho1⟩
                    have hgot := row_oth hI.got ho1 (by omega)
                    have haga := row_oth hI.aga ho1 (by omega)
                    have hrow := row_oth hI.hal ho1 (by omega)
                    have hx0 := hrow.cell (i := j) hlt
                    have hf0 := hrow.frozen j
                    have hfs := hf_size V j hsz
                    have HK : Hid (J3 w' k V W1.heap.size W2.heap.size (j + 1) (w1.setCell ⟨W2.heap.size, j, none⟩ (.string ((V j).extract ((V j).size / 2) (V j).size)))) :=
                      ⟨(hb1.set hrow (by omega) j _).more (by show k * 1048576 + k * 1048576 + j * 1048576 + (hf V j).size ≤ _; omega), hgot.setOther (by show w'.heap.size + 1 ≠ W2.heap.size; omega) _, haga.setOther (by show W1.heap.size ≠ W2.heap.size; omega) _, row_step hrow⟩
                    clear hrow hI ho1 hb1 hg1 hgot haga hr hfs
                    go_wp2
                    go_roundw
                    case rel => exact ⟨j + 1, by omega, by go_num, HK.out⟩
                    case measure => simp [intOf]; omega
                  · obtain rfl : j = k := by omega
                    obtain ⟨W3, hW3⟩ : ∃ W3, W3 = wr := ⟨_, rfl⟩
                    subst hW3
                    have hr3 := hr.later hI.bl.bel (Nat.le_refl _)
                    have hbel := hI.bl.bel
                    clear hr
                    go_wp2
                    go_loopw [14] (fun i wr => ∃ (k q : Nat), k ≤ j ∧ i = .int .i64 k ∧ wr = W3.drewN q) (fun i _ => j - (intOf i).toNat)
                    case atStart => exact ⟨0, 0, Nat.zero_le _, rfl, rfl⟩
                    case round =>
                      obtain ⟨k, q, hk, rfl, rfl⟩ := hrel
                      by_cases hkt : k < j
                      · rcases hr3 with h0 | ⟨b, off, rfl, hc⟩
                        · omega
                        have hc1 := hc k hkt
                        have hsz := Hall.out k hkt
                        have hg1 : W3.cell? ⟨w'.heap.size + 1, k, none⟩ = some (.string (V k)) := by rw [hI.got.cell (i := k) hkt]; simp [gt, hkt]
                        have hg2 : W3.cell? ⟨W1.heap.size, k, none⟩ = some (.string (V k)) := by rw [hI.aga.cell (i := k) hkt]; simp [gd]
                        have hg3 : W3.cell? ⟨W2.heap.size, k, none⟩ = some (.string ((V k).extract ((V k).size / 2) (V k).size)) := by rw [hI.hal.cell (i := k) hkt]; simp [gt, hkt, hf]
                        clear hc hI
                        go_wp2
                        go_quiet (fail)
                        go_wp2
                        go_quiet (fail)
                        go_wp2
                        go_quiet (fail)
                        go_wp2
                        go_roundw
                        case rel => exact ⟨k + 1, _, by omega, by go_num, rfl⟩
                        case measure => simp [intOf]; omega
                      · go_wp2
                        go_ret
                        exact ⟨rfl, below_drewN hbel _⟩

end Go.Proofs.Qxb6630632a
