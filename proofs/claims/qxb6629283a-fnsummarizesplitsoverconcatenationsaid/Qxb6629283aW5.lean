import Derived.Test.Qxb6629283aW4
import Derived.Test.Qxb6629283aPlain2
namespace Go.Proofs.Qxb6629283a
open Go.RowKit
set_option linter.unusedVariables false

/-- the law's end -/
def TrueP (w : World) (e : Ending) (w' : World) : Prop := e = .returned (.bool true) ∧ Below w.heap.size w w'

/-- the first loop's state: k elements have been counted; w3 is the world at the loop's start -/
structure L1 (w3 : World) (us : List Int) (ua : Option Addr) (uc : Nat) (wr : World) : Prop where
  own : wr.ownsRow w3.heap.size 3 1 (.slice ua us.length uc) us.length (us.map (Value.int .i64))
  nil : us = [] → ua = none ∧ uc = 0
  bel : Below w3.heap.size w3 wr

theorem L1.start (w3 : World) : L1 w3 [] none 0 w3 := ⟨World.ownsRow_nil _ _ _ _, fun _ => ⟨rfl, rfl⟩, Below.refl _ _⟩

theorem L1.app {w3 wr w1 : World} {us : List Int} {ua : Option Addr} {uc : Nat} (h : L1 w3 us ua uc wr) (o : Obj) {v' : Value} {k : Int}
    (ho : w1.ownsRow w3.heap.size 3 1 v' (us.length + 1) (us.map (Value.int .i64) ++ [.int .i64 k])) (hg : (wr.alloc o).grownBy w1 (Value.slice ua us.length uc).ownBlock) :
    ∃ g c, v' = .slice (some ⟨g, 0, none⟩) (us.length + 1) c ∧ L1 w3 (us ++ [k]) (some ⟨g, 0, none⟩) c w1 := by
  have hlt := h.own.lt
  rcases ho.2 with ⟨_, h0⟩ | ⟨g, c, cur, rfl, hb, hh⟩
  · omega
  refine ⟨g, c, rfl, ⟨by simpa using ho, fun e => by simp at e, ?_⟩⟩
  exact (h.bel.alloc h.bel.size o).grown hg (by have := h.bel.size; simp; omega) (fun k hk => (hlt _ hk).1)

theorem row4 (w : World) (d o : Int) (u : Value) (ag : Bool) : (w.alloc (.cells #[.int .i64 d, .int .i64 o, u, .bool ag] 29)).rowIs w.heap.size 29 4 (sm4 d o u ag) := by
  refine World.rowIs_alloc w #[.int .i64 d, .int .i64 o, u, .bool ag] 29 _ ?_
  intro i hi
  match i, hi with
  | 0, _ => rfl
  | 1, _ => rfl
  | 2, _ => rfl
  | 3, _ => rfl

/-- w' is w but for draws -/
def Drawn (w w' : World) : Prop := ∃ n, w' = w.drewN n
theorem Drawn.refl (w : World) : Drawn w w := ⟨0, rfl⟩
theorem Drawn.more {w w' : World} (h : Drawn w w') (n : Nat) : Drawn w (w'.drewN n) := by
  obtain ⟨m, rfl⟩ := h
  exact ⟨m + n, by simp⟩
theorem Drawn.below {w w' : World} (h : Drawn w w') (B : Nat) : Below B w w' := by
  obtain ⟨m, rfl⟩ := h
  exact below_drewN (Below.refl _ _) m
theorem Drawn.cell {w w' : World} (h : Drawn w w') (a : Addr) : w'.cell? a = w.cell? a := by
  obtain ⟨m, rfl⟩ := h
  simp

theorem dlv_no {s : Int} (h : dlv s = false) (w : World) : Calls Try.prog 9 #[.int .i8 s] w fun e w' => e = .returned (.bool false) ∧ w' = w :=
  (dlv_any s w).mono fun e w' ⟨h1, h2⟩ => ⟨by rw [h1, h], h2⟩
theorem dlv_yes {s : Int} (h : dlv s = true) (w : World) : Calls Try.prog 9 #[.int .i8 s] w fun e w' => e = .returned (.bool true) ∧ w' = w :=
  (dlv_any s w).mono fun e w' ⟨h1, h2⟩ => ⟨by rw [h1, h], h2⟩

set_option maxHeartbeats 1000000 in
theorem walk3 (a : Option Addr) (n cap : Nat) (S : Nat → Int) (V : Nat → ByteArray) (x : ByteArray) (w : World) (hm : n ≤ maxLen) (hx : x.size ≤ maxLen) (hnil : a = none → n = 0) (hr : Rw w a n S V) :
    Calls Try.prog 3 #[.slice a n cap, .string x] w (TrueP w) := by
  unfold maxLen at hm hx
  obtain ⟨i0, hi, hz0, hz1, hz2⟩ := info_parts info3
  go_enter Try.func3, Try.ntmps3
  go_wp2_with fail
  refine (bound3_any a n cap S V x w hm hx hr).mono ?_
  rintro e w' ⟨⟨bb, rfl, hbb⟩, rfl⟩
  cases bb with
  | false =>
    go_wp2
    go_ret
    exact ⟨rfl, Below.refl _ _⟩
  | true =>
    have hn := hbb rfl
    clear hbb hm
    by_cases hxs : x.size ≤ 1048576
    · go_wp2_with fail
      refine (bytes_any a n cap S V _ w' hn hr).mono ?_
      rintro e w1 ⟨⟨r, rfl⟩, rfl⟩
      by_cases hrr : r ≤ 1048576
      · go_wp2_with fail
        refine (conv_any a n cap S V w1 hn hnil hr).mono ?_
        rintro e w2 ⟨a2, cap2, rfl, hr2, hb2⟩
        go_wp2_with fail
        refine (sum_any a2 n cap2 S V x w2 (by omega) hr2).mono ?_
        rintro e w3 ⟨ga, gc, rfl, hown3, hnil3, hb3⟩
        have hB := hb2.trans (hb3.mono hb2.size)
        have hI3 := Ints.of_own hown3
        have hr3 := hr.later hB (Nat.le_refl _)
        have hul := und_le S n
        clear hr hr2
        go_wp2_with fail
        obtain ⟨W0, hW0⟩ : ∃ W0, W0 = w3.alloc (.cells #[.int .i64 (nDel S V x n), .int .i64 (nOth S V x n), .slice ga (und S n).length gc, .bool (agr S V n)] 29) := ⟨_, rfl⟩
        rw [← hW0]
        have hB0 : Below w1.heap.size w1 W0 := by rw [hW0]; exact hB.alloc hB.size _
        have hB3 : Below w3.heap.size w3 W0 := by rw [hW0]; exact (Below.refl _ _).alloc (Nat.le_refl _) _
        have hI0 := hI3.later hB3 (Nat.le_refl _)
        have hr0 := hr3.later hB3 (Nat.le_refl _)
        have hrow : W0.rowIs w3.heap.size 29 4 (sm4 (nDel S V x n) (nOth S V x n) (.slice ga (und S n).length gc) (agr S V n)) := by rw [hW0]; exact row4 _ _ _ _ _
        clear hW0 hB hI3 hr3 hb2 hb3 hB3
        go_loopw [7, 8, 9, 10, 11] (fun u d o l i wr => ∃ k ua uc, k ≤ n ∧ u = .slice ua (und S k).length uc ∧ d = .int .i64 (nDel S V x k) ∧ o = .int .i64 (nOth S V x k) ∧ l = .int .i64 (las S k) ∧ i = .int .i64 (k : Nat) ∧ L1 W0 (und S k) ua uc wr) (fun _ _ _ _ i _ => n - (intOf i).toNat)
        case atStart => exact ⟨0, none, 0, Nat.zero_le _, rfl, rfl, rfl, rfl, rfl, L1.start _⟩
        case round =>
          obtain ⟨k, ua, uc, hk, rfl, rfl, rfl, rfl, rfl, hL⟩ := hrel
          by_cases hlt : k < n
          · have hr1 := hr0.later hL.bel (Nat.le_refl _)
            rcases hr1 with h0 | ⟨b, off, rfl, hc⟩
            · omega
            obtain ⟨hc1, hc2⟩ := hc k hlt
            have hbd := nDel_nOth_le S V x k
            have hbd1 : (nDel S V x k : Int) + (nOth S V x k : Int) ≤ 4194304 := by omega
            have hulk := und_le S k
            clear hc hrow hI0 hB0 hbd hown3 hnil3 hul
            by_cases h0 : S k = 0
            · have t0 : (S k == 0) = true := by simpa using h0
              obtain ⟨e1, e2, e3, e4, _⟩ := step_no (V := V) (x := x) (dlv_0 h0)
              have HE : Hid (nDel S V x (k + 1) = nDel S V x k ∧ nOth S V x (k + 1) = nOth S V x k ∧ und S (k + 1) = und S k ++ [(k : Int)] ∧ las S (k + 1) = las S k) := ⟨e1, e2, und_yes h0, by simp [las, dlv_0 h0]⟩
              have hdl : dlv (S k) = false := dlv_0 h0
              clear h0 e1 e2 e3 e4
              go_wp2_with (first
                | (at_builtin; refine wpList_append_own _ rfl _ _ 27 rfl W0.heap.size 3 i0 (.int .i64 0) 1 8 Try.underlying27 hi hz0 hz1 hz2 rfl (by decide) _ _ _ rfl (hL.own.alloc _) ⟨wr.heap.size, 0, none⟩ 1 1 [.int .i64 (k : Int)] rfl rfl (cell_one_new _ _ _) (ints_oneCell .i64 [(k : Int)]) (by unfold maxLen; omega) (by omega) (by have := hL.bel.size; simp; omega) ?_))
              intro v' wa hown' hgrow _
              obtain ⟨g, c, hv, hN⟩ := hL.app _ hown' hgrow
              rw [hv]
              have hca : wa.cell? ⟨b, off + k * 2, none⟩ = some (.int .i8 (S k)) := by
                rcases hr0.later hN.bel (Nat.le_refl _) with h0 | ⟨b', off', hab, hc⟩
                · omega
                simp only [Option.some.injEq, Addr.mk.injEq, and_true] at hab
                obtain ⟨rfl, rfl⟩ := hab
                exact (hc k hlt).1
              clear hv hown' hgrow hL hr0
              go_wp2_with (go_at_call 9; refine (dlv_any _ _).mono ?_; rintro e w' ⟨rfl, rfl⟩)
              go_roundw
              case rel =>
                obtain ⟨e1, e2, e5, e6⟩ := HE.out
                refine ⟨k + 1, some ⟨g, 0, none⟩, c, by omega, by rw [e5]; simp, by rw [e1], by rw [e2], by rw [e6], by go_num, ?_⟩
                rw [e5]
                exact hN
              case measure => simp [intOf]; omega
            · have t0 : (S k == 0) = false := by simpa using h0
              have hu := und_no (S := S) (k := k) h0
              clear hr0
              by_cases h2 : S k = 2
              · obtain ⟨e1, e2, e3, e4, _⟩ := step_no (V := V) (x := x) (dlv_2 h2)
                have HE : Hid (nDel S V x (k + 1) = nDel S V x k ∧ nOth S V x (k + 1) = nOth S V x k ∧ las S (k + 1) = las S k ∧ L1 W0 (und S (k + 1)) ua uc wr ∧ und S (k + 1) = und S k) := ⟨e1, e2, by simp [las, dlv_2 h2], by rw [hu]; exact hL, hu⟩
                have hdl : dlv (S k) = false := dlv_2 h2
                clear h0 e1 e2 e3 e4 h2 hu hL
                go_wp2_with (go_at_call 9; refine (dlv_any _ _).mono ?_; rintro e w' ⟨rfl, rfl⟩)
                go_roundw
                case rel =>
                  obtain ⟨e1, e2, e6, e7, e5⟩ := HE.out
                  exact ⟨k + 1, ua, uc, by omega, by rw [e5], by rw [e1], by rw [e2], by rw [e6], by go_num, e7⟩
                case measure => simp [intOf]; omega
              · have hdl := dlv_1 h0 h2
                clear h0 h2
                cases hev : eqv (V k) x with
                | true =>
                  obtain ⟨e1, e2⟩ := step_del (x := x) hdl hev
                  have heq : ((V k).toList == x.toList) = true := hev
                  have HE : Hid (nDel S V x (k + 1) = nDel S V x k + 1 ∧ nOth S V x (k + 1) = nOth S V x k ∧ las S (k + 1) = (k : Int) ∧ L1 W0 (und S (k + 1)) ua uc wr ∧ und S (k + 1) = und S k) := ⟨e1, e2, by simp [las, hdl], by rw [hu]; exact hL, hu⟩
                  clear e1 e2 hu hL hev
                  go_wp2_with (go_at_call 9; refine (dlv_any _ _).mono ?_; rintro e w' ⟨rfl, rfl⟩)
                  go_roundw
                  case rel =>
                    obtain ⟨e1, e2, e6, e7, e5⟩ := HE.out
                    exact ⟨k + 1, ua, uc, by omega, by rw [e5], by rw [e1]; go_num, by rw [e2], by rw [e6], by go_num, e7⟩
                  case measure => simp [intOf]; omega
                | false =>
                  obtain ⟨e1, e2⟩ := step_oth (x := x) hdl hev
                  have heq : ((V k).toList == x.toList) = false := hev
                  have HE : Hid (nDel S V x (k + 1) = nDel S V x k ∧ nOth S V x (k + 1) = nOth S V x k + 1 ∧ las S (k + 1) = (k : Int) ∧ L1 W0 (und S (k + 1)) ua uc wr ∧ und S (k + 1) = und S k) := ⟨e1, e2, by simp [las, hdl], by rw [hu]; exact hL, hu⟩
                  clear e1 e2 hu hL hev
                  go_wp2_with (go_at_call 9; refine (dlv_any _ _).mono ?_; rintro e w' ⟨rfl, rfl⟩)
                  go_roundw
                  case rel =>
                    obtain ⟨e1, e2, e6, e7, e5⟩ := HE.out
                    exact ⟨k + 1, ua, uc, by omega, by rw [e5], by rw [e1], by rw [e2]; go_num, by rw [e6], by go_num, e7⟩
                  case measure => simp [intOf]; omega
          · have hkn : k = n := by omega
            subst hkn
            have hB1 := hB0.trans (hL.bel.mono hB0.size)
            have hg := hrow.of_block (hL.bel.block _ hrow.lt)
            have hI1 := hI0.later hL.bel (Nat.le_refl _)
            have hJ1 := Ints.of_own hL.own
            have hr1 := hr0.later hL.bel (Nat.le_refl _)
            have hnil1 := hL.nil
            clear hL hrow hI0 hr0 hown3 hB0
            obtain ⟨l, X, hll, hAg, hdel⟩ := choice S V k
            rw [hll]
            have HAg : Hid (agl S V X k = agr S V k) := hAg
            have Hdel : Hid (∀ j, j < k → dlv (S j) = true → ∃ L : Nat, l = (L : Int) ∧ L < k ∧ X = V L) := hdel
            clear hll hAg hdel
            obtain ⟨W1, hW1⟩ : ∃ W1, W1 = wr := ⟨_, rfl⟩
            subst hW1
            go_wp2
            go_loopw [12, 13] (fun g i wq => ∃ j : Nat, j ≤ k ∧ g = .bool (agl S V X j) ∧ i = .int .i64 j ∧ Drawn W1 wq) (fun _ i _ => k - (intOf i).toNat)
            case atStart => exact ⟨0, Nat.zero_le _, rfl, rfl, Drawn.refl _⟩
            case round =>
              obtain ⟨j, hj, rfl, rfl, hdr⟩ := hrel
              by_cases hjt : j < k
              · rcases hr1 with h0 | ⟨b, off, rfl, hc⟩
                · omega
                have hc1 := (hdr.cell _).trans (hc j hjt).1
                have hc2 := (hdr.cell _).trans (hc j hjt).2
                clear hg hI1 hJ1 hnil1 hnil3 hB1
                cases hdl : dlv (S j) with
                | false =>
                  have HE : Hid (agl S V X (j + 1) = agl S V X j) := agl_no hdl
                  clear hc hc2
                  go_wp2
                  go_quiet ((go_at_call 9; exact Calls.quiet_of_same (dlv_no hdl _)))
                  go_wp2
                  go_roundw
                  case rel => exact ⟨j + 1, by omega, by rw [HE.out], by go_num, hdr.more _⟩
                  case measure => simp [intOf]; omega
                | true =>
                  obtain ⟨L, rfl, hLk, rfl⟩ := Hdel.out j hjt hdl
                  have hcL := (hdr.cell _).trans (hc L hLk).2
                  clear hc
                  cases hev : eqv (V j) (V L) with
                  | true =>
                    have HE : Hid (agl S V (V L) (j + 1) = agl S V (V L) j) := agl_same hev
                    have heq : ((V j).toList == (V L).toList) = true := hev
                    have hne : ((V j).toList != (V L).toList) = false := by simpa using heq
                    clear hev
                    go_wp2
                    go_quiet ((go_at_call 9; exact Calls.quiet_of_same (dlv_yes hdl _)))
                    go_wp2
                    go_roundw
                    case rel => exact ⟨j + 1, by omega, by rw [HE.out], by go_num, hdr.more _⟩
                    case measure => simp [intOf]; omega
                  | false =>
                    have HE : Hid (agl S V (V L) (j + 1) = false) := agl_parts hdl hev
                    have heq : ((V j).toList == (V L).toList) = false := hev
                    have hne : ((V j).toList != (V L).toList) = true := by simpa using heq
                    clear hev
                    go_wp2
                    go_quiet ((go_at_call 9; exact Calls.quiet_of_same (dlv_yes hdl _)))
                    go_wp2
                    go_roundw
                    case rel => exact ⟨j + 1, by omega, by rw [HE.out], by go_num, hdr.more _⟩
                    case measure => simp [intOf]; omega
              · have hjk : j = k := by omega
                subst hjk
                rw [HAg.out]
                have q := fun (w : World) (a : Option Addr) (n c : Nat) => Lib.run_eql_slice_nil w 27 3 a n c 0 0 Try.underlying27
                have hg0 : wr.cell? ⟨w3.heap.size, 0, none⟩ = some (.int .i64 (nDel S V x j)) := (hdr.cell _).trans (hg.cell (i := 0) (by omega))
                have hg1 : wr.cell? ⟨w3.heap.size, 1, none⟩ = some (.int .i64 (nOth S V x j)) := (hdr.cell _).trans (hg.cell (i := 1) (by omega))
                have hg2 : wr.cell? ⟨w3.heap.size, 2, none⟩ = some (.slice ga (und S j).length gc) := (hdr.cell _).trans (hg.cell (i := 2) (by omega))
                have hg3 : wr.cell? ⟨w3.heap.size, 3, none⟩ = some (.bool (agr S V j)) := (hdr.cell _).trans (hg.cell (i := 3) (by omega))
                have hIa := hI1.later (hdr.below W1.heap.size) (Nat.le_refl _)
                have hIb := hJ1.later (hdr.below W1.heap.size) (Nat.le_refl _)
                have HC : Hid (Calls Try.prog 10 #[.slice ga (und S j).length gc, .slice ua (und S j).length uc] wr fun e w' => e = .returned (.bool true) ∧ ∃ n, w' = wr.drewN n) := ints_eq ga ua gc uc (und S j) wr (by omega) hIa hIb
                have HB : Hid (Below w1.heap.size w1 wr) := hB1.trans ((hdr.below W1.heap.size).mono hB1.size)
                clear hg hI1 hJ1 hB1 HAg Hdel hr1
                by_cases hue : und S j = []
                · obtain ⟨rfl, rfl⟩ := hnil3 hue
                  obtain ⟨rfl, rfl⟩ := hnil1 hue
                  have hl0 : (((und S j).length : Int) == 0) = true := by simp [hue]
                  clear hue hIa hIb hnil3 hnil1
                  go_wp2_with fail
                  refine HC.out.mono ?_
                  rintro e wz ⟨rfl, nz, rfl⟩
                  go_wp2
                  go_ret
                  exact ⟨rfl, below_drewN HB.out _⟩
                · have hle : (und S j).length ≠ 0 := by simpa using hue
                  rcases hIa with h0 | ⟨g1, rfl, _⟩
                  · omega
                  rcases hIb with h0 | ⟨g2, rfl, _⟩
                  · omega
                  have hl0 : (((und S j).length : Int) == 0) = false := by simp; omega
                  clear hue hnil3 hnil1 hle
                  go_wp2_with fail
                  refine HC.out.mono ?_
                  rintro e wz ⟨rfl, nz, rfl⟩
                  go_wp2
                  go_ret
                  exact ⟨rfl, below_drewN HB.out _⟩
      · go_wp2
        go_ret
        exact ⟨rfl, Below.refl _ _⟩
    · go_wp2
      go_ret
      exact ⟨rfl, Below.refl _ _⟩

end Go.Proofs.Qxb6629283a
