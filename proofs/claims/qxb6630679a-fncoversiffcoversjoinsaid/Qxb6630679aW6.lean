import Derived.Test.Qxb6630679aW5
namespace Go.Proofs.Qxb6630679a
open Go.RowKit Go.Maps
set_option linter.unusedVariables false

set_option maxRecDepth 100000 in
set_option maxHeartbeats 4000000 in
theorem walk3 (a : Option Addr) (n ca : Nat) (R S N : Nat → Int) (b : Option Addr) (m cb : Nat) (R' S' N' : Nat → Int) (w : World) (hn : n ≤ maxLen) (hm : m ≤ maxLen) (hnil : a = none → n = 0) (hnil' : b = none → m = 0)
    (hr : Ent w a n R S N) (hU : AllU n R S N) (hs : Ent w b m R' S' N') (hU' : AllU m R' S' N') :
    Calls Try.prog 3 #[.slice a n ca, .slice b m cb] w (TrueP w) := by
  have hmm := @run_makeMap Try.prog
  go_enter Try.func3, Try.ntmps3
  go_wp2_with fail
  refine (bound5 a b n m ca cb w hn hm).mono ?_
  rintro e w' ⟨bb, rfl, _, rfl⟩
  unfold maxLen at hn hm
  cases bb with
  | false =>
    go_wp2
    go_ret
    exact ⟨rfl, Below.refl _ _⟩
  | true =>
    by_cases hn1 : n ≤ 16384
    · by_cases hm1 : m ≤ 16384
      · go_wp2_with fail
        refine (vectorOf_any a n ca R S N w' hn1 hnil hr hU).mono ?_
        rintro e w1 ⟨v, rfl, hv, hb1⟩
        have hr1 := hr.later hb1 (Nat.le_refl _)
        have hs1 := hs.later hb1 (Nat.le_refl _)
        clear hr hs
        go_wp2_with fail
        refine (vectorOf_any b m cb R' S' N' w1 hm1 hnil' hs1 hU').mono ?_
        rintro e w2 ⟨u, rfl, hu, hb2⟩
        have hr2 := hr1.later hb2 (Nat.le_refl _)
        have hs2 := hs1.later hb2 (Nat.le_refl _)
        have hv2 := hv.later hb2 (Nat.le_refl _)
        have hB2 := hb1.trans (hb2.mono hb1.size)
        clear hr1 hs1 hv hb1 hb2 hnil hnil'
        obtain ⟨F, hF⟩ : ∃ F, F = vecF R S N n := ⟨_, rfl⟩
        obtain ⟨G, hG⟩ : ∃ G, G = vecF R' S' N' m := ⟨_, rfl⟩
        rw [← hF] at hv2
        rw [← hG] at hu
        have HF : Hid (F = vecF R S N n) := hF
        have HG : Hid (G = vecF R' S' N' m) := hG
        clear hF hG
        obtain ⟨B, hB⟩ : ∃ B, B = w2.heap.size := ⟨_, rfl⟩
        have hmade : Vec (w2.alloc (.map #[] 0)) (.map (some B)) 0 (fun _ _ => 0) := hB ▸ Vec.made w2
        have hbel : Below B w2 (w2.alloc (.map #[] 0)) := (Below.refl _ _).alloc (by omega) _
        have hw1 : w2.heap.size ≤ B := by omega
        have hw2 : B ≤ w2.heap.size := by omega
        obtain ⟨WM, hWM⟩ : ∃ WM, WM = w2.alloc (.map #[] 0) := ⟨_, rfl⟩
        rw [← hWM] at hmade hbel
        go_wp2
        rw [← hB, ← hWM]
        clear hB hWM
        go_loopw [8] (fun i wr => ∃ k : Nat, k ≤ n ∧ i = .int .i64 k ∧ Vec wr (.map (some B)) k (jF F R S k) ∧ Below B w2 wr) (fun i _ => n - (intOf i).toNat)
        case atStart => exact ⟨0, Nat.zero_le _, rfl, hmade, hbel⟩
        case round =>
          obtain ⟨k, hk, rfl, hj, hnx⟩ := hrel
          by_cases hlt : k < n
          · have hr' := hr2.later hnx (by omega)
            rcases hr' with h0 | ⟨bl, off, rfl, hc⟩
            · omega
            obtain ⟨c0, c1, c2⟩ := hc k hlt
            have d0 : wr.drew.cell? ⟨bl, off + k * 3, none⟩ = some (.int .u64 (R k)) := c0
            have d1 : wr.drew.cell? ⟨bl, off + k * 3 + 1, none⟩ = some (.int .u64 (S k)) := c1
            have d2 : bl < wr.heap.size := World.block_lt_of_cell? _ _ c0
            obtain ⟨u0, u1, u2⟩ := hU k hlt
            have hl1 : (k : Int) < (n : Int) := by omega
            clear hc hmm c2
            obtain ⟨X, hX⟩ : ∃ X, X = (wr.alloc (.cells #[.int .u64 (R k), .int .u64 (S k)] 31)).drew := ⟨_, rfl⟩
            have hXb : Below wr.heap.size wr X := hX ▸ ((Below.refl _ _).alloc (Nat.le_refl _) _).drew
            have hXL : LifeAt X wr.heap.size (R k) (S k) := hX ▸ LifeAt.new wr (R k) (S k)
            go_wp2
            go_region
            go_wp2
            rw [← hX]
            clear hX d0 d1 d2 c0 c1
            have l0 : X.drew.cell? ⟨wr.heap.size, 0, none⟩ = some (.int .u64 (R k)) := hXL.cells.1
            have l1 : X.drew.cell? ⟨wr.heap.size, 1, none⟩ = some (.int .u64 (S k)) := hXL.cells.2
            have hvX : Vec X.drew v n F := ((hv2.later hnx (by omega)).later hXb (Nat.le_refl _)).of_block fun _ _ => rfl
            have hjX : Vec X.drew (.map (some B)) k (jF F R S k) := (hj.later hXb (Nat.le_refl _)).of_block fun _ _ => rfl
            obtain ⟨hlook, hUF⟩ := hvX.look u0 u1
            obtain ⟨w3, hrun, hj3, hg3⟩ := hjX.update (by unfold maxLen; omega) u0 u1 hUF
            have hXB : Below B w2 X := hnx.trans (hXb.mono (Nat.le_trans hw2 hnx.size))
            have hB3 : Below B w2 w3 := (hXB.drew).grown hg3 (Nat.le_trans hw2 hXB.size) (fun j hj => by cases hj; exact Nat.le_refl _)
            go_region
            go_wp2
            go_roundw
            case rel => exact ⟨k + 1, by omega, by go_num, hj3, hB3⟩
            case measure => simp [intOf]; omega
          · obtain rfl : k = n := by omega
            have hJF : jF F R S k = F := by
              have hF : F = vecF R S N k := HF
              rw [hF]
              exact jF_all R S N k
            rw [hJF] at hj
            clear hJF
            clear hmm hr2 hbel hmade
            obtain ⟨W4, hW4⟩ : ∃ W4, W4 = wr := ⟨_, rfl⟩
            subst hW4
            go_wp2
            go_loopw [10] (fun i wr => ∃ l : Nat, l ≤ m ∧ i = .int .i64 l ∧ Vec wr (.map (some B)) (k + l) (mF F G R' S' l) ∧ Below B w2 wr) (fun i _ => m - (intOf i).toNat)
            case atStart => exact ⟨0, Nat.zero_le _, rfl, hj, hnx⟩
            case round =>
              clear hj hnx
              obtain ⟨l, hl, rfl, hj, hnx⟩ := hrel
              by_cases hlt2 : l < m
              · have hr' := hs2.later hnx (by omega)
                rcases hr' with h0 | ⟨bl, off, rfl, hc⟩
                · omega
                obtain ⟨c0, c1, c2⟩ := hc l hlt2
                have d0 : wr.drew.cell? ⟨bl, off + l * 3, none⟩ = some (.int .u64 (R' l)) := c0
                have d1 : wr.drew.cell? ⟨bl, off + l * 3 + 1, none⟩ = some (.int .u64 (S' l)) := c1
                have d2 : bl < wr.heap.size := World.block_lt_of_cell? _ _ c0
                obtain ⟨u0, u1, u2⟩ := hU' l hlt2
                have hl1 : (l : Int) < (m : Int) := by omega
                clear hc c2
                obtain ⟨X, hX⟩ : ∃ X, X = (wr.alloc (.cells #[.int .u64 (R' l), .int .u64 (S' l)] 31)).drew := ⟨_, rfl⟩
                have hXb : Below wr.heap.size wr X := hX ▸ ((Below.refl _ _).alloc (Nat.le_refl _) _).drew
                have hXL : LifeAt X wr.heap.size (R' l) (S' l) := hX ▸ LifeAt.new wr (R' l) (S' l)
                go_wp2
                go_region
                go_wp2
                rw [← hX]
                clear hX d0 d1 d2 c0 c1
                have l0 : X.drew.cell? ⟨wr.heap.size, 0, none⟩ = some (.int .u64 (R' l)) := hXL.cells.1
                have l1 : X.drew.cell? ⟨wr.heap.size, 1, none⟩ = some (.int .u64 (S' l)) := hXL.cells.2
                have l2 : X.drew.drew.cell? ⟨wr.heap.size, 0, none⟩ = some (.int .u64 (R' l)) := hXL.cells.1
                have l3 : X.drew.drew.cell? ⟨wr.heap.size, 1, none⟩ = some (.int .u64 (S' l)) := hXL.cells.2
                have huX : Vec X.drew u m G := ((hu.later hnx (by omega)).later hXb (Nat.le_refl _)).of_block fun _ _ => rfl
                have huX2 : Vec X.drew.drew u m G := huX.of_block fun _ _ => rfl
                have hjX : Vec X.drew (.map (some B)) (k + l) (mF F G R' S' l) := (hj.later hXb (Nat.le_refl _)).of_block fun _ _ => rfl
                have hjX2 : Vec X.drew.drew (.map (some B)) (k + l) (mF F G R' S' l) := hjX.of_block fun _ _ => rfl
                obtain ⟨hlook, hUG⟩ := huX.look u0 u1
                obtain ⟨hlook1, hUJ⟩ := hjX.look u0 u1
                obtain ⟨hlook2, _⟩ := huX2.look u0 u1
                obtain ⟨w3, hrun, hj3, hg3⟩ := hjX2.update (by unfold maxLen; omega) u0 u1 hUG
                have hXB : Below B w2 X := hnx.trans (hXb.mono (Nat.le_trans hw2 hnx.size))
                have hB3 : Below B w2 w3 := (hXB.drew.drew).grown hg3 (Nat.le_trans hw2 hXB.size) (fun j hj => by cases hj; exact Nat.le_refl _)
                have hstep : Hid (mF F G R' S' (l + 1) = if mF F G R' S' l (R' l) (S' l) < G (R' l) (S' l) then put (mF F G R' S' l) (R' l) (S' l) (G (R' l) (S' l)) else mF F G R' S' l) := rfl
                by_cases hgt : mF F G R' S' l (R' l) (S' l) < G (R' l) (S' l)
                · have hst : mF F G R' S' (l + 1) = put (mF F G R' S' l) (R' l) (S' l) (G (R' l) (S' l)) := (show _ = _ from hstep).trans (if_pos hgt)
                  rw [← hst] at hj3
                  have Hst := hj3
                  clear hst hstep
                  go_region
                  go_wp2
                  go_region
                  go_wp2
                  go_roundw
                  case rel => exact ⟨l + 1, by omega, by go_num, hj3, hB3⟩
                  case measure => simp [intOf]; omega
                · have hst : mF F G R' S' (l + 1) = mF F G R' S' l := (show _ = _ from hstep).trans (if_neg hgt)
                  have hj4 : Vec X.drew (.map (some B)) (k + (l + 1)) (mF F G R' S' (l + 1)) := by rw [hst]; exact hjX.mono (by omega)
                  clear hst hstep
                  go_region
                  go_wp2
                  go_roundw
                  case rel => exact ⟨l + 1, by omega, by go_num, hj4, hXB.drew⟩
                  case measure => simp [intOf]; omega
              · obtain rfl : l = m := by omega
                have hJ : Join F G (mF F G R' S' l) := by
                  have hF : F = vecF R S N k := HF
                  have hG : G = vecF R' S' N' l := HG
                  refine join_of fun r s => ?_
                  rw [hG]
                  exact mF_all (fun r s => by rw [hF]; exact (U_iff.1 (vecF_U hU k (Nat.le_refl _) r s)).1) r s
                generalize mF F G R' S' l = J at hj hJ
                have hv3 := hv2.later hnx (by omega)
                have hu3 := hu.later hnx (by omega)
                have hB3 := hB2.trans (hnx.mono (by have := hB2.size; omega))
                clear hv2 hu hB2 hs2 hnx HF HG hU hU' hw1 hw2
                obtain ⟨W5, hW5⟩ : ∃ W5, W5 = wr := ⟨_, rfl⟩
                subst hW5
                go_wp2_with fail
                refine (covers_any _ _ _ _ _ _ W5 hj hv3).mono ?_
                rintro e w6 ⟨b1, rfl, hb1, hbe⟩
                obtain rfl : b1 = true := hb1.2 hJ.ja
                clear hb1
                replace hv3 := hv3.later hbe (Nat.le_refl _)
                replace hu3 := hu3.later hbe (Nat.le_refl _)
                replace hj := hj.later hbe (Nat.le_refl _)
                replace hB3 := hB3.trans (hbe.mono hB3.size)
                clear hbe
                go_wp2_with fail
                refine (covers_any _ _ _ _ _ _ w6 hj hu3).mono ?_
                rintro e w7 ⟨b1, rfl, hb1, hbe⟩
                obtain rfl : b1 = true := hb1.2 hJ.jb
                clear hb1
                replace hv3 := hv3.later hbe (Nat.le_refl _)
                replace hu3 := hu3.later hbe (Nat.le_refl _)
                replace hj := hj.later hbe (Nat.le_refl _)
                replace hB3 := hB3.trans (hbe.mono hB3.size)
                clear hbe
                go_wp2_with fail
                refine (covers_any _ _ _ _ _ _ w7 hv3 hu3).mono ?_
                rintro e w8 ⟨b1, rfl, hb1, hbe⟩
                replace hv3 := hv3.later hbe (Nat.le_refl _)
                replace hu3 := hu3.later hbe (Nat.le_refl _)
                replace hj := hj.later hbe (Nat.le_refl _)
                replace hB3 := hB3.trans (hbe.mono hB3.size)
                clear hbe
                go_wp2_with fail
                refine (covers_any _ _ _ _ _ _ w8 hv3 hj).mono ?_
                rintro e w9 ⟨b2, rfl, hb2, hbe⟩
                obtain rfl : b2 = b1 := Bool.eq_iff_iff.2 ((hb2.trans hJ.ca.symm).trans hb1.symm)
                clear hb1 hb2
                replace hv3 := hv3.later hbe (Nat.le_refl _)
                replace hu3 := hu3.later hbe (Nat.le_refl _)
                replace hj := hj.later hbe (Nat.le_refl _)
                replace hB3 := hB3.trans (hbe.mono hB3.size)
                clear hbe
                go_wp2_with fail
                refine (covers_any _ _ _ _ _ _ w9 hu3 hv3).mono ?_
                rintro e w10 ⟨b3, rfl, hb3, hbe⟩
                replace hv3 := hv3.later hbe (Nat.le_refl _)
                replace hu3 := hu3.later hbe (Nat.le_refl _)
                replace hj := hj.later hbe (Nat.le_refl _)
                replace hB3 := hB3.trans (hbe.mono hB3.size)
                clear hbe
                go_wp2_with fail
                refine (covers_any _ _ _ _ _ _ w10 hu3 hj).mono ?_
                rintro e w11 ⟨b4, rfl, hb4, hbe⟩
                obtain rfl : b4 = b3 := Bool.eq_iff_iff.2 ((hb4.trans hJ.cb.symm).trans hb3.symm)
                clear hb3 hb4
                replace hB3 := hB3.trans (hbe.mono hB3.size)
                clear hbe
                go_wp2
                go_ret
                exact ⟨rfl, hB3⟩
      · go_wp2
        go_ret
        exact ⟨rfl, Below.refl _ _⟩
    · go_wp2
      go_ret
      exact ⟨rfl, Below.refl _ _⟩
end Go.Proofs.Qxb6630679a
