import Derived.Test.Qxb6630679aW3
namespace Go.Proofs.Qxb6630679a
open Go.RowKit Go.Maps
set_option linter.unusedVariables false

def TrueP (w : World) : Ending → World → Prop := fun e w' => e = .returned (.bool true) ∧ Below w.heap.size w w'

/-- a Life that lies in block b -/
def LifeAt (w : World) (b : Nat) (x y : Int) : Prop := w.heap[b]? = some (.cells #[.int .u64 x, .int .u64 y] 31)

theorem LifeAt.new (w : World) (x y : Int) : LifeAt (w.alloc (.cells #[.int .u64 x, .int .u64 y] 31)) w.heap.size x y := (MapKept.heap_alloc w _).1

theorem LifeAt.lt {w : World} {b : Nat} {x y : Int} (h : LifeAt w b x y) : b < w.heap.size := (Array.getElem?_eq_some_iff.1 h).1

theorem LifeAt.later {w w' : World} {B b : Nat} {x y : Int} (h : LifeAt w b x y) (hb : Below B w w') (hB : w.heap.size ≤ B) : LifeAt w' b x y :=
  (hb.block _ (Nat.lt_of_lt_of_le h.lt hB)).trans h

theorem LifeAt.cells {w : World} {b : Nat} {x y : Int} (h : LifeAt w b x y) : w.cell? ⟨b, 0, none⟩ = some (.int .u64 x) ∧ w.cell? ⟨b, 1, none⟩ = some (.int .u64 y) := by
  unfold LifeAt at h
  simp [World.cell?, h]

theorem vecF_U {n : Nat} {R S N : Nat → Int} (hU : AllU n R S N) : ∀ k, k ≤ n → ∀ r s, U (vecF R S N k r s)
  | 0, _, _, _ => U_iff.2 (by simp [vecF])
  | k + 1, hk, r, s => by
    unfold vecF put
    split
    · exact (hU k hk).2.2
    · exact vecF_U hU k (by omega) r s

theorem cov_put {F : Int → Int → Int} {x y z : Int} (h : F x y < z) : Cov (put F x y z) F := by
  intro r s hr hs
  unfold put
  split
  · rename_i e
    obtain ⟨rfl, rfl⟩ := e
    omega
  · exact Int.le_refl _

theorem not_cov_put {F : Int → Int → Int} {x y z : Int} (hx : U x) (hy : U y) (h : F x y < z) : ¬ Cov F (put F x y z) := by
  intro hc
  have := hc x y hx hy
  simp [put] at this
  omega

set_option maxRecDepth 100000 in
set_option maxHeartbeats 4000000 in
theorem walk4 (a : Option Addr) (n cap : Nat) (R S N : Nat → Int) (x y z : Int) (w : World) (hm : n ≤ maxLen) (hnil : a = none → n = 0) (hr : Ent w a n R S N) (hU : AllU n R S N) (hx : U x) (hy : U y) (hz : U z) :
    Calls Try.prog 4 #[.slice a n cap, .int .u64 x, .int .u64 y, .int .u64 z] w (TrueP w) := by
  have hmm := @run_makeMap Try.prog
  go_enter Try.func4, Try.ntmps4
  go_wp2_with fail
  refine (bound8 a n cap _ _ _ w hm).mono ?_
  rintro e w' ⟨bb, rfl, _, rfl⟩
  unfold maxLen at hm
  cases bb with
  | false =>
    go_wp2
    go_ret
    exact ⟨rfl, Below.refl _ _⟩
  | true =>
    by_cases hn : n ≤ 16384
    · go_wp2_with fail
      refine (vectorOf_any a n cap R S N w' hn hnil hr hU).mono ?_
      rintro e w2 ⟨v, rfl, hv, hb2⟩
      obtain ⟨F, hF⟩ : ∃ F, F = vecF R S N n := ⟨_, rfl⟩
      rw [← hF] at hv
      have HF : Hid (F = vecF R S N n) := hF
      clear hF
      have hr2 := hr.later hb2 (Nat.le_refl _)
      obtain ⟨W, hW⟩ : ∃ W, W = w2.alloc (.cells #[.int .u64 x, .int .u64 y] 31) := ⟨_, rfl⟩
      have hWb : Below w2.heap.size w2 W := hW ▸ (Below.refl _ _).alloc (Nat.le_refl _) _
      have hWL : LifeAt W w2.heap.size x y := hW ▸ LifeAt.new w2 x y
      have hWs : W.heap.size = w2.heap.size + 1 := by rw [hW]; simp
      have hWv := hv.later hWb (Nat.le_refl _)
      have hWr := hr2.later hWb (Nat.le_refl _)
      have hWB := hb2.trans (hWb.mono hb2.size)
      obtain ⟨hlook, hUF⟩ := hWv.look hx hy
      obtain ⟨l0, l1⟩ := hWL.cells
      rw [hW] at hlook
      clear hv hr2 hr hnil l0 l1
      by_cases hle : z ≤ F x y
      · go_wp2
        go_ret
        exact ⟨rfl, hW ▸ hWB⟩
      · go_wp2
        rw [← hW]
        clear hW hlook
        obtain ⟨B, hB⟩ : ∃ B, B = w2.heap.size + 1 := ⟨_, rfl⟩
        rw [← hB]
        have hWB0 : W.heap.size = B := by omega
        clear hWs
        generalize hlb : w2.heap.size = lb at *
        clear hlb hWb hb2
        have hmade : Vec (W.alloc (.map #[] 0)) (.map (some B)) 0 (fun _ _ => 0) := hWB0 ▸ Vec.made W
        have hbel : Below B W (W.alloc (.map #[] 0)) := (Below.refl _ _).alloc (by omega) _
        have hw1 : W.heap.size ≤ B := by omega
        have hw2 : B ≤ W.heap.size := by omega
        clear hB hWB0
        obtain ⟨WM, hWM⟩ : ∃ WM, WM = W.alloc (.map #[] 0) := ⟨_, rfl⟩
        rw [← hWM] at hmade hbel ⊢
        clear hWM
        go_loopw [13] (fun i wr => ∃ k : Nat, k ≤ n ∧ i = .int .i64 k ∧ Vec wr (.map (some B)) k (vecF R S N k) ∧ Below B W wr) (fun i _ => n - (intOf i).toNat)
        case atStart => exact ⟨0, Nat.zero_le _, rfl, hmade, hbel⟩
        case round =>
          obtain ⟨k, hk, rfl, hv, hnx⟩ := hrel
          by_cases hlt : k < n
          · have hr' := hWr.later hnx (by omega)
            rcases hr' with h0 | ⟨b, off, rfl, hc⟩
            · omega
            obtain ⟨c0, c1, c2⟩ := hc k hlt
            have d0 : wr.drew.cell? ⟨b, off + k * 3, none⟩ = some (.int .u64 (R k)) := c0
            have d1 : wr.drew.cell? ⟨b, off + k * 3 + 1, none⟩ = some (.int .u64 (S k)) := c1
            have d2 : wr.drew.cell? ⟨b, off + k * 3 + 2, none⟩ = some (.int .u64 (N k)) := c2
            obtain ⟨u0, u1, u2⟩ := hU k hlt
            have hvd : Vec wr.drew (.map (some B)) k (vecF R S N k) := hv.of_block fun _ _ => rfl
            obtain ⟨w1, hrun, hv1, hg1⟩ := hvd.update (by unfold maxLen; omega) u0 u1 u2
            have hl1 : (k : Int) < (n : Int) := by omega
            clear hc hWr hmm
            go_wp2
            go_region
            go_wp2
            go_roundw
            case rel => exact ⟨k + 1, by omega, by go_num, hv1, (hnx.drew).grown hg1 (Nat.le_trans hw2 hnx.size) (fun j hj => by cases hj; exact Nat.le_refl _)⟩
            case measure => simp [intOf]; omega
          · obtain rfl : k = n := by omega
            have hF : F = vecF R S N k := HF
            rw [← hF] at hv
            have hL := hWL.later hnx (by omega)
            obtain ⟨l0, l1⟩ := hL.cells
            obtain ⟨w1, hrun, hv1, hg1⟩ := hv.update (by unfold maxLen; omega) hx hy hz
            have hvv := (hWv.later hnx (by omega)).kept hg1 (fun b e1 e2 => by subst e1; have := hWv.lt; cases e2; omega)
            have hB1 : Below B W w1 := hnx.grown hg1 (Nat.le_trans hw2 hnx.size) (fun j hj => by cases hj; exact Nat.le_refl _)
            clear hF hmm
            go_wp2_with fail
            refine (covers_any _ _ _ _ _ _ w1 hv1 hvv).mono ?_
            rintro e w3 ⟨b1, rfl, hb1, hbe1⟩
            obtain rfl : b1 = true := hb1.2 (cov_put (by omega))
            clear hb1
            have hv3 := hv1.later hbe1 (Nat.le_refl _)
            have hvv3 := hvv.later hbe1 (Nat.le_refl _)
            go_wp2_with fail
            refine (covers_any _ _ _ _ _ _ w3 hvv3 hv3).mono ?_
            rintro e w4 ⟨b2, rfl, hb2, hbe2⟩
            obtain rfl : b2 = false := by
              cases b2
              · rfl
              · exact absurd (hb2.1 rfl) (not_cov_put hx hy (by omega))
            clear hb2
            go_wp2
            go_ret
            have s0 := hWB.size
            have s1 := hB1.size
            have s3 := hbe1.size
            exact ⟨rfl, ((hWB.trans (hB1.mono (by omega))).trans (hbe1.mono (by omega))).trans (hbe2.mono (by omega))⟩
    · go_wp2
      go_ret
      exact ⟨rfl, Below.refl _ _⟩
end Go.Proofs.Qxb6630679a
