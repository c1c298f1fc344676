import Derived.Test.Qxb6630679aW4
namespace Go.Proofs.Qxb6630679a
open Go.RowKit Go.Maps
set_option linter.unusedVariables false

/-- one of the first k keys is (r, s) -/
def Hit (R S : Nat → Int) (k : Nat) (r s : Int) : Prop := ∃ i, i < k ∧ r = R i ∧ s = S i

theorem Hit.succ {R S : Nat → Int} {k : Nat} {r s : Int} (h : Hit R S k r s) : Hit R S (k + 1) r s := by
  obtain ⟨i, hi, h⟩ := h
  exact ⟨i, by omega, h⟩

theorem Hit.prev {R S : Nat → Int} {k : Nat} {r s : Int} (h : Hit R S (k + 1) r s) (hne : ¬ (r = R k ∧ s = S k)) : Hit R S k r s := by
  obtain ⟨i, hi, h1, h2⟩ := h
  refine ⟨i, ?_, h1, h2⟩
  by_cases e : i = k
  · subst e; exact absurd ⟨h1, h2⟩ hne
  · omega

theorem vecF_miss {R S N : Nat → Int} : ∀ (k : Nat) {r s : Int}, ¬ Hit R S k r s → vecF R S N k r s = 0
  | 0, _, _, _ => rfl
  | k + 1, r, s, h => by
    have h1 : ¬ (r = R k ∧ s = S k) := fun e => h ⟨k, by omega, e⟩
    unfold vecF put
    rw [if_neg h1]
    exact vecF_miss k (fun h' => h h'.succ)

/-- the first loop of the join: v's own values at the keys met -/
def jF (V : Int → Int → Int) (R S : Nat → Int) : Nat → (Int → Int → Int)
  | 0 => fun _ _ => 0
  | k + 1 => put (jF V R S k) (R k) (S k) (V (R k) (S k))

theorem jF_hit {V : Int → Int → Int} {R S : Nat → Int} : ∀ (k : Nat) {r s : Int}, Hit R S k r s → jF V R S k r s = V r s
  | 0, _, _, h => by obtain ⟨i, hi, _⟩ := h; omega
  | k + 1, r, s, h => by
    unfold jF put
    by_cases e : r = R k ∧ s = S k
    · rw [if_pos e, ← e.1, ← e.2]
    · rw [if_neg e]
      exact jF_hit k (h.prev e)

theorem jF_miss {V : Int → Int → Int} {R S : Nat → Int} : ∀ (k : Nat) {r s : Int}, ¬ Hit R S k r s → jF V R S k r s = 0
  | 0, _, _, _ => rfl
  | k + 1, r, s, h => by
    have h1 : ¬ (r = R k ∧ s = S k) := fun e => h ⟨k, by omega, e⟩
    unfold jF put
    rw [if_neg h1]
    exact jF_miss k (fun h' => h h'.succ)

theorem jF_all (R S N : Nat → Int) (n : Nat) : jF (vecF R S N n) R S n = vecF R S N n := by
  funext r s
  by_cases h : Hit R S n r s
  · exact jF_hit n h
  · rw [jF_miss n h, vecF_miss n h]

/-- the second loop -/
def mF (J W : Int → Int → Int) (R S : Nat → Int) : Nat → (Int → Int → Int)
  | 0 => J
  | k + 1 => if mF J W R S k (R k) (S k) < W (R k) (S k) then put (mF J W R S k) (R k) (S k) (W (R k) (S k)) else mF J W R S k

theorem mF_spec {J W : Int → Int → Int} {R S : Nat → Int} : ∀ (k : Nat) (r s : Int), (Hit R S k r s → mF J W R S k r s = max (J r s) (W r s)) ∧ (¬ Hit R S k r s → mF J W R S k r s = J r s)
  | 0, r, s => ⟨fun h => by obtain ⟨i, hi, _⟩ := h; omega, fun _ => rfl⟩
  | k + 1, r, s => by
    obtain ⟨i1, i2⟩ := mF_spec k r s
    have hstep : mF J W R S (k + 1) = if mF J W R S k (R k) (S k) < W (R k) (S k) then put (mF J W R S k) (R k) (S k) (W (R k) (S k)) else mF J W R S k := rfl
    rw [hstep]
    by_cases e : r = R k ∧ s = S k
    · obtain ⟨e1, e2⟩ := e
      rw [← e1, ← e2]
      refine ⟨fun _ => ?_, fun h => absurd ⟨k, by omega, e1, e2⟩ h⟩
      have hv : mF J W R S k r s = max (J r s) (W r s) ∨ mF J W R S k r s = J r s := by
        by_cases h : Hit R S k r s
        · exact .inl (i1 h)
        · exact .inr (i2 h)
      split
      · rename_i hlt
        rw [put, if_pos ⟨rfl, rfl⟩]
        rcases hv with h | h <;> rw [h] at hlt <;> omega
      · rename_i hlt
        rcases hv with h | h <;> rw [h] at hlt ⊢ <;> omega
    · have hsame : (if mF J W R S k (R k) (S k) < W (R k) (S k) then put (mF J W R S k) (R k) (S k) (W (R k) (S k)) else mF J W R S k) r s = mF J W R S k r s := by
        split
        · rw [put, if_neg e]
        · rfl
      rw [hsame]
      exact ⟨fun h => i1 (h.prev e), fun h => i2 (fun h' => h h'.succ)⟩

theorem mF_all {J : Int → Int → Int} {R S N : Nat → Int} {n : Nat} (hJ : ∀ r s, 0 ≤ J r s) (r s : Int) : mF J (vecF R S N n) R S n r s = max (J r s) (vecF R S N n r s) := by
  obtain ⟨h1, h2⟩ := mF_spec (J := J) (W := vecF R S N n) (R := R) (S := S) n r s
  by_cases h : Hit R S n r s
  · exact h1 h
  · rw [h2 h, vecF_miss n h]
    have := hJ r s
    omega

/-- what the join is good for -/
structure Join (V W J : Int → Int → Int) : Prop where
  ja : Cov J V
  jb : Cov J W
  ca : Cov V W ↔ Cov V J
  cb : Cov W V ↔ Cov W J

theorem join_of {V W J : Int → Int → Int} (h : ∀ r s, J r s = max (V r s) (W r s)) : Join V W J where
  ja r s _ _ := by rw [h]; omega
  jb r s _ _ := by rw [h]; omega
  ca := ⟨fun c r s hr hs => by have := c r s hr hs; rw [h]; omega, fun c r s hr hs => by have := c r s hr hs; rw [h] at this; omega⟩
  cb := ⟨fun c r s hr hs => by have := c r s hr hs; rw [h]; omega, fun c r s hr hs => by have := c r s hr hs; rw [h] at this; omega⟩

end Go.Proofs.Qxb6630679a
