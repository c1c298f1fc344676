/-
  Plain laws: the count model's flag is Summarize's flag. No Go in sight. By an AI agent.
-/
import Derived.Test.Qxb6629283aPlain
namespace Go.Proofs.Qxb6629283a

/-- the last delivering one among the first k; -1 where there is none -/
def las (S : Nat → Int) : Nat → Int
  | 0 => -1
  | k + 1 => if dlv (S k) then (k : Int) else las S k

/-- does every delivering one among the first k hold the text x? -/
def agl (S : Nat → Int) (V : Nat → ByteArray) (x : ByteArray) : Nat → Bool
  | 0 => true
  | k + 1 => if dlv (S k) && !eqv (V k) x then false else agl S V x k

theorem agl_iff (S : Nat → Int) (V : Nat → ByteArray) (x : ByteArray) (n : Nat) : agl S V x n = true ↔ ∀ i, i < n → dlv (S i) = true → eqv (V i) x = true := by
  induction n with
  | zero => simp [agl]
  | succ k ih =>
    simp only [agl]
    constructor
    · intro h i hi hd
      split at h
      · simp at h
      · rename_i hn
        by_cases e : i = k
        · subst e
          cases he : eqv (V i) x with
          | true => rfl
          | false => simp [hd, he] at hn
        · exact ih.1 h i (by omega) hd
    · intro h
      split
      · rename_i hn
        simp only [Bool.and_eq_true, Bool.not_eq_true'] at hn
        have := h k (by omega) hn.1
        rw [hn.2] at this
        exact this
      · exact ih.2 (fun i hi hd => h i (by omega) hd)

theorem any_false_iff (S : Nat → Int) (n : Nat) : any S n = false ↔ ∀ i, i < n → dlv (S i) = false := by
  induction n with
  | zero => simp [any]
  | succ k ih =>
    simp only [any, Bool.or_eq_false_iff, ih]
    constructor
    · rintro ⟨h1, h2⟩ i hi
      by_cases e : i = k
      · subst e; exact h2
      · exact h1 i (by omega)
    · intro h
      exact ⟨fun i hi => h i (by omega), h k (by omega)⟩

theorem las_some (S : Nat → Int) (n : Nat) (h : any S n = true) : ∃ L : Nat, las S n = (L : Int) ∧ L < n ∧ dlv (S L) = true := by
  induction n with
  | zero => simp [any] at h
  | succ k ih =>
    simp only [las]
    cases hd : dlv (S k) with
    | true => exact ⟨k, by simp, by omega, hd⟩
    | false =>
      simp only [any, hd, Bool.or_false] at h
      obtain ⟨L, h1, h2, h3⟩ := ih h
      exact ⟨L, by simpa using h1, by omega, h3⟩

theorem las_bd (S : Nat → Int) (n : Nat) : -1 ≤ las S n ∧ las S n < n := by
  induction n with
  | zero => simp [las]
  | succ k ih => simp only [las]; split <;> omega

theorem fst_some (S : Nat → Int) (V : Nat → ByteArray) (n : Nat) (h : any S n = true) : ∃ F : Nat, fst S V n = V F ∧ F < n ∧ dlv (S F) = true := by
  induction n with
  | zero => simp [any] at h
  | succ k ih =>
    cases ha : any S k with
    | true =>
      obtain ⟨F, h1, h2, h3⟩ := ih ha
      exact ⟨F, by simp [fst, ha, h1], by omega, h3⟩
    | false =>
      simp only [any, ha, Bool.false_or] at h
      exact ⟨k, by simp [fst, ha, h], by omega, h⟩

theorem eqv_refl (a : ByteArray) : eqv a a = true := by simp [eqv]
theorem eqv_symm {a b : ByteArray} (h : eqv a b = true) : eqv b a = true := by rw [eqv_iff] at *; exact h.symm
theorem eqv_trans {a b c : ByteArray} (h : eqv a b = true) (k : eqv b c = true) : eqv a c = true := by rw [eqv_iff] at *; exact h.trans k

/-- the first delivered text is fixed once there is one -/
theorem agr_iff (S : Nat → Int) (V : Nat → ByteArray) (n : Nat) : agr S V n = true ↔ ∀ i, i < n → dlv (S i) = true → eqv (V i) (fst S V n) = true := by
  induction n with
  | zero => simp [agr]
  | succ k ih =>
    cases hd : dlv (S k) with
    | false =>
      have := step_no (V := V) (x := ⟨#[]⟩) hd
      rw [this.2.2.1, this.2.2.2.1, ih]
      constructor
      · intro h i hi hdi
        by_cases e : i = k
        · subst e; rw [hd] at hdi; cases hdi
        · exact h i (by omega) hdi
      · intro h i hi hdi
        exact h i (by omega) hdi
    | true =>
      cases ha : any S k with
      | false =>
        obtain ⟨e1, e2⟩ := step_first (V := V) hd ha
        have hno := (any_false_iff S k).1 ha
        rw [e2, e1, ih]
        constructor
        · intro _ i hi hdi
          by_cases e : i = k
          · subst e; exact eqv_refl _
          · rw [hno i (by omega)] at hdi; cases hdi
        · intro _ i hi hdi
          rw [hno i hi] at hdi; cases hdi
      | true =>
        obtain ⟨e1, e2⟩ := step_later (V := V) hd ha
        rw [e2, e1, Bool.and_eq_true, ih]
        constructor
        · rintro ⟨h1, h2⟩ i hi hdi
          by_cases e : i = k
          · subst e; exact h2
          · exact h1 i (by omega) hdi
        · intro h
          exact ⟨fun i hi hdi => h i (by omega) hdi, h k (by omega) hd⟩

theorem agree_last (S : Nat → Int) (V : Nat → ByteArray) (n L : Nat) (h1 : L < n) (h2 : dlv (S L) = true) : agl S V (V L) n = agr S V n := by
  have ha : any S n = true := by
    cases h : any S n with
    | true => rfl
    | false => rw [(any_false_iff S n).1 h L h1] at h2; cases h2
  obtain ⟨F, f1, f2, f3⟩ := fst_some S V n ha
  rw [Bool.eq_iff_iff, agl_iff, agr_iff, f1]
  constructor
  · intro h i hi hd
    exact eqv_trans (h i hi hd) (eqv_symm (h F f2 f3))
  · intro h i hi hd
    exact eqv_trans (h i hi hd) (eqv_symm (h L h1 h2))

theorem agree_none (S : Nat → Int) (V : Nat → ByteArray) (n : Nat) (h : any S n = false) : agr S V n = true := by
  rw [agr_iff]
  intro i hi hd
  rw [(any_false_iff S n).1 h i hi] at hd
  cases hd

theorem agl_none (S : Nat → Int) (V : Nat → ByteArray) (x : ByteArray) (n : Nat) (h : any S n = false) : agl S V x n = true := by
  rw [agl_iff]
  intro i hi hd
  rw [(any_false_iff S n).1 h i hi] at hd
  cases hd

/-- what the second loop compares with: the last delivering one's text, where there is one -/
theorem choice (S : Nat → Int) (V : Nat → ByteArray) (n : Nat) : ∃ (l : Int) (X : ByteArray), las S n = l ∧ agl S V X n = agr S V n ∧ ∀ j, j < n → dlv (S j) = true → ∃ L : Nat, l = (L : Int) ∧ L < n ∧ X = V L := by
  cases h : any S n with
  | true =>
    obtain ⟨L, h1, h2, h3⟩ := las_some S n h
    exact ⟨_, V L, rfl, agree_last S V n L h2 h3, fun j _ _ => ⟨L, h1, h2, rfl⟩⟩
  | false =>
    refine ⟨_, ⟨#[]⟩, rfl, by rw [agl_none S V _ n h, agree_none S V n h], fun j hj hd => ?_⟩
    rw [(any_false_iff S n).1 h j hj] at hd
    cases hd

theorem fst_empty {S : Nat → Int} {V : Nat → ByteArray} {k : Nat} (h : any S k = false) : fst S V k = ⟨#[]⟩ := by
  induction k with
  | zero => rfl
  | succ k ih =>
    simp only [any, Bool.or_eq_false_iff] at h
    simp [fst, h.2, ih h.1]

theorem fst_found {S : Nat → Int} {V : Nat → ByteArray} {k n : Nat} (hk : k < n) (h : any S k = false) (hd : dlv (S k) = true) : fst S V n = V k ∧ any S n = true := by
  induction n with
  | zero => omega
  | succ n ih =>
    by_cases e : k = n
    · subst e
      exact ⟨(step_first (V := V) hd h).1, by simp [any, hd]⟩
    · obtain ⟨h1, h2⟩ := ih (by omega)
      exact ⟨by simp [fst, h2, h1], by simp [any, h2]⟩

theorem agl_no {S : Nat → Int} {V : Nat → ByteArray} {x : ByteArray} {k : Nat} (h : dlv (S k) = false) : agl S V x (k + 1) = agl S V x k := by simp [agl, h]
theorem agl_same {S : Nat → Int} {V : Nat → ByteArray} {x : ByteArray} {k : Nat} (h : eqv (V k) x = true) : agl S V x (k + 1) = agl S V x k := by simp [agl, h]
theorem agl_parts {S : Nat → Int} {V : Nat → ByteArray} {x : ByteArray} {k : Nat} (h : dlv (S k) = true) (e : eqv (V k) x = false) : agl S V x (k + 1) = false := by simp [agl, h, e]

end Go.Proofs.Qxb6629283a
