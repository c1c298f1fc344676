/-
  Plain laws on two lists behind one another. No Go in sight. By an AI agent.
-/
import Derived.Test.Qxb6629283aPlain2
namespace Go.Proofs.Qxb6629283a
set_option linter.unusedVariables false

/-- two families behind one another -/
def cat {α : Type} (n : Nat) (f g : Nat → α) (i : Nat) : α := if i < n then f i else g (i - n)

theorem cat_lt {α : Type} {n i : Nat} (f g : Nat → α) (h : i < n) : cat n f g i = f i := if_pos h
theorem cat_ge {α : Type} (n : Nat) (f g : Nat → α) (j : Nat) : cat n f g (n + j) = g j := by unfold cat; rw [if_neg (by omega), Nat.add_sub_cancel_left]

/-- each reckoning hangs on the first k alone -/
theorem congr_all {S S' : Nat → Int} {V V' : Nat → ByteArray} (x : ByteArray) (k : Nat) (h : ∀ i, i < k → S i = S' i ∧ V i = V' i) :
    nDel S V x k = nDel S' V' x k ∧ nOth S V x k = nOth S' V' x k ∧ und S k = und S' k ∧ any S k = any S' k ∧ fst S V k = fst S' V' k ∧ agr S V k = agr S' V' k := by
  induction k with
  | zero => exact ⟨rfl, rfl, rfl, rfl, rfl, rfl⟩
  | succ k ih =>
    obtain ⟨h1, h2, h3, h4, h5, h6⟩ := ih (fun i hi => h i (by omega))
    obtain ⟨e1, e2⟩ := h k (by omega)
    refine ⟨?_, ?_, ?_, ?_, ?_, ?_⟩
    · simp only [nDel, h1, e1, e2]
    · simp only [nOth, h2, e1, e2]
    · simp only [und, h3, e1]
    · simp only [any, h4, e1]
    · simp only [fst, h4, h5, e1, e2]
    · simp only [agr, fst, h4, h5, h6, e1, e2]

section
variable (n : Nat) (S T : Nat → Int) (V U : Nat → ByteArray) (x : ByteArray)

theorem head_all : nDel (cat n S T) (cat n V U) x n = nDel S V x n ∧ nOth (cat n S T) (cat n V U) x n = nOth S V x n ∧ und (cat n S T) n = und S n ∧ any (cat n S T) n = any S n ∧ fst (cat n S T) (cat n V U) n = fst S V n ∧ agr (cat n S T) (cat n V U) n = agr S V n :=
  congr_all x n (fun i hi => ⟨cat_lt _ _ hi, cat_lt _ _ hi⟩)

theorem nDel_cat (m : Nat) : nDel (cat n S T) (cat n V U) x (n + m) = nDel S V x n + nDel T U x m := by
  induction m with
  | zero => simp [nDel, (head_all n S T V U x).1]
  | succ m ih =>
    rw [← Nat.add_assoc]
    simp only [nDel, ih, cat_ge]
    omega

theorem nOth_cat (m : Nat) : nOth (cat n S T) (cat n V U) x (n + m) = nOth S V x n + nOth T U x m := by
  induction m with
  | zero => simp [nOth, (head_all n S T V U x).2.1]
  | succ m ih =>
    rw [← Nat.add_assoc]
    simp only [nOth, ih, cat_ge]
    omega

theorem und_cat (m : Nat) : und (cat n S T) (n + m) = und S n ++ (und T m).map (· + (n : Int)) := by
  induction m with
  | zero => simp [und, (head_all n S T (fun _ => ⟨#[]⟩) (fun _ => ⟨#[]⟩) ⟨#[]⟩).2.2.1]
  | succ m ih =>
    rw [← Nat.add_assoc]
    simp only [und, ih, cat_ge, List.append_assoc, List.map_append]
    congr 2
    by_cases h : T m = 0
    · simp [h]; omega
    · simp [h]

theorem any_cat (m : Nat) : any (cat n S T) (n + m) = (any S n || any T m) := by
  induction m with
  | zero => simp [any, (head_all n S T (fun _ => ⟨#[]⟩) (fun _ => ⟨#[]⟩) ⟨#[]⟩).2.2.2.1]
  | succ m ih =>
    rw [← Nat.add_assoc]
    simp only [any, ih, cat_ge, Bool.or_assoc]

theorem fst_cat (m : Nat) : fst (cat n S T) (cat n V U) (n + m) = if any S n then fst S V n else fst T U m := by
  induction m with
  | zero =>
    have e : fst T U 0 = fst S V n ∨ any S n = true := by
      cases h : any S n with
      | true => exact .inr rfl
      | false => exact .inl (fst_empty h).symm
    simp only [Nat.add_zero, (head_all n S T V U ⟨#[]⟩).2.2.2.2.1]
    rcases e with e | e
    · rw [e]; split <;> rfl
    · rw [if_pos e]
  | succ m ih =>
    rw [← Nat.add_assoc]
    simp only [fst, ih, cat_ge, any_cat n S T]
    cases h : any S n <;> simp

end

theorem agr_cat (n : Nat) (S T : Nat → Int) (V U : Nat → ByteArray) (m : Nat) :
    agr (cat n S T) (cat n V U) (n + m) = (agr S V n && agr T U m && (!any S n || !any T m || eqv (fst S V n) (fst T U m))) := by
  rw [Bool.eq_iff_iff, agr_iff, fst_cat n S T V U]
  simp only [Bool.and_eq_true, agr_iff, Bool.or_eq_true, Bool.not_eq_true']
  have hL : ∀ i, i < n → cat n S T i = S i ∧ cat n V U i = V i := fun i hi => ⟨cat_lt _ _ hi, cat_lt _ _ hi⟩
  constructor
  · intro h
    cases ha : any S n with
    | true =>
      simp only [ha, if_true] at h
      have h1 : ∀ i, i < n → dlv (S i) = true → eqv (V i) (fst S V n) = true := fun i hi hd => by
        have := h i (by omega) (by rw [(hL i hi).1]; exact hd)
        rwa [(hL i hi).2] at this
      have h2 : ∀ j, j < m → dlv (T j) = true → eqv (U j) (fst S V n) = true := fun j hj hd => by
        have := h (n + j) (by omega) (by rw [cat_ge]; exact hd)
        rwa [cat_ge] at this
      cases hb : any T m with
      | true =>
        obtain ⟨F, f1, f2, f3⟩ := fst_some T U m hb
        have hF := h2 F f2 f3
        refine ⟨⟨h1, fun j hj hd => ?_⟩, .inr ?_⟩
        · rw [f1]; exact eqv_trans (h2 j hj hd) (eqv_symm hF)
        · rw [f1]; exact eqv_symm hF
      | false =>
        refine ⟨⟨h1, fun j hj hd => ?_⟩, .inl (.inr rfl)⟩
        rw [(any_false_iff T m).1 hb j hj] at hd; cases hd
    | false =>
      simp only [ha, Bool.false_eq_true, if_false] at h
      refine ⟨⟨fun i hi hd => ?_, fun j hj hd => ?_⟩, .inl (.inl rfl)⟩
      · rw [(any_false_iff S n).1 ha i hi] at hd; cases hd
      · have := h (n + j) (by omega) (by rw [cat_ge]; exact hd)
        rwa [cat_ge] at this
  · rintro ⟨⟨h1, h2⟩, h3⟩ i hi hd
    by_cases hin : i < n
    · rw [(hL i hin).1] at hd
      rw [(hL i hin).2]
      have ha : any S n = true := by
        cases h : any S n with
        | true => rfl
        | false => rw [(any_false_iff S n).1 h i hin] at hd; cases hd
      rw [if_pos ha]
      exact h1 i hin hd
    · obtain ⟨j, rfl⟩ : ∃ j, i = n + j := ⟨i - n, by omega⟩
      rw [cat_ge] at hd
      rw [cat_ge]
      have hb : any T m = true := by
        cases h : any T m with
        | true => rfl
        | false => rw [(any_false_iff T m).1 h j (by omega)] at hd; cases hd
      have h4 := h2 j (by omega) hd
      cases ha : any S n with
      | true =>
        rcases h3 with (h3 | h3) | h3
        · rw [ha] at h3; cases h3
        · rw [hb] at h3; cases h3
        · simp only [if_true]; exact eqv_trans h4 (eqv_symm h3)
      | false => simpa using h4

theorem und_bd (S : Nat → Int) (k : Nat) : ∀ v, v ∈ und S k → 0 ≤ v ∧ v < (k : Int) := by
  induction k with
  | zero => simp [und]
  | succ k ih =>
    intro v hv
    simp only [und, List.mem_append] at hv
    rcases hv with hv | hv
    · have := ih v hv; omega
    · split at hv
      · simp at hv; omega
      · simp at hv

theorem und_getD (S : Nat → Int) (k j : Nat) (h : j < (und S k).length) : 0 ≤ (und S k).getD j 0 ∧ (und S k).getD j 0 < (k : Int) := by
  refine und_bd S k _ ?_
  simp [List.getD, List.getElem?_eq_getElem h]

theorem agr_false {S : Nat → Int} {V : Nat → ByteArray} {n : Nat} (h : agr S V n = false) : any S n = true := by
  cases ha : any S n with
  | true => rfl
  | false => rw [agree_none S V n ha] at h; cases h

/-- the ways through the law's tests on the three flags -/
theorem ways (S T : Nat → Int) (V U : Nat → ByteArray) (n m : Nat) (pj : Bool) (h : pj = (agr S V n && agr T U m && (!any S n || !any T m || eqv (fst S V n) (fst T U m)))) :
    (agr S V n = false ∧ any S n = true ∧ false = pj) ∨ (agr S V n = true ∧ agr T U m = false ∧ any S n = false ∧ any T m = true ∧ false = pj) ∨ (agr S V n = true ∧ agr T U m = false ∧ any S n = true ∧ any T m = true ∧ false = pj) ∨
    (agr S V n = true ∧ agr T U m = true ∧ any S n = false ∧ any T m = false ∧ true = pj) ∨ (agr S V n = true ∧ agr T U m = true ∧ any S n = false ∧ any T m = true ∧ true = pj) ∨ (agr S V n = true ∧ agr T U m = true ∧ any S n = true ∧ any T m = false ∧ true = pj) ∨
    (agr S V n = true ∧ agr T U m = true ∧ any S n = true ∧ any T m = true ∧ eqv (fst S V n) (fst T U m) = pj) := by
  cases ha : agr S V n with
  | false =>
    have := agr_false ha
    rw [ha] at h
    exact .inl ⟨rfl, this, by simp [h]⟩
  | true =>
    cases hb : agr T U m with
    | false =>
      have := agr_false hb
      rw [ha, hb] at h
      cases hc : any S n with
      | false => exact .inr (.inl ⟨rfl, rfl, rfl, this, by simp [h]⟩)
      | true => exact .inr (.inr (.inl ⟨rfl, rfl, rfl, this, by simp [h]⟩))
    | true =>
      rw [ha, hb] at h
      cases hc : any S n <;> cases hd : any T m <;> simp [h, hc, hd]

/-- how many of the first k are not corrupted -/
def hon (S : Nat → Int) : Nat → Nat
  | 0 => 0
  | k + 1 => hon S k + if S k != 2 then 1 else 0

theorem hon_le (S : Nat → Int) (k : Nat) : hon S k ≤ k := by
  induction k with
  | zero => simp [hon]
  | succ k ih => simp only [hon]; split <;> omega

theorem hon_sum (S : Nat → Int) (V : Nat → ByteArray) (x : ByteArray) (k : Nat) : nDel S V x k + nOth S V x k + (und S k).length = hon S k := by
  induction k with
  | zero => simp [nDel, nOth, und, hon]
  | succ k ih =>
    simp only [hon, ← ih]
    by_cases h0 : S k = 0
    · obtain ⟨e1, e2, _⟩ := step_no (V := V) (x := x) (dlv_0 h0)
      rw [e1, e2, und_yes h0]; simp [h0]; omega
    · rw [und_no h0]
      by_cases h2 : S k = 2
      · obtain ⟨e1, e2, _⟩ := step_no (V := V) (x := x) (dlv_2 h2)
        rw [e1, e2]; simp [h2]
      · have hd := dlv_1 h0 h2
        cases he : eqv (V k) x with
        | true => obtain ⟨e1, e2⟩ := step_del (x := x) hd he; rw [e1, e2]; simp [h2]; omega
        | false => obtain ⟨e1, e2⟩ := step_oth (x := x) hd he; rw [e1, e2]; simp [h2]; omega

end Go.Proofs.Qxb6629283a
