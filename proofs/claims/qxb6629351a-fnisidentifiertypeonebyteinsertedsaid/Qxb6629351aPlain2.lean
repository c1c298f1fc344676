/-
  Plain laws: the state machine accepts what isIdentifierType accepts; cut and join. No Go in sight. By an AI agent.
-/
import Derived.Test.Qxb6629351aPlain
namespace Go.Proofs.Qxb6629351a
set_option linter.unusedVariables false

theorem wordB_45 {c : Int} (h : wordB c = true) : c ≠ 45 := by
  intro e
  subst e
  simp [wordB] at h

theorem wordB_of_ok {c : Int} (h : okB c = true) (h' : c ≠ 45) : wordB c = true := by
  simp only [okB, Bool.or_eq_true, beq_iff_eq] at h
  rcases h with h | h
  · exact h
  · exact absurd h h'

theorem aut_append (s : Int) (a b : List UInt8) : aut s (a ++ b) = (aut s a).bind (fun s' => aut s' b) := by
  induction a generalizing s with
  | nil => rfl
  | cons c a ih =>
    simp only [List.cons_append, aut]
    split
    · exact ih 1
    · split
      · exact ih 2
      · rfl

/-- a run that ends well: all bytes are let by, and the last one is a word byte -/
def good (s : Int) (l : List UInt8) : Prop := (∀ c, c ∈ l → okB (num c) = true) ∧ (match l.getLast? with | none => s = 1 | some d => wordB (num d) = true)

theorem aut_pos (l : List UInt8) : ∀ s : Int, s ≠ 0 → (aut s l = some 1 ↔ good s l) := by
  induction l with
  | nil => intro s _; simp [aut, good]
  | cons c l ih =>
    intro s hs
    have hlast : (c :: l).getLast? = some (l.getLast?.getD c) := by simp [List.getLast?_cons]
    simp only [aut]
    by_cases hw : wordB (num c) = true
    · rw [if_pos hw, ih 1 (by decide)]
      simp only [good, hlast, List.mem_cons]
      constructor
      · rintro ⟨h1, h2⟩
        refine ⟨?_, ?_⟩
        · rintro d (rfl | hd)
          · simp [okB, hw]
          · exact h1 d hd
        · cases hl : l.getLast? with
          | none => simpa using hw
          | some d => rw [hl] at h2; simpa using h2
      · rintro ⟨h1, h2⟩
        refine ⟨fun d hd => h1 d (.inr hd), ?_⟩
        cases hl : l.getLast? with
        | none => trivial
        | some d => rw [hl] at h2; simpa using h2
    · rw [if_neg hw]
      by_cases h45 : num c = 45
      · rw [if_pos ⟨h45, hs⟩, ih 2 (by decide)]
        simp only [good, hlast, List.mem_cons]
        constructor
        · rintro ⟨h1, h2⟩
          cases hl : l.getLast? with
          | none => rw [hl] at h2; exact absurd h2 (by decide)
          | some d =>
            rw [hl] at h2
            refine ⟨?_, by simpa using h2⟩
            rintro e (rfl | he)
            · simp [okB, h45]
            · exact h1 e he
        · rintro ⟨h1, h2⟩
          refine ⟨fun d hd => h1 d (.inr hd), ?_⟩
          cases hl : l.getLast? with
          | none => rw [hl] at h2; exact absurd h2 hw
          | some d => rw [hl] at h2; simpa using h2
      · rw [if_neg (fun h => h45 h.1)]
        constructor
        · intro h; cases h
        · rintro ⟨h1, _⟩
          have := h1 c (by simp)
          exact absurd (wordB_of_ok this h45) hw

/-- isIdentifierType, as a statement -/
theorem idt_said (l : List UInt8) : idt l = true ↔ ∃ c l', l = c :: l' ∧ wordB (num c) = true ∧ good 1 l' := by
  cases l with
  | nil => simp [idt]
  | cons c l =>
    have hlast : (c :: l).getLast? = some (l.getLast?.getD c) := by simp [List.getLast?_cons]
    simp only [idt, hlast, List.head?_cons, Option.map_some, List.isEmpty_cons, Bool.not_false, Bool.true_and, Bool.and_eq_true, Bool.not_eq_true', beq_eq_false_iff_ne, ne_eq, Option.some.injEq, List.all_eq_true, List.mem_cons]
    constructor
    · rintro ⟨⟨h1, h2⟩, h3⟩
      refine ⟨c, l, rfl, wordB_of_ok (h3 c (.inl rfl)) h1, fun d hd => h3 d (.inr hd), ?_⟩
      cases hl : l.getLast? with
      | none => rfl
      | some d =>
        rw [hl] at h2
        exact wordB_of_ok (h3 d (.inr (List.mem_of_getLast? hl))) (by simpa using h2)
    · rintro ⟨c', l', he, h1, h2, h3⟩
      obtain ⟨rfl, rfl⟩ := List.cons.inj he
      refine ⟨⟨wordB_45 h1, ?_⟩, ?_⟩
      · cases hl : l.getLast? with
        | none => simpa using wordB_45 h1
        | some d => rw [hl] at h3; simpa using wordB_45 h3
      · rintro d (rfl | hd)
        · simp [okB, h1]
        · exact h2 d hd

/-- the state machine's answer -/
def acc (l : List UInt8) : Bool := aut 0 l == some 1

theorem acc_idt (l : List UInt8) : idt l = acc l := by
  rw [Bool.eq_iff_iff, idt_said]
  simp only [acc, beq_iff_eq]
  cases l with
  | nil => simp [aut]
  | cons c l =>
    simp only [aut]
    by_cases hw : wordB (num c) = true
    · rw [if_pos hw, aut_pos l 1 (by decide)]
      constructor
      · rintro ⟨c', l', he, _, h2⟩
        obtain ⟨rfl, rfl⟩ := List.cons.inj he
        exact h2
      · intro h
        exact ⟨c, l, rfl, hw, h⟩
    · rw [if_neg hw, if_neg (fun h => h.2 rfl)]
      constructor
      · rintro ⟨c', l', he, h1, _⟩
        obtain ⟨rfl, rfl⟩ := List.cons.inj he
        exact absurd h1 hw
      · intro h; cases h

theorem word_x : wordB (num 120) = true := by decide

theorem good_append (s : Int) (a b : List UInt8) (hb : b ≠ []) : good s (a ++ b) ↔ (∀ c, c ∈ a → okB (num c) = true) ∧ good 2 b := by
  have hl : (a ++ b).getLast? = b.getLast? := by
    rw [List.getLast?_append]
    cases h : b.getLast? with
    | none => exact absurd (List.getLast?_eq_none_iff.1 h) hb
    | some d => rfl
  simp only [good, hl, List.mem_append]
  cases h : b.getLast? with
  | none => exact absurd (List.getLast?_eq_none_iff.1 h) hb
  | some d =>
    simp only
    constructor
    · rintro ⟨h1, h2⟩
      exact ⟨fun c hc => h1 c (.inl hc), fun c hc => h1 c (.inr hc), h2⟩
    · rintro ⟨h1, h2, h3⟩
      exact ⟨fun c hc => hc.elim (h1 c) (h2 c), h3⟩

theorem good_any (s : Int) (b : List UInt8) (hb : b ≠ []) : good s b ↔ good 2 b := by
  have := good_append s [] b hb
  simpa using this

/-- cut and join: with both parts there, a ++ b is accepted exactly when a ++ x and x ++ b are -/
theorem cut_join (a b : List UInt8) (ha : a ≠ []) (hb : b ≠ []) : idt (a ++ b) = (idt (a ++ [120]) && idt ([120] ++ b)) := by
  obtain ⟨c, a', rfl⟩ : ∃ c a', a = c :: a' := by
    cases a with
    | nil => exact absurd rfl ha
    | cons c a' => exact ⟨c, a', rfl⟩
  rw [Bool.eq_iff_iff, Bool.and_eq_true, idt_said, idt_said, idt_said]
  have hx : good 2 [120] := ⟨fun d hd => by rw [List.mem_singleton] at hd; subst hd; decide, word_x⟩
  constructor
  · rintro ⟨c', l', he, h1, h2⟩
    rw [List.cons_append] at he
    obtain ⟨rfl, rfl⟩ := List.cons.inj he
    obtain ⟨h3, h4⟩ := (good_append 1 a' b hb).1 h2
    exact ⟨⟨c, a' ++ [120], rfl, h1, (good_append 1 a' [120] (by simp)).2 ⟨h3, hx⟩⟩, ⟨120, b, rfl, word_x, (good_any 1 b hb).2 h4⟩⟩
  · rintro ⟨⟨c', l', he, h1, h2⟩, ⟨c2, l2, he2, h3, h4⟩⟩
    rw [List.cons_append] at he
    obtain ⟨rfl, rfl⟩ := List.cons.inj he
    obtain ⟨rfl, rfl⟩ := List.cons.inj he2
    obtain ⟨h5, _⟩ := (good_append 1 a' [120] (by simp)).1 h2
    exact ⟨c, a' ++ b, rfl, h1, (good_append 1 a' b hb).2 ⟨h5, (good_any 1 _ hb).1 h4⟩⟩

end Go.Proofs.Qxb6629351a
