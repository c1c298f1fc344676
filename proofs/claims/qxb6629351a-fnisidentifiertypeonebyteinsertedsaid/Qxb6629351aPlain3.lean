/-
  Plain laws: how many bytes can be put in. No Go in sight. By an AI agent.
-/
import Derived.Test.Qxb6629351aPlain2
namespace Go.Proofs.Qxb6629351a
set_option linter.unusedVariables false
set_option linter.unusedSimpArgs false

/-- l with the byte c put in ahead of place i -/
def ins (l : List UInt8) (i : Nat) (c : UInt8) : List UInt8 := l.take i ++ c :: l.drop i

def ne45 (o : Option UInt8) (c : UInt8) : Bool := !(num (o.getD c) == 45)

theorem idt_mid (a b : List UInt8) (c : UInt8) :
    idt (a ++ c :: b) = (ne45 a.head? c && ne45 b.getLast? c && (a.all (fun c => okB (num c)) && okB (num c) && b.all (fun c => okB (num c)))) := by
  have h1 : (a ++ c :: b).head? = some (a.head?.getD c) := by cases a <;> simp
  have h2 : (a ++ c :: b).getLast? = some (b.getLast?.getD c) := by
    rw [List.getLast?_append]; simp [List.getLast?_cons]
  have h3 : (a ++ c :: b).isEmpty = false := by cases a <;> simp
  simp only [idt, h1, h2, h3, Option.map_some, ne45, List.all_append, List.all_cons, Bool.not_false, Bool.true_and]
  have e : ∀ x : Int, ((some x == some (45 : Int)) : Bool) = (x == 45) := fun x => rfl
  rw [e, e, Bool.and_assoc (a.all _)]

theorem ok_word (c : Int) : (okB c && !(c == 45)) = wordB c := by
  rw [Bool.eq_iff_iff]
  simp only [Bool.and_eq_true, Bool.not_eq_true', beq_eq_false_iff_ne, ne_eq]
  constructor
  · rintro ⟨h1, h2⟩; exact wordB_of_ok h1 h2
  · intro h; exact ⟨by simp [okB, h], wordB_45 h⟩

theorem idt_in (a b : List UInt8) (c : UInt8) (ha : a ≠ []) (hb : b ≠ []) : idt (a ++ c :: b) = (idt (a ++ 120 :: b) && okB (num c)) := by
  obtain ⟨x, a', rfl⟩ : ∃ x a', a = x :: a' := by
    cases a with
    | nil => exact absurd rfl ha
    | cons x a' => exact ⟨x, a', rfl⟩
  obtain ⟨d, hd⟩ : ∃ d, b.getLast? = some d := by
    cases h : b.getLast? with
    | none => exact absurd (List.getLast?_eq_none_iff.1 h) hb
    | some d => exact ⟨d, rfl⟩
  rw [idt_mid, idt_mid, hd]
  have ex : okB (num 120) = true := by decide
  simp only [List.head?_cons, ne45, Option.getD_some, ex, Bool.and_true]
  cases okB (num c) <;> simp

theorem idt_end (a b : List UInt8) (c : UInt8) (h : a = [] ∨ b = []) : idt (a ++ c :: b) = (idt (a ++ 120 :: b) && wordB (num c)) := by
  rw [idt_mid, idt_mid, ← ok_word]
  have ex : okB (num 120) = true := by decide
  have ex' : (num 120 == 45) = false := by decide
  rcases h with rfl | rfl
  · cases hb : b.getLast? with
    | none => simp only [List.head?_nil, ne45, Option.getD_none, ex, ex', List.all_nil, Bool.true_and, Bool.and_true, Bool.not_false]
              cases okB (num c) <;> cases (num c == 45) <;> simp
    | some d => simp only [List.head?_nil, ne45, Option.getD_none, Option.getD_some, ex, ex', List.all_nil, Bool.true_and, Bool.and_true, Bool.not_false]
                cases okB (num c) <;> cases (num c == 45) <;> cases (num d == 45) <;> simp
  · cases ha : a.head? with
    | none => simp only [List.getLast?_nil, ne45, Option.getD_none, ex, ex', List.all_nil, Bool.true_and, Bool.and_true, Bool.not_false]
              cases okB (num c) <;> cases (num c == 45) <;> simp
    | some d => simp only [List.getLast?_nil, ne45, Option.getD_none, Option.getD_some, ex, ex', List.all_nil, Bool.true_and, Bool.and_true, Bool.not_false]
                cases okB (num c) <;> cases (num c == 45) <;> cases (num d == 45) <;> simp

/-- how many below k are let by -/
def cnt (f : Nat → Bool) : Nat → Nat
  | 0 => 0
  | k + 1 => cnt f k + if f k then 1 else 0

theorem cnt_le (f : Nat → Bool) (k : Nat) : cnt f k ≤ k := by
  induction k with
  | zero => simp [cnt]
  | succ k ih => simp only [cnt]; split <;> omega

theorem cnt_congr {f g : Nat → Bool} (k : Nat) (h : ∀ j, j < k → f j = g j) : cnt f k = cnt g k := by
  induction k with
  | zero => rfl
  | succ k ih => simp only [cnt, ih (fun j hj => h j (by omega)), h k (by omega)]

theorem cnt_false (k : Nat) : cnt (fun _ => false) k = 0 := by
  induction k with
  | zero => rfl
  | succ k ih => simp [cnt, ih]

theorem cnt_word : cnt (fun c => wordB (c : Int)) 256 = 63 := by decide +kernel
theorem cnt_ok : cnt (fun c => okB (c : Int)) 256 = 64 := by decide +kernel

theorem num_ofNat {k : Nat} (h : k < 256) : num (UInt8.ofNat k) = (k : Int) := by
  unfold num
  simp; omega

/-- the count of the law -/
theorem count_law (l : List UInt8) (i : Nat) (h : i ≤ l.length) :
    cnt (fun k => idt (ins l i (UInt8.ofNat k))) 256 = if idt (ins l i 120) then (if 0 < i ∧ i < l.length then 64 else 63) else 0 := by
  by_cases hi : 0 < i ∧ i < l.length
  · have ha : l.take i ≠ [] := by
      intro e
      have := congrArg List.length e
      rw [List.length_take, List.length_nil] at this
      omega
    have hb : l.drop i ≠ [] := by
      intro e
      have := congrArg List.length e
      rw [List.length_drop, List.length_nil] at this
      omega
    have e : cnt (fun k => idt (ins l i (UInt8.ofNat k))) 256 = cnt (fun k => idt (ins l i 120) && okB (k : Int)) 256 := by
      refine cnt_congr 256 (fun j hj => ?_)
      show idt (l.take i ++ UInt8.ofNat j :: l.drop i) = _
      rw [idt_in _ _ _ ha hb, num_ofNat hj]; rfl
    rw [e, if_pos hi]
    cases idt (ins l i 120) with
    | true => simpa using cnt_ok
    | false => simpa using cnt_false 256
  · have hab : l.take i = [] ∨ l.drop i = [] := by
      by_cases h0 : i = 0
      · subst h0; exact .inl rfl
      · exact .inr (List.drop_eq_nil_of_le (by omega))
    have e : cnt (fun k => idt (ins l i (UInt8.ofNat k))) 256 = cnt (fun k => idt (ins l i 120) && wordB (k : Int)) 256 := by
      refine cnt_congr 256 (fun j hj => ?_)
      show idt (l.take i ++ UInt8.ofNat j :: l.drop i) = _
      rw [idt_end _ _ _ hab, num_ofNat hj]; rfl
    rw [e, if_neg hi]
    cases idt (ins l i 120) with
    | true => simpa using cnt_word
    | false => simpa using cnt_false 256

/-- how many of the bytes below k can be put in -/
def cn (l : List UInt8) (i k : Nat) : Nat := cnt (fun k => idt (ins l i (UInt8.ofNat k))) k

theorem cn_zero (l : List UInt8) (i : Nat) : cn l i 0 = 0 := rfl
theorem cn_yes {l : List UInt8} {i k : Nat} (h : idt (ins l i (UInt8.ofNat k)) = true) : cn l i (k + 1) = cn l i k + 1 := by simp [cn, cnt, h]
theorem cn_no {l : List UInt8} {i k : Nat} (h : idt (ins l i (UInt8.ofNat k)) = false) : cn l i (k + 1) = cn l i k := by simp [cn, cnt, h]
theorem cn_le (l : List UInt8) (i k : Nat) : cn l i k ≤ k := cnt_le _ _
theorem cn_law (l : List UInt8) (i : Nat) (h : i ≤ l.length) : cn l i 256 = if idt (ins l i 120) then (if 0 < i ∧ i < l.length then 64 else 63) else 0 := count_law l i h

end Go.Proofs.Qxb6629351a
