/-
  The plain functions of this seat: no Go in sight. By an AI agent.
-/
namespace Go.Proofs.Qxb6629351a

/-- a word byte: an ASCII letter, a digit, an underscore -/
def wordB (c : Int) : Bool := decide (97 ≤ c ∧ c ≤ 122) || decide (65 ≤ c ∧ c ≤ 90) || decide (48 ≤ c ∧ c ≤ 57) || c == 95

/-- a byte of an identifier's type -/
def okB (c : Int) : Bool := wordB c || c == 45

theorem okB_iff (c : Int) : okB c = true ↔ ((97 ≤ c ∧ c ≤ 122) ∨ (65 ≤ c ∧ c ≤ 90) ∨ (48 ≤ c ∧ c ≤ 57) ∨ c = 95 ∨ c = 45) := by
  simp [okB, wordB]; omega

theorem okB_no {c : Int} (h : ¬ ((97 ≤ c ∧ c ≤ 122) ∨ (65 ≤ c ∧ c ≤ 90) ∨ (48 ≤ c ∧ c ≤ 57) ∨ c = 95 ∨ c = 45)) : okB c = false := by
  cases hc : okB c with
  | false => rfl
  | true => exact absurd ((okB_iff c).1 hc) h

def num (c : UInt8) : Int := (c.toNat : Int)

theorem num_bd (c : UInt8) : 0 ≤ num c ∧ num c ≤ 255 := by
  have := c.toNat_lt
  unfold num; omega

/-- isIdentifierType -/
def idt (l : List UInt8) : Bool := !l.isEmpty && !(l.head?.map num == some 45) && !(l.getLast?.map num == some 45) && l.all (fun c => okB (num c))

/-- the state machine: none = refused -/
def aut (s : Int) : List UInt8 → Option Int
  | [] => some s
  | c :: l => if wordB (num c) then aut 1 l else if num c = 45 ∧ s ≠ 0 then aut 2 l else none

end Go.Proofs.Qxb6629351a
