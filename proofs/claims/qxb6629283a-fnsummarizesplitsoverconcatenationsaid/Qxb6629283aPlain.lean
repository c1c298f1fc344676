/-
  The plain functions of this seat: no Go in sight. By an AI agent.
-/
namespace Go.Proofs.Qxb6629283a

/-- a delivering status: neither 0 (undelivered) nor 2 (corrupted) -/
def dlv (s : Int) : Bool := s != 0 && s != 2

def eqv (a b : ByteArray) : Bool := a.toList == b.toList

def nDel (S : Nat → Int) (V : Nat → ByteArray) (x : ByteArray) : Nat → Nat
  | 0 => 0
  | k + 1 => nDel S V x k + if dlv (S k) && eqv (V k) x then 1 else 0

def nOth (S : Nat → Int) (V : Nat → ByteArray) (x : ByteArray) : Nat → Nat
  | 0 => 0
  | k + 1 => nOth S V x k + if dlv (S k) && !eqv (V k) x then 1 else 0

def und (S : Nat → Int) : Nat → List Int
  | 0 => []
  | k + 1 => und S k ++ if S k == 0 then [(k : Int)] else []

/-- is there a delivering one among the first k? -/
def any (S : Nat → Int) : Nat → Bool
  | 0 => false
  | k + 1 => any S k || dlv (S k)

def fst (S : Nat → Int) (V : Nat → ByteArray) : Nat → ByteArray
  | 0 => ⟨#[]⟩
  | k + 1 => if dlv (S k) && !any S k then V k else fst S V k

def agr (S : Nat → Int) (V : Nat → ByteArray) : Nat → Bool
  | 0 => true
  | k + 1 => if dlv (S k) then agr S V k && eqv (V k) (fst S V (k + 1)) else agr S V k

theorem nDel_nOth_le (S : Nat → Int) (V : Nat → ByteArray) (x : ByteArray) (k : Nat) : nDel S V x k + nOth S V x k ≤ k := by
  induction k with
  | zero => simp [nDel, nOth]
  | succ k ih =>
    simp only [nDel, nOth]
    cases dlv (S k) <;> cases eqv (V k) x <;> simp <;> omega

theorem any_iff (S : Nat → Int) (V : Nat → ByteArray) (x : ByteArray) (k : Nat) : any S k = decide (0 < nDel S V x k + nOth S V x k) := by
  induction k with
  | zero => simp [any, nDel, nOth]
  | succ k ih =>
    simp only [any, nDel, nOth, ih]
    rw [Bool.eq_iff_iff]
    by_cases hd : dlv (S k) = true <;> by_cases he : eqv (V k) x = true <;> simp [hd, he] <;> omega

theorem dlv_0 {s : Int} (h : s = 0) : dlv s = false := by simp [dlv, h]
theorem dlv_2 {s : Int} (h : s = 2) : dlv s = false := by simp [dlv, h]
theorem dlv_1 {s : Int} (h0 : ¬ s = 0) (h2 : ¬ s = 2) : dlv s = true := by simp [dlv, h0, h2]

theorem step_no {S : Nat → Int} {V : Nat → ByteArray} {x : ByteArray} {k : Nat} (h : dlv (S k) = false) :
    nDel S V x (k + 1) = nDel S V x k ∧ nOth S V x (k + 1) = nOth S V x k ∧ agr S V (k + 1) = agr S V k ∧ fst S V (k + 1) = fst S V k ∧ any S (k + 1) = any S k := by
  simp [nDel, nOth, agr, fst, any, h]

theorem und_no {S : Nat → Int} {k : Nat} (h : ¬ S k = 0) : und S (k + 1) = und S k := by simp [und, h]
theorem und_yes {S : Nat → Int} {k : Nat} (h : S k = 0) : und S (k + 1) = und S k ++ [(k : Int)] := by simp [und, h]

theorem step_del {S : Nat → Int} {V : Nat → ByteArray} {x : ByteArray} {k : Nat} (h : dlv (S k) = true) (e : eqv (V k) x = true) :
    nDel S V x (k + 1) = nDel S V x k + 1 ∧ nOth S V x (k + 1) = nOth S V x k := by
  simp [nDel, nOth, h, e]

theorem step_oth {S : Nat → Int} {V : Nat → ByteArray} {x : ByteArray} {k : Nat} (h : dlv (S k) = true) (e : eqv (V k) x = false) :
    nDel S V x (k + 1) = nDel S V x k ∧ nOth S V x (k + 1) = nOth S V x k + 1 := by
  simp [nDel, nOth, h, e]

theorem step_first {S : Nat → Int} {V : Nat → ByteArray} {k : Nat} (h : dlv (S k) = true) (e : any S k = false) : fst S V (k + 1) = V k ∧ agr S V (k + 1) = agr S V k := by
  simp [fst, agr, h, e, eqv]

theorem step_later {S : Nat → Int} {V : Nat → ByteArray} {k : Nat} (h : dlv (S k) = true) (e : any S k = true) : fst S V (k + 1) = fst S V k ∧ agr S V (k + 1) = (agr S V k && eqv (V k) (fst S V k)) := by
  simp [fst, agr, h, e]

theorem any_yes {S : Nat → Int} {V : Nat → ByteArray} {x : ByteArray} {k : Nat} (h : any S k = true) : (1 : Int) ≤ (nDel S V x k : Int) + (nOth S V x k : Int) := by
  rw [any_iff S V x k] at h
  simp at h
  omega

theorem any_no {S : Nat → Int} {V : Nat → ByteArray} {x : ByteArray} {k : Nat} (h : any S k = false) : (nDel S V x k : Int) + (nOth S V x k : Int) ≤ 0 := by
  rw [any_iff S V x k] at h
  simp at h
  omega

theorem und_le (S : Nat → Int) (k : Nat) : (und S k).length ≤ k := by
  induction k with
  | zero => simp [und]
  | succ k ih =>
    simp only [und, List.length_append]
    split <;> simp <;> omega

theorem eqv_iff (a b : ByteArray) : eqv a b = true ↔ a.toList = b.toList := by simp [eqv]

end Go.Proofs.Qxb6629283a
