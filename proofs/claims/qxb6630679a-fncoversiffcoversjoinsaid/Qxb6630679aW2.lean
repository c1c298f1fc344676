import Derived.Test.Qxb6630679aW1
namespace Go.Proofs.Qxb6630679a
open Go.RowKit Go.Maps
set_option linter.unusedVariables false

/-- A slice of entries: n elements from the address a on; nothing is said of a where n = 0. -/
def Ent (w : World) (a : Option Addr) (n : Nat) (R S N : Nat → Int) : Prop :=
  n = 0 ∨ ∃ b off, a = some ⟨b, off, none⟩ ∧ ∀ i, i < n → w.cell? ⟨b, off + i * 3, none⟩ = some (.int .u64 (R i)) ∧ w.cell? ⟨b, off + i * 3 + 1, none⟩ = some (.int .u64 (S i)) ∧ w.cell? ⟨b, off + i * 3 + 2, none⟩ = some (.int .u64 (N i))

theorem Ent.later {w w' : World} {B : Nat} {a : Option Addr} {n : Nat} {R S N : Nat → Int} (h : Ent w a n R S N) (hb : Below B w w') (hB : w.heap.size ≤ B) : Ent w' a n R S N := by
  rcases h with h | ⟨b, off, rfl, hc⟩
  · exact .inl h
  · refine .inr ⟨b, off, rfl, fun i hi => ?_⟩
    obtain ⟨h0, h1, h2⟩ := hc i hi
    have hlt : b < B := Nat.lt_of_lt_of_le (World.block_lt_of_cell? _ _ h0) hB
    exact ⟨(hb.cell (by exact hlt)).trans h0, (hb.cell (by exact hlt)).trans h1, (hb.cell (by exact hlt)).trans h2⟩

def AllU (n : Nat) (R S N : Nat → Int) : Prop := ∀ i, i < n → U (R i) ∧ U (S i) ∧ U (N i)

def vecF (R S N : Nat → Int) : Nat → (Int → Int → Int)
  | 0 => fun _ _ => 0
  | k + 1 => put (vecF R S N k) (R k) (S k) (N k)

def BoolP (w : World) (Q : Bool → Prop) : Ending → World → Prop := fun e w' => ∃ b : Bool, e = .returned (.bool b) ∧ Q b ∧ w' = w

theorem bound5 (a b : Option Addr) (n m ca cb : Nat) (w : World) (hn : n ≤ maxLen) (hm : m ≤ maxLen) :
    Calls Try.prog 5 #[.slice a n ca, .slice b m cb] w (BoolP w fun _ => True) := by
  unfold maxLen at hn hm
  go_enter Try.func5, Try.ntmps5
  go_wp2
  all_goals (go_ret; exact ⟨_, rfl, trivial, rfl⟩)

theorem bound8 (a : Option Addr) (n ca : Nat) (x y z : Value) (w : World) (hn : n ≤ maxLen) :
    Calls Try.prog 8 #[.slice a n ca, x, y, z] w (BoolP w fun _ => True) := by
  unfold maxLen at hn
  go_enter Try.func8, Try.ntmps8
  go_wp2
  all_goals (go_ret; exact ⟨_, rfl, trivial, rfl⟩)

def VecP (w : World) (n : Nat) (F : Int → Int → Int) : Ending → World → Prop := fun e w' => ∃ mv, e = .returned mv ∧ Vec w' mv n F ∧ Below w.heap.size w w'

set_option maxRecDepth 100000 in
set_option maxHeartbeats 1000000 in
theorem vectorOf_any (a : Option Addr) (n cap : Nat) (R S N : Nat → Int) (w : World) (hn : n ≤ 16384) (hnil : a = none → n = 0) (hr : Ent w a n R S N) (hU : AllU n R S N) :
    Calls Try.prog 6 #[.slice a n cap] w (VecP w n (vecF R S N n)) := by
  have hmm := @run_makeMap Try.prog
  have q := fun (w : World) (a : Option Addr) (n c : Nat) => Lib.run_eql_slice_nil (P := Try.prog) w 22 29 a n c 0 0 Try.underlying22
  cases a with
  | none =>
    obtain rfl := hnil rfl
    go_enter Try.func6, Try.ntmps6
    go_wp2
    go_ret
    exact ⟨_, rfl, .inl ⟨rfl, fun _ _ _ _ => rfl⟩, Below.refl _ _⟩
  | some a =>
    go_enter Try.func6, Try.ntmps6
    go_wp2
    go_loopw [4] (fun i wr => ∃ k : Nat, k ≤ n ∧ i = .int .i64 k ∧ Vec wr (.map (some w.heap.size)) k (vecF R S N k) ∧ Below w.heap.size w wr) (fun i _ => n - (intOf i).toNat)
    case atStart => exact ⟨0, Nat.zero_le _, rfl, Vec.made _, (Below.refl _ _).alloc (Nat.le_refl _) _⟩
    case round =>
      obtain ⟨k, hk, rfl, hv, hnx⟩ := hrel
      by_cases hlt : k < n
      · have hr' := hr.later hnx (Nat.le_refl _)
        rcases hr' with h0 | ⟨b, off, e, hc⟩
        · omega
        cases e
        obtain ⟨c0, c1, c2⟩ := hc k hlt
        have d0 : wr.drew.cell? ⟨b, off + k * 3, none⟩ = some (.int .u64 (R k)) := c0
        have d1 : wr.drew.cell? ⟨b, off + k * 3 + 1, none⟩ = some (.int .u64 (S k)) := c1
        have d2 : wr.drew.cell? ⟨b, off + k * 3 + 2, none⟩ = some (.int .u64 (N k)) := c2
        obtain ⟨u0, u1, u2⟩ := hU k hlt
        have hvd : Vec wr.drew (.map (some w.heap.size)) k (vecF R S N k) := hv.of_block fun _ _ => rfl
        obtain ⟨w1, hrun, hv1, hg1⟩ := hvd.update (by unfold maxLen; omega) u0 u1 u2
        have hl1 : (k : Int) < (n : Int) := by omega
        clear hc hr q hmm
        go_wp2
        go_region
        go_wp2
        go_roundw
        case rel => exact ⟨k + 1, by omega, by go_num, hv1, (hnx.drew).grown hg1 hnx.size (fun j hj => by cases hj; exact Nat.le_refl _)⟩
        case measure => simp [intOf]; omega
      · obtain rfl : k = n := by omega
        go_wp2
        go_ret
        exact ⟨_, rfl, hv, hnx⟩
end Go.Proofs.Qxb6630679a
