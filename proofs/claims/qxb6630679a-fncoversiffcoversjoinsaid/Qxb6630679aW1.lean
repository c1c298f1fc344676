import Derived.Test.Qxb6630679aRows
import Derived.WalkKit
import Derived.WalkSpells
import Derived.WalkLawsBesides
import Derived.DeepKeys4
import Derived.Maps.RangeWalk
import Derived.Maps.OwnOps
import Derived.Deep.QuietTactic
import Derived.BigQuiet
import Derived.BigRegion
import Derived.Lib.SliceRun
namespace Go.Proofs.Qxb6630679a
open Go.RowKit Go.Maps
set_option linter.unusedVariables false

/-- An unsigned number of 64 bits. -/
def U (r : Int) : Prop := (Lit.int .u64 r).wf = true

theorem laidOut : laidOutB Try.prog = true := by kernel_rfl
theorem row31 : (31 : TypeId) < Try.prog.types.size := of_decide_eq_true (by kernel_rfl)
theorem wide31 : (match Try.prog.underlying 31 with | some (.array _ _) | some (.struct _) => true | _ => false) = true := by kernel_rfl
theorem law : Keyed Try.prog 31 := Keyed.of_law (deep_law_laid laidOut (m := 2) (by omega) row31 (by kernel_rfl) wide31)
theorem cells31 : Try.prog.cellsOf 31 = 2 := by kernel_rfl
theorem cells27 : Try.prog.cellsOf 27 = 1 := by kernel_rfl
theorem kt31 : Try.prog.keyType 31 = true := by kernel_rfl
theorem tysz : ∃ n, Try.prog.types.size + 1 = n + 2 := ⟨Try.prog.types.size - 1, by have h : (31 : Nat) < Try.prog.types.size := row31; omega⟩
theorem zero27 (w : World) : (zeroValue 27).run Try.prog w = .ok (.int .u64 0) w := by kernel_rfl

def keyV (r s : Int) : Value := .agg #[.int .u64 r, .int .u64 s]
def klOf (P : Program) (r s : Int) : Lit := (keyOf P 31 (keyV r s)).getD (.bool false)

set_option maxRecDepth 100000 in
theorem keyLits31 (n : Nat) (c0 c1 : Value) : Try.prog.keyLits (n + 2) 31 [c0, c1] = (Try.prog.keyLits (n + 1) 27 [c0]).bind fun a => (Try.prog.keyLits (n + 1) 27 [c1]).map fun b => a ++ b := by
  conv => lhs; unfold Program.keyLits
  rw [Try.underlying31]
  simp only [cells31]
  cases h0 : Try.prog.keyLits (n + 1) 27 [c0] <;> cases h1 : Try.prog.keyLits (n + 1) 27 [c1] <;> simp [h0, h1, cells27]

theorem keyLits27 (n : Nat) (v : Value) (ls : List Lit) (h : Try.prog.keyLits (n + 1) 27 [v] = some ls) : ∃ r, v = .int .u64 r ∧ U r := by
  unfold Program.keyLits at h
  rw [Try.underlying27] at h
  cases v <;> simp at h
  obtain ⟨⟨rfl, hw⟩, _⟩ := h
  exact ⟨_, rfl, hw⟩

theorem keyLits27_mk (n : Nat) {r : Int} (h : U r) : Try.prog.keyLits (n + 1) 27 [.int .u64 r] = some [.int .u64 r] := by
  unfold Program.keyLits
  rw [Try.underlying27]
  unfold U at h
  simp [h]

theorem formed31 (c0 c1 : Value) : (Value.agg #[c0, c1]).formed Try.prog 31 = true := by
  simp [Value.formed, Try.underlying31, cells31]

theorem keyOf_mk {r s : Int} (hr : U r) (hs : U s) : keyOf Try.prog 31 (keyV r s) = some (klOf Try.prog r s) := by
  have : ∃ l, keyOf Try.prog 31 (keyV r s) = some l := by
    obtain ⟨n, hn⟩ := tysz
    rw [keyOf, Try.underlying31]
    simp only [kt31, keyV, formed31, Value.cells]
    rw [hn, keyLits31, keyLits27_mk _ hr, keyLits27_mk _ hs]
    exact ⟨_, rfl⟩
  obtain ⟨l, hl⟩ := this
  simp [klOf, hl]

theorem keyOf_inv {key : Value} {l : Lit} (h : keyOf Try.prog 31 key = some l) : ∃ r s, key = keyV r s ∧ U r ∧ U s := by
  obtain ⟨n, hn⟩ := tysz
  rw [keyOf, Try.underlying31] at h
  simp only [kt31, Bool.true_and] at h
  split at h
  · rename_i hf
    cases key <;> simp [Value.formed, Try.underlying31, cells31] at hf
    rename_i xs
    obtain ⟨xs⟩ := xs
    match xs, hf with
    | [c0, c1], _ =>
      simp only [Value.cells] at h
      rw [hn, keyLits31] at h
      cases h0 : Try.prog.keyLits (n + 1) 27 [c0] with
      | none => rw [h0] at h; simp at h
      | some a =>
        cases h1 : Try.prog.keyLits (n + 1) 27 [c1] with
        | none => rw [h0, h1] at h; simp at h
        | some b =>
          obtain ⟨r, rfl, hr⟩ := keyLits27 n _ _ h0
          obtain ⟨s, rfl, hs⟩ := keyLits27 n _ _ h1
          exact ⟨r, s, rfl, hr, hs⟩
  · cases h

theorem kl_inj {r s r' s' : Int} (hr : U r) (hs : U s) (hr' : U r') (hs' : U s') (h : klOf Try.prog r s = klOf Try.prog r' s') : r = r' ∧ s = s' := by
  have h1 := keyOf_mk hr hs
  have h2 := keyOf_mk hr' hs'
  rw [← h] at h2
  have := law.inj h1 h2
  simp [keyV] at this
  exact this

theorem kl_key {r s : Int} (hr : U r) (hs : U s) : WideAt.IsKeyLit (klOf Try.prog r s) := law.key (keyOf_mk hr hs)

theorem U_iff {r : Int} : U r ↔ 0 ≤ r ∧ r < 18446744073709551616 := by
  unfold U
  have h1 : IntKind.u64.min = 0 := by decide
  have h2 : IntKind.u64.max = 18446744073709551615 := by decide
  simp [Lit.wf, h1, h2]
  omega

/-- The map value mv, of at most n entries, holds F (0 where a key is not there). -/
def Vec (w : World) (mv : Value) (n : Nat) (F : Int → Int → Int) : Prop :=
  (mv = .map none ∧ ∀ r s, U r → U s → F r s = 0) ∨
  ∃ b D, mv = .map (some b) ∧ w.ownsMap Try.prog 31 (plainElem (H := Unit) Try.prog 27) b n D ∧ ∀ r s, U r → U s → D.atKey (klOf Try.prog r s) (.lit (.int .u64 0)) = .lit (.int .u64 (F r s))

theorem Vec.look {w : World} {mv : Value} {n : Nat} {F : Int → Int → Int} (h : Vec w mv n F) {r s : Int} (hr : U r) (hs : U s) :
    (Instr.lookup 25 mv (.agg #[.int .u64 r, .int .u64 s]) false).run Try.prog w = .ok (.int .u64 (F r s)) w ∧ U (F r s) := by
  rcases h with ⟨rfl, hF⟩ | ⟨b, D, rfl, hown, hF⟩
  · have := look_nil (w := w) false law Try.underlying25 (zero27 w) (keyOf_mk hr hs)
    rw [hF r s hr hs]
    exact ⟨this, U_iff.2 (by omega)⟩
  · obtain ⟨c, hrun, hat, hw⟩ := hown.lookup_int law Try.underlying25 Try.underlying27 (zero27 w) (keyOf_mk hr hs)
    rw [hF r s hr hs] at hat
    simp at hat
    rw [hat]
    exact ⟨hrun, hw⟩

theorem Vec.kept {w w' : World} {mv : Value} {n : Nat} {F : Int → Int → Int} {row : Option Nat} (h : Vec w mv n F) (hg : w.grownBy w' row) (hne : ∀ b, mv = .map (some b) → some b ≠ row) : Vec w' mv n F := by
  rcases h with h | ⟨b, D, rfl, hown, hF⟩
  · exact .inl h
  · exact .inr ⟨b, D, rfl, hown.kept hg (hne b rfl), hF⟩

theorem Vec.mono {w : World} {mv : Value} {n n' : Nat} {F : Int → Int → Int} (h : Vec w mv n F) (hn : n ≤ n') : Vec w mv n' F := by
  rcases h with h | ⟨b, D, rfl, hown, hF⟩
  · exact .inl h
  · exact .inr ⟨b, D, rfl, hown.mono hn, hF⟩

theorem Vec.of_block {w w' : World} {mv : Value} {n : Nat} {F : Int → Int → Int} (h : Vec w mv n F) (hk : ∀ b, mv = .map (some b) → w'.heap[b]? = w.heap[b]?) : Vec w' mv n F := by
  rcases h with h | ⟨b, D, rfl, ⟨es, clock, hb, r⟩, hF⟩
  · exact .inl h
  · exact .inr ⟨b, D, rfl, ⟨es, clock, (hk b rfl).trans hb, r⟩, hF⟩

theorem Vec.lt {w : World} {b : Nat} {n : Nat} {F : Int → Int → Int} (h : Vec w (.map (some b)) n F) : b < w.heap.size := by
  rcases h with ⟨h, _⟩ | ⟨b', D, h, hown, hF⟩
  · cases h
  · cases h; exact hown.lt

theorem Vec.later {w w' : World} {B : Nat} {mv : Value} {n : Nat} {F : Int → Int → Int} (h : Vec w mv n F) (hb : Below B w w') (hB : w.heap.size ≤ B) : Vec w' mv n F :=
  h.of_block fun b e => by subst e; exact hb.block _ (Nat.lt_of_lt_of_le h.lt hB)

/-- the function with one entry laid -/
def put (F : Int → Int → Int) (r s c : Int) : Int → Int → Int := fun r' s' => if r' = r ∧ s' = s then c else F r' s'

theorem Vec.update {w : World} {b : Nat} {n : Nat} {F : Int → Int → Int} (h : Vec w (.map (some b)) n F) (hn : n < maxLen) {r s c : Int} (hr : U r) (hs : U s) (hc : U c) :
    ∃ w', (Instr.mapUpdate 25 (.map (some b)) (.agg #[.int .u64 r, .int .u64 s]) (.int .u64 c)).run Try.prog w = .ok () w' ∧ Vec w' (.map (some b)) (n + 1) (put F r s c) ∧ w.grownBy w' (some b) := by
  rcases h with ⟨h, _⟩ | ⟨b', D, h, hown, hF⟩
  · cases h
  · cases h
    obtain ⟨w', hrun, hown', hg⟩ := hown.update law Try.underlying25 hn (keyOf_mk hr hs) (plainElem_int Try.underlying27 hc)
    refine ⟨w', hrun, .inr ⟨b, _, rfl, hown', fun r' s' hr' hs' => ?_⟩, hg⟩
    unfold put
    by_cases e : r' = r ∧ s' = s
    · obtain ⟨rfl, rfl⟩ := e
      rw [if_pos ⟨rfl, rfl⟩, atKey_put_same hown.isMap (kl_key hr hs)]
    · rw [if_neg e, atKey_put_other (fun h => e (kl_inj hr' hs' hr hs h))]
      exact hF r' s' hr' hs'

theorem Vec.made (w : World) : Vec (w.alloc (.map #[] 0)) (.map (some w.heap.size)) 0 (fun _ _ => 0) :=
  .inr ⟨_, _, rfl, World.ownsMap_made _ _ _ _, fun _ _ _ _ => rfl⟩

end Go.Proofs.Qxb6630679a
