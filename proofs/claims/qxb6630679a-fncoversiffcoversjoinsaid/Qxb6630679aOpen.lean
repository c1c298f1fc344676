import Derived.Test.Qxb6630679aW2
import Derived.ProofKit
import Derived.OpenShut
import Derived.ShutString
import Derived.ChangeOld
import Derived.Below
import Derived.Deep.Slices
import Derived.Deep.Strs
namespace Go.Proofs.Qxb6630679a
open Go.ChangeShapes Go.WideShapes Go.ChangeAt Go.RowKit Go.Deep
set_option linter.unusedVariables false

theorem own : ownKnob Try.prog.godebug = none := by kernel_rfl
theorem cells29 : Try.prog.cellsOf 29 = 3 := by kernel_rfl

/-- A slice of entries that came in, told to the walk. -/
theorem open_ent {H : Type} {enc : TypeId × Value → H} {W : World} {a : Option Addr} {n cap : Nat} {d : DataW H} {p : List MemPlace}
    (h : DataW.Trod enc Try.prog W 0 (fun _ => true) true 22 (.slice a n cap) d p) :
    ∃ R S N, Ent W a n R S N ∧ AllU n R S N ∧ (a = none → n = 0) ∧ n ≤ maxLen := by
  obtain ⟨fuel, hf⟩ := h
  rcases open_slice Try.underlying22 hf with ⟨hcs, _⟩ | ⟨x, l, c, m, k, D, Pl, hcs, _, hl, hm, hmm, _, hx⟩
  · simp [Value.cells] at hcs
    obtain ⟨rfl, rfl, rfl⟩ := hcs
    exact ⟨fun _ => 0, fun _ => 0, fun _ => 0, .inl rfl, fun i hi => absurd hi (Nat.not_lt_zero _), fun _ => rfl, by simp [maxLen]⟩
  · simp [Value.cells] at hcs
    obtain ⟨rfl, rfl, rfl⟩ := hcs
    simp at hmm
    subst hmm
    have each : ∀ i, i < n → ∃ q : Int × Int × Int, (W.cell? (x.add (i * 3)) = some (.int .u64 q.1) ∧ W.cell? (x.add (i * 3 + 1)) = some (.int .u64 q.2.1) ∧ W.cell? (x.add (i * 3 + 2)) = some (.int .u64 q.2.2)) ∧ U q.1 ∧ U q.2.1 ∧ U q.2.2 := by
      intro i hi
      obtain ⟨cs', h1, h2⟩ := hx i (by omega)
      rw [cells29] at h1
      obtain ⟨_, hlen, hcell⟩ := World.cells?_some h1
      obtain ⟨y0, y1, y2, k', _, _, g0, g1, g2⟩ := trod_struct3 Try.underlying29 h2
      match cs', hlen with
      | [v0, v1, v2], _ =>
        simp [cells27] at g0 g1 g2
        obtain ⟨r, e0, _, u0⟩ := DataW.trod_int Try.underlying27 g0
        obtain ⟨s, e1, _, u1⟩ := DataW.trod_int Try.underlying27 g1
        obtain ⟨t, e2, _, u2⟩ := DataW.trod_int Try.underlying27 g2
        simp at e0 e1 e2
        subst e0 e1 e2
        have z0 := hcell 0 (by omega)
        have z1 := hcell 1 (by omega)
        have z2 := hcell 2 (by omega)
        rw [add_add] at z0 z1 z2
        exact ⟨(r, s, t), ⟨by simpa using z0, by simpa using z1, by simpa using z2⟩, u0, u1, u2⟩
    obtain ⟨q, hq⟩ := choose_lt each
    refine ⟨fun i => (q i).1, fun i => (q i).2.1, fun i => (q i).2.2, ?_, fun i hi => (hq i hi).2, fun e => by simp at e, by omega⟩
    by_cases h0 : n = 0
    · exact .inl h0
    · obtain ⟨b, off, spot⟩ := x
      have hc := (hq 0 (by omega)).1.1
      have hspot : spot = none := by simpa [Addr.add] using World.cell?_spot hc
      subst hspot
      refine .inr ⟨b, off, rfl, fun i hi => ?_⟩
      obtain ⟨c0, c1, c2⟩ := (hq i hi).1
      rw [Addr.add_lit] at c0 c1 c2
      rw [← Nat.add_assoc] at c1 c2
      exact ⟨c0, c1, c2⟩

end Go.Proofs.Qxb6630679a
