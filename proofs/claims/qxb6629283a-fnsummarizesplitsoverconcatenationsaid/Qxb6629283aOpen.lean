import Derived.Test.Qxb6629283aW1
import Derived.ProofKit
import Derived.OpenShut
import Derived.ShutString
import Derived.ChangeOld
import Derived.Below
import Derived.Deep.SlicePairs
namespace Go.Proofs.Qxb6629283a
open Go.ChangeShapes Go.WideShapes Go.ChangeAt Go.RowKit Go.Deep
open Go.ChangeMaps (open_string shut_string)
set_option linter.unusedVariables false

theorem own : ownKnob Try.prog.godebug = none := by kernel_rfl
theorem laidOut : laidOutB Try.prog = true := by kernel_rfl
theorem cells33 : Try.prog.cellsOf 33 = 2 := by kernel_rfl
theorem cells31 : Try.prog.cellsOf 31 = 1 := by kernel_rfl
theorem cells9 : Try.prog.cellsOf 9 = 1 := by kernel_rfl

/-- A slice of ZDelivery that came in, told to the walk. -/
theorem open_rw {H : Type} {enc : TypeId × Value → H} {W : World} {a : Option Addr} {n cap : Nat} {d : DataW H} {p : List MemPlace}
    (h : DataW.Trod enc Try.prog W 0 (fun _ => true) true 22 (.slice a n cap) d p) :
    ∃ S V, Rw W a n S V ∧ (a = none → n = 0) ∧ n ≤ maxLen := by
  obtain ⟨fuel, hf⟩ := h
  rcases open_slice_pairs Try.underlying22 Try.underlying33 cells33 rfl rfl cells31 cells9 hf with ⟨hcs, _⟩ | ⟨x, l, c, m, k, V0, V1, D0, D1, P0, P1, hcs, _, hl, hm, hmm, _, hx⟩
  · simp [Value.cells] at hcs
    obtain ⟨rfl, rfl, rfl⟩ := hcs
    exact ⟨fun _ => 0, fun _ => ⟨#[]⟩, .inl rfl, fun _ => rfl, by simp [maxLen]⟩
  · simp [Value.cells] at hcs
    obtain ⟨rfl, rfl, rfl⟩ := hcs
    simp at hmm
    subst hmm
    have each : ∀ i, i < n → ∃ q : Int × ByteArray, V0 i = .int .i8 q.1 ∧ V1 i = .string q.2 := by
      intro i hi
      obtain ⟨_, _, g0, g1⟩ := hx i (by omega)
      obtain ⟨s, e0, _⟩ := DataW.trod_int Try.underlying31 g0
      obtain ⟨t, e1, _⟩ := DataW.trod_string Try.underlying9 g1
      simp at e0 e1
      exact ⟨(s, t), e0, e1⟩
    obtain ⟨q, hq⟩ := choose_lt each
    refine ⟨fun i => (q i).1, fun i => (q i).2, ?_, fun e => by simp at e, by omega⟩
    by_cases h0 : n = 0
    · exact .inl h0
    · obtain ⟨b, off, spot⟩ := x
      have hc := (hx 0 (by omega)).1
      have hspot : spot = none := by simpa [Addr.add] using World.cell?_spot hc
      subst hspot
      refine .inr ⟨b, off, rfl, fun i hi => ?_⟩
      obtain ⟨c0, c1, _, _⟩ := hx i (by omega)
      obtain ⟨e0, e1⟩ := hq i hi
      rw [Addr.add_lit] at c0 c1
      rw [← Nat.add_assoc] at c1
      rw [c0, c1, e0, e1]
      exact ⟨rfl, rfl⟩

end Go.Proofs.Qxb6629283a
