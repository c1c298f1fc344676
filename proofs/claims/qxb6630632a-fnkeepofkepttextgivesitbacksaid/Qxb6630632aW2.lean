import Derived.Test.Qxb6630632aW1
import Derived.Laws.IdiomCopy
namespace Go.Proofs.Qxb6630632a
open Go.RowKit
set_option linter.unusedVariables false

set_option maxHeartbeats 1000000 in
set_option maxRecDepth 100000 in
theorem string_some (B b : Nat) (l : List UInt8) (w : World) (h : Lib.IsBuilderF 29 5 B b (Lib.byteCells l) w) (h0 : l ≠ []) :
    Calls Try.prog 12 #[.pointer (some ⟨b, 0, none⟩)] w fun e w' => e = .returned (.string ⟨l.toArray⟩) ∧ (Lib.IsBuilderF 29 5 B b (Lib.byteCells l) w' ∧ Fr B b w w') := by
  obtain ⟨p, hp, hAt⟩ : ∃ p, (p = .pointer none ∨ p = .pointer (some ⟨b, 0, none⟩)) ∧ Lib.BuilderAtF 29 5 B b p (Lib.byteCells l) w := by
    rcases h with h | h
    · exact ⟨_, .inl rfl, h⟩
    · exact ⟨_, .inr rfl, h⟩
  obtain ⟨hB, v, hbk, hown, hne⟩ := hAt
  have hl0 : l.length ≠ 0 := by simpa using h0
  rw [Lib.byteCells_length] at hown
  obtain ⟨g, cap, cur, fz, rfl, hbg, hg, hfz, hnc, hcm, hcs, htake⟩ : ∃ g cap cur fz, v = .slice (some ⟨g, 0, none⟩) l.length cap ∧ B ≤ g ∧ w.heap[g]? = some (.cells cur 5 fz) ∧ fz.2 ≤ l.length * 1 ∧ l.length ≤ cap ∧ cap ≤ maxLen ∧ cur.size = cap * 1 ∧ cur.toList.take (l.length * 1) = Lib.byteCells l := by
    rcases hown.2 with ⟨_, hz⟩ | ⟨g, cap, cur, fz, hv, r⟩
    · exact absurd hz hl0
    · exact ⟨g, cap, cur, fz, hv, r⟩
  have c1 : w.drew.cell? ⟨b, 1, none⟩ = some (.slice (some ⟨g, 0, none⟩) l.length cap) := by
    have : w.drew.heap[b]? = some (.cells #[p, .slice (some ⟨g, 0, none⟩) l.length cap] 29 (0, 0)) := hbk
    rw [Lib.cell_of_heap this]; rfl
  have hSD := bi_inv (fun _ _ _ _ => rfl) (sd_row w.drew g l.length cap (by omega))
  have hUS := bi_inv (fun _ _ _ _ => rfl) (us_row w.drew g cur.size (by have hg' : w.drew.heap[g]? = some (.cells cur 5 fz) := hg; simp [World.shape?, hg']) l h0 (by omega) (by unfold maxLen at hcm; omega) (fun j x hx => hown.cells (g := g) rfl j (.int .u8 x.toNat) (by simp [Lib.byteCells, hx])))
  have hfr : Fr B b w (w.drew.freeze ⟨g, 0, none⟩ l.length) := ⟨Lib.below_freeze (Below.drew (Below.refl B w)) (p := ⟨g, 0, none⟩) hbg _, (Lib.OthersKept.refl 5 (some b) w).drew.freeze ⟨g, 0, none⟩ _ ⟨cur, fz, hg⟩⟩
  have hkeep : Lib.IsBuilderF 29 5 B b (Lib.byteCells l) (w.drew.freeze ⟨g, 0, none⟩ l.length) := by
    have hA : Lib.BuilderAtF 29 5 B b p (Lib.byteCells l) w.drew := ⟨hB, _, hbk, by rw [Lib.byteCells_length]; exact hown, hne⟩
    have hF := hA.froze (g := g) (cap := cap) (by rw [Lib.byteCells_length]; exact c1)
    rw [Lib.byteCells_length] at hF
    rcases hp with rfl | rfl
    · exact .inl hF
    · exact .inr hF
  go_enter Try.func12, Try.ntmps12
  go_wp2
  go_region
  all_goals (go_wp2; go_ret; exact ⟨rfl, hkeep, hfr⟩)

set_option maxHeartbeats 1000000 in
set_option maxRecDepth 100000 in
theorem string_nil (B b : Nat) (p : Value) (w : World) (hbk : w.heap[b]? = some (.cells #[p, .slice none 0 0] 29 (0, 0))) (hA : Lib.BuilderAtF 29 5 B b p [] w) :
    Calls Try.prog 12 #[.pointer (some ⟨b, 0, none⟩)] w fun e w' => e = .returned (.string ⟨#[]⟩) ∧ (Lib.BuilderAtF 29 5 B b p [] w' ∧ Fr B b w w') := by
  have hUS := fun (W : World) (q : Option Addr) => bi_inv (fun _ _ _ _ => rfl) (us_none W q)
  have c1 : w.drew.cell? ⟨b, 1, none⟩ = some (.slice none 0 0) := by
    have : w.drew.heap[b]? = some (.cells #[p, .slice none 0 0] 29 (0, 0)) := hbk
    rw [Lib.cell_of_heap this]; rfl
  have hSD := bi_inv (fun _ _ _ _ => rfl) (sd_nil w.drew 0 0)
  go_enter Try.func12, Try.ntmps12
  go_wp2
  go_region
  all_goals (go_wp2; go_ret; exact ⟨rfl, hA.drew, (Fr.refl B b w).drew⟩)

set_option maxHeartbeats 1000000 in
set_option maxRecDepth 100000 in
theorem string_noroom (B b g : Nat) (p : Value) (cur : Array Value) (w : World) (hBw : B ≤ w.heap.size) (hbk : w.heap[b]? = some (.cells #[p, .slice (some ⟨g, 0, none⟩) 0 0] 29 (0, 0))) (fz : Nat × Nat) (hg : w.heap[g]? = some (.cells cur 5 fz)) (hA : Lib.BuilderAtF 29 5 B b p [] w) :
    Calls Try.prog 12 #[.pointer (some ⟨b, 0, none⟩)] w fun e w' => e = .returned (.string ⟨#[]⟩) ∧ (Lib.BuilderAtF 29 5 B b p [] w' ∧ Fr B b w w') := by
  have hUS := fun (W : World) (q : Option Addr) => bi_inv (fun _ _ _ _ => rfl) (us_none W q)
  have hlt : b < w.heap.size := by
    rcases Nat.lt_or_ge b w.heap.size with h' | h'
    · exact h'
    · simp [Array.getElem?_eq_none h'] at hbk
  have c1 : w.drew.cell? ⟨b, 1, none⟩ = some (.slice (some ⟨g, 0, none⟩) 0 0) := by
    have : w.drew.heap[b]? = some (.cells #[p, .slice (some ⟨g, 0, none⟩) 0 0] 29 (0, 0)) := hbk
    rw [Lib.cell_of_heap this]; rfl
  have hSD := bi_inv (fun _ _ _ _ => rfl) (sd_zero w.drew g 0 (5, cur.size) (by have hg' : w.drew.heap[g]? = some (.cells cur 5 fz) := hg; simp [World.shape?, hg']))
  have c2 : (w.drew.alloc (.view ⟨g, 0, none⟩ 5)).cell? ⟨b, 1, none⟩ = some (.slice (some ⟨g, 0, none⟩) 0 0) := by
    have : (w.drew.alloc (.view ⟨g, 0, none⟩ 5)).heap[b]? = _ := (Lib.alloc_old w.drew _ b hlt).trans hbk
    rw [Lib.cell_of_heap this]; rfl
  have c3 : (w.alloc (.view ⟨g, 0, none⟩ 5)).drew.cell? ⟨b, 1, none⟩ = some (.slice (some ⟨g, 0, none⟩) 0 0) := c2
  have c0 : w.cell? ⟨b, 1, none⟩ = some (.slice (some ⟨g, 0, none⟩) 0 0) := c1
  go_enter Try.func12, Try.ntmps12
  go_wp2
  go_region
  all_goals (go_wp2; go_ret; exact ⟨rfl, hA.drew.alloc _, (Fr.refl B b w).drew.alloc hBw _⟩)

set_option maxHeartbeats 1000000 in
set_option maxRecDepth 100000 in
theorem string_room (B b g cap : Nat) (p : Value) (w : World) (hc0 : cap ≠ 0) (hbk : w.heap[b]? = some (.cells #[p, .slice (some ⟨g, 0, none⟩) 0 cap] 29 (0, 0))) (hA : Lib.BuilderAtF 29 5 B b p [] w) :
    Calls Try.prog 12 #[.pointer (some ⟨b, 0, none⟩)] w fun e w' => e = .returned (.string ⟨#[]⟩) ∧ (Lib.BuilderAtF 29 5 B b p [] w' ∧ Fr B b w w') := by
  have hUS := fun (W : World) (q : Option Addr) => bi_inv (fun _ _ _ _ => rfl) (us_none W q)
  have c1 : w.drew.cell? ⟨b, 1, none⟩ = some (.slice (some ⟨g, 0, none⟩) 0 cap) := by
    have : w.drew.heap[b]? = some (.cells #[p, .slice (some ⟨g, 0, none⟩) 0 cap] 29 (0, 0)) := hbk
    rw [Lib.cell_of_heap this]; rfl
  have hSD := bi_inv (fun _ _ _ _ => rfl) (sd_row w.drew g 0 cap hc0)
  clear hc0
  go_enter Try.func12, Try.ntmps12
  go_wp2
  go_region
  all_goals (go_wp2; go_ret; exact ⟨rfl, hA.drew, (Fr.refl B b w).drew⟩)

theorem string_any (B b : Nat) (l : List UInt8) (w : World) (h : Lib.IsBuilderF 29 5 B b (Lib.byteCells l) w) (hBw : B ≤ w.heap.size) :
    Calls Try.prog 12 #[.pointer (some ⟨b, 0, none⟩)] w fun e w' => e = .returned (.string ⟨l.toArray⟩) ∧ (Lib.IsBuilderF 29 5 B b (Lib.byteCells l) w' ∧ Fr B b w w') := by
  cases l with
  | cons x r => exact string_some B b (x :: r) w h (by simp)
  | nil =>
    obtain ⟨p, hp, hA⟩ : ∃ p, (p = .pointer none ∨ p = .pointer (some ⟨b, 0, none⟩)) ∧ Lib.BuilderAtF 29 5 B b p [] w := by
      rcases h with h | h
      · exact ⟨_, .inl rfl, h⟩
      · exact ⟨_, .inr rfl, h⟩
    have fin : ∀ (e : Ending) (w' : World), (e = .returned (.string ⟨#[]⟩) ∧ (Lib.BuilderAtF 29 5 B b p [] w' ∧ Fr B b w w')) → e = .returned (.string ⟨#[]⟩) ∧ (Lib.IsBuilderF 29 5 B b [] w' ∧ Fr B b w w') := by
      rintro e w' ⟨he, hk, hb⟩
      rcases hp with rfl | rfl
      · exact ⟨he, .inl hk, hb⟩
      · exact ⟨he, .inr hk, hb⟩
    have hA' := hA
    obtain ⟨hB, v, hbk, hown, hne⟩ := hA
    rcases hown.2 with ⟨rfl, _⟩ | ⟨g, cap, cur, fz, rfl, hbg, hg, _, _, _, _, _⟩
    · exact (string_nil B b p w hbk hA').mono fin
    · by_cases hc0 : cap = 0
      · subst hc0
        exact (string_noroom B b g p cur w hBw hbk fz hg hA').mono fin
      · exact (string_room B b g cap p w hc0 hbk hA').mono fin

end Go.Proofs.Qxb6630632a
