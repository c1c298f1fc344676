import Derived.Test.Qxb6630679aW2
namespace Go.Proofs.Qxb6630679a
open Go.RowKit Go.Maps
set_option linter.unusedVariables false

/-- F covers G. -/
def Cov (F G : Int → Int → Int) : Prop := ∀ r s, U r → U s → G r s ≤ F r s

def CovP (w : World) (F G : Int → Int → Int) : Ending → World → Prop := fun e w' => ∃ b : Bool, e = .returned (.bool b) ∧ (b = true ↔ Cov F G) ∧ Below w.heap.size w w'

theorem covers_nil (v : Value) (n : Nat) (F G : Int → Int → Int) (w : World) (hv : Vec w v n F) (hG : ∀ r s, U r → U s → G r s = 0) :
    Calls Try.prog 7 #[v, .map none] w (CovP w F G) := by
  have hrg := run_range_nilMap (P := Try.prog) w 25 31 27 Try.underlying25
  have hnx : ∀ ty, (Instr.next (.pointer (some ⟨w.heap.size, 0, none⟩)) false ty).run Try.prog (w.alloc (.mapIter none 0 #[] 0)) = _ := fun ty => run_next_nilMap _ ty 0 0 #[]
  have hC : Cov F G := fun r s hr hs => by
    have := (hv.look hr hs).2
    rw [hG r s hr hs]
    exact (U_iff.1 this).1
  go_enter Try.func7, Try.ntmps7
  go_wp2
  refine wp_loop_rounds 1 ?_
  rw [rounds_succ]
  go_wp2
  go_ret
  exact ⟨true, rfl, ⟨fun _ => hC, fun _ => rfl⟩, (Below.refl _ _).alloc (Nat.le_refl _) _⟩

set_option maxRecDepth 100000 in
set_option maxHeartbeats 1000000 in
theorem covers_some (v : Value) (n m : Nat) (F G : Int → Int → Int) (b : Nat) (D : DataW Unit) (w : World) (hv : Vec w v n F)
    (hown : w.ownsMap Try.prog 31 (plainElem Try.prog 27) b m D) (hG : ∀ r s, U r → U s → D.atKey (klOf Try.prog r s) (.lit (.int .u64 0)) = .lit (.int .u64 (G r s))) :
    Calls Try.prog 7 #[v, .map (some b)] w (CovP w F G) := by
  have hbl := hown.lt
  go_enter Try.func7, Try.ntmps7
  go_wp2_with (first
    | (at_range; refine wpList_range_own _ rfl _ 25 rfl 31 27 law Try.underlying25 _ b m _ rfl hown ?_; intro w0 hrg0 hg0 hs0)
    | go_in)
  go_frame
  go_loopw [5] (fun _ wr => ∃ (left : Lit → Bool) (cnt : Nat), wr.ranges Try.prog 31 (plainElem Try.prog 27) b w.heap.size m D left cnt ∧
      (∀ r s, U r → U s → left (klOf Try.prog r s) = false → G r s ≤ F r s) ∧ Below w.heap.size w wr)
    (fun _ wr => wr.rangeLeft b w.heap.size)
  case atStart =>
    refine ⟨_, _, hrg0, fun r s hr hs hl => ?_, (Below.refl _ _).grown hg0 (Nat.le_refl _) (fun j hj => by cases hj)⟩
    have h0 := hG r s hr hs
    rw [atKey_of_not_has hl] at h0
    simp at h0
    rw [← h0]
    exact (U_iff.1 (hv.look hr hs).2).1
  case round =>
    obtain ⟨left, cnt, hrg, hle, hnx⟩ := hrel
    go_wp2_with (first
      | (at_next; refine wpList_next_ranges _ rfl _ rfl 31 law (plainElem Try.prog 27) (fun p : Int × Int => .agg #[.int .u64 p.1, .int .u64 p.2]) (Value.int .u64) (fun key l hk => by obtain ⟨r, s, e, _, _⟩ := keyOf_inv hk; exact ⟨(r, s), e⟩) (fun v y hv => by obtain ⟨c, e, _⟩ := plainElem_int_inv Try.underlying27 hv; exact ⟨c, e⟩) b w.heap.size m _ _ _ rfl hrg ?_ ?_)
      | go_in)
    · intro hc0 hl0
      go_wp2
      go_ret
      exact ⟨true, rfl, ⟨fun _ r s hr hs => hle r s hr hs (hl0 _), fun _ => rfl⟩, hnx⟩
    · intro r s c l yd yp w1 cnt1 hkey hlk hval hat hrg1 hlt hg1 hs1 hen
      obtain ⟨r', s', ek, hr, hs⟩ := keyOf_inv hkey
      simp only [keyV, Value.agg.injEq, Array.mk.injEq, List.cons.injEq, Value.int.injEq, true_and, and_true] at ek
      obtain ⟨rfl, rfl⟩ := ek
      obtain rfl : l = klOf Try.prog r s := by
        have := keyOf_mk hr hs
        unfold keyV at this
        rw [hkey] at this
        exact Option.some.inj this
      obtain ⟨c', ec, ey, hwc⟩ := plainElem_int_inv Try.underlying27 hval
      simp at ec
      subst ec
      have hcG : c = G r s := by
        have h1 := hG r s hr hs
        rw [hat, (Prod.mk.inj ey).1] at h1
        simpa using h1
      have hv1 : Vec (w1.alloc (.cells #[.int .u64 r, .int .u64 s] 31)) v n F := by
        have ha := hv.later hnx (Nat.le_refl _)
        have hb := ha.kept hg1 (fun b e1 e2 => by subst e1; have := hv.lt; cases e2; omega)
        exact hb.kept (World.grownBy_alloc w1 _ none) (fun _ _ => by simp)
      obtain ⟨hlook, hUF⟩ := hv1.look hr hs
      have hnx1 : Below w.heap.size w (w1.alloc (.cells #[.int .u64 r, .int .u64 s] 31)) := (hnx.grown hg1 hnx.size (fun j hj => by cases hj; exact Nat.le_refl _)).alloc (by have := hnx.size; omega) _
      have hrg2 := hrg1.alloc (.cells #[.int .u64 r, .int .u64 s] 31)
      have HG : Hid (c = G r s) := hcG
      clear hcG
      by_cases hcmp : F r s < c
      · go_wp2
        go_ret
        refine ⟨false, rfl, ⟨(fun h => by cases h), (fun h => ?_)⟩, hnx1⟩
        have h1 := h r s hr hs
        have h2 : c = G r s := HG
        omega
      · go_wp2
        go_roundw
        case rel =>
          refine ⟨_, cnt1, hrg2, fun r1 s1 hr1 hs1 hl => ?_, hnx1⟩
          by_cases he : r1 = r ∧ s1 = s
          · obtain ⟨rfl, rfl⟩ := he
            have h2 : c = G r1 s1 := HG
            omega
          · refine hle r1 s1 hr1 hs1 ?_
            have : (klOf Try.prog r1 s1).sameKey (klOf Try.prog r s) = false := Maps.sameKey_ne (fun e => he (kl_inj hr1 hs1 hr hs e))
            simpa [this] using hl
        case measure => rw [hrg2.left_eq, hrg.left_eq]; exact hlt

theorem covers_any (v u : Value) (n m : Nat) (F G : Int → Int → Int) (w : World) (hv : Vec w v n F) (hu : Vec w u m G) :
    Calls Try.prog 7 #[v, u] w (CovP w F G) := by
  rcases hu with ⟨rfl, h0⟩ | ⟨b, D, rfl, hown, hG⟩
  · exact covers_nil v n F G w hv h0
  · exact covers_some v n m F G b D w hv hown hG

end Go.Proofs.Qxb6630679a
