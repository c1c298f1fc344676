import Derived.Test.Qxb6630632aW4
import Derived.Deep.OwnRows
namespace Go.Proofs.Qxb6630632a
open Go.RowKit
set_option linter.unusedVariables false

/-- a slice of texts; nothing is said of its address where there are none -/
def Rs (w : World) (a : Option Addr) (n : Nat) (V : Nat → ByteArray) : Prop :=
  n = 0 ∨ ∃ b off, a = some ⟨b, off, none⟩ ∧ ∀ i, i < n → w.cell? ⟨b, off + i, none⟩ = some (.string (V i))

theorem Rs.later {w w1 : World} {a : Option Addr} {n : Nat} {V : Nat → ByteArray} {B : Nat} (h : Rs w a n V) (hb : Below B w w1) (hB : w.heap.size ≤ B) : Rs w1 a n V := by
  rcases h with h | ⟨b, off, rfl, hc⟩
  · exact .inl h
  · refine .inr ⟨b, off, rfl, fun i hi => ?_⟩
    rw [hb.cell (p := ⟨b, off + i, none⟩) (Nat.lt_of_lt_of_le (World.block_lt_of_cell? _ _ (hc i hi)) hB)]; exact hc i hi

/-- what a bound test comes to -/
def Bd (n : Nat) (V : Nat → ByteArray) (w : World) (e : Ending) (w' : World) : Prop :=
  (∃ b : Bool, e = .returned (.bool b) ∧ (b = true → n ≤ 1048576 ∧ ∀ i, i < n → (V i).size ≤ 1048576)) ∧ w' = w

set_option maxHeartbeats 400000 in
theorem bound5_any (a : Option Addr) (n cap : Nat) (V : Nat → ByteArray) (w : World) (hm : n ≤ maxLen) (hr : Rs w a n V) :
    Calls Try.prog 5 #[.slice a n cap] w (Bd n V w) := by
  unfold maxLen at hm
  by_cases hn : n ≤ 1048576
  · go_enter Try.func5, Try.ntmps5
    go_wp2
    go_loop [3, 4] (fun t i => ∃ k : Nat, k ≤ n ∧ i = .int .i64 k ∧ (∃ r : Int, t = .int .i64 r) ∧ Hid (∀ i, i < k → (V i).size ≤ 1048576)) (fun _ i => n - (intOf i).toNat)
    case atStart => exact ⟨0, Nat.zero_le _, rfl, ⟨_, rfl⟩, fun i hi => by omega⟩
    case round =>
      obtain ⟨k, hk, rfl, ⟨r, rfl⟩, hall⟩ := hrel
      by_cases hlt : k < n
      · rcases hr with h0 | ⟨b, off, rfl, hc⟩
        · omega
        have hc2 := hc k hlt
        clear hc
        by_cases hsz : (V k).size ≤ 1048576
        · go_wp2
          · go_ret
            exact ⟨⟨_, rfl, fun h => by cases h⟩, rfl⟩
          · go_round
            case rel =>
              refine ⟨k + 1, by omega, by go_num, ⟨_, rfl⟩, fun i hi => ?_⟩
              by_cases e : i = k
              · subst e; exact hsz
              · exact hall.out i (by omega)
            case measure => simp [intOf]; omega
        · go_wp2
          go_ret
          exact ⟨⟨_, rfl, fun h => by cases h⟩, rfl⟩
      · go_wp2
        go_ret
        exact ⟨⟨_, rfl, fun _ => ⟨hn, fun i hi => hall.out i (by omega)⟩⟩, rfl⟩
  · go_enter Try.func5, Try.ntmps5
    go_wp2
    go_ret
    exact ⟨⟨_, rfl, fun h => by cases h⟩, rfl⟩

/-- the store lies in the call's first new block; it holds at most M bytes; nothing that was there has turned -/
def Bl (w : World) (M : Nat) (wr : World) : Prop := ∃ l, Lib.IsBuilderF 29 5 w.heap.size w.heap.size (Lib.byteCells l) wr ∧ l.length ≤ M ∧ Below w.heap.size w wr

theorem Bl.start (w : World) : Bl w 0 (w.alloc (.cells #[.pointer none, .slice none 0 0] 29)) :=
  ⟨[], Lib.IsBuilderF.of (Lib.fresh_isBuilder 29 5 w), Nat.le_refl _, (Below.refl _ _).alloc (Nat.le_refl _) _⟩

theorem Bl.alloc {w wr : World} {M : Nat} (h : Bl w M wr) (o : Obj) : Bl w M (wr.alloc o) := by
  obtain ⟨l, h1, h2, h3⟩ := h
  exact ⟨l, h1.alloc o, h2, h3.alloc h3.size _⟩

theorem Bl.drewN {w wr : World} {M : Nat} (h : Bl w M wr) (q : Nat) : Bl w M (wr.drewN q) := by
  obtain ⟨l, h1, h2, h3⟩ := h
  exact ⟨l, h1, h2, below_drewN h3 q⟩

theorem Bl.bel {w wr : World} {M : Nat} (h : Bl w M wr) : Below w.heap.size w wr := by
  obtain ⟨l, _, _, h3⟩ := h
  exact h3

theorem Bl.lt {w wr : World} {M : Nat} (h : Bl w M wr) : w.heap.size < wr.heap.size := by
  obtain ⟨l, h1, _, _⟩ := h
  rcases h1 with h1 | h1
  · exact h1.lt
  · exact h1.lt

theorem builder_set {B b g n : Nat} {bs : List Value} {p : Value} {w : World} {f : Nat → Value} (h : Lib.BuilderAtF 29 5 B b p bs w) (hr : w.rowIs g 9 n f) (hg : g ≠ b) (i : Nat) (v : Value) :
    Lib.BuilderAtF 29 5 B b p bs (w.setCell ⟨g, i, none⟩ v) := by
  obtain ⟨hB, u, hb, hown, hne⟩ := h
  obtain ⟨c, hc, _, _⟩ := hr
  have hng := Lib.ownBlock_neF hown hc (by decide)
  refine ⟨hB, u, ?_, ?_, hne⟩
  · rw [Below.heap_setCell _ _ _ _ (fun e => hg e.symm)]; exact hb
  · exact hown.kept (row := some g) ⟨rfl, rfl, rfl, by simp [World.setCell], fun k _ hk => Below.heap_setCell _ _ _ _ (fun e => hk (by simp [e]))⟩ (Or.inr hng)

theorem Bl.set {w wr : World} {M g n : Nat} {f : Nat → Value} (h : Bl w M wr) (hr : wr.rowIs g 9 n f) (hg : w.heap.size < g) (i : Nat) (v : Value) : Bl w M (wr.setCell ⟨g, i, none⟩ v) := by
  obtain ⟨l, h1, h2, h3⟩ := h
  refine ⟨l, ?_, h2, h3.setCell (p := ⟨g, i, none⟩) (Nat.le_of_lt hg) _⟩
  rcases h1 with h1 | h1
  · exact .inl (builder_set h1 hr (by omega) i v)
  · exact .inr (builder_set h1 hr (by omega) i v)

theorem row_oth {b g n : Nat} {f : Nat → Value} {w w' : World} (h : w.rowIs g 9 n f) (ho : Lib.OthersKept 5 (some b) w w') (hg : g ≠ b) : w'.rowIs g 9 n f := by
  obtain ⟨c, hc, hn, hf⟩ := h
  exact ⟨c, ho g _ hc (fun e => hg (Option.some.inj e)) (fun c' fz e => by simp at e), hn, hf⟩

/-- Keep, in the words of the law -/
theorem keep_law (w : World) (M : Nat) (x : ByteArray) (wr : World) (h : Bl w M wr) (hM : M ≤ 1099511627776) (hx : x.size ≤ 1048576) :
    Calls Try.prog 6 #[.pointer (some ⟨w.heap.size, 0, none⟩), .string x] wr fun e w' => e = .returned (.string x) ∧ Bl w (M + x.size) w' ∧ Lib.OthersKept 5 (some w.heap.size) wr w' := by
  have hlt := h.lt
  obtain ⟨l, h1, h2, h3⟩ := h
  refine (keep_any w.heap.size w.heap.size l x wr h1 (Nat.le_of_lt hlt) (by omega) hx).mono ?_
  rintro e w' ⟨l', he, h4, h5, h6⟩
  exact ⟨he, ⟨l', h4, by omega, h3.trans h6.bel⟩, h6.oth⟩

theorem info9 : (Try.prog.info? 9).map (fun i => (i.zero, i.size, i.bytes)) = some (some (.string ⟨#[]⟩), 1, 16) := by kernel_rfl

def mkS (n : Nat) : Array Value := madeCells #[.string ⟨#[]⟩] n

theorem makeS (n : Nat) (hn : n ≤ 1048576) (w : World) :
    (Instr.makeSlice 22 (.int .i64 (n : Int)) (.int .i64 (n : Int))).run Try.prog w = .ok (.slice (some ⟨w.heap.size, 0, none⟩) n n) (w.alloc (.cells (mkS n) 9)) :=
  run_make_row' (P := Try.prog) 22 9 (.string ⟨#[]⟩) 16 Try.underlying22 info9 rfl .i64 .i64 n (by omega) (by omega) w

/-- a row of texts of which the first k have been written -/
def gt (V : Nat → ByteArray) (k j : Nat) : Value := if j < k then .string (V j) else .string ⟨#[]⟩

theorem rowS (w : World) (n : Nat) (V : Nat → ByteArray) : (w.alloc (.cells (mkS n) 9)).rowIs w.heap.size 9 n (gt V 0) :=
  (World.rowIs_made w (.string ⟨#[]⟩) n 9).congr (fun i hi => by simp [gt])

theorem row_step {w : World} {g n k : Nat} {V : Nat → ByteArray} (h : w.rowIs g 9 n (gt V k)) : (w.setCell ⟨g, k, none⟩ (.string (V k))).rowIs g 9 n (gt V (k + 1)) := by
  refine (h.set k _).congr (fun i hi => ?_)
  by_cases e : i = k
  · subst e; simp [gt]
  · have : (i < k + 1) = (i < k) := by apply propext; omega
    simp only [e, if_false, gt, this]

end Go.Proofs.Qxb6630632a
