import Derived.Test.Qxb6630632aRows
import Derived.WalkKit
import Derived.WalkSpells
import Derived.WalkLawsBesides
import Derived.Lib.FrozenHead
import Derived.Lib.MakeNoZero
import Derived.Lib.OthersKept
import Derived.Deep.QuietTactic
import Derived.BigQuiet
namespace Go.Proofs.Qxb6630632a
open Go.RowKit
set_option linter.unusedVariables false

theorem info5 : (Try.prog.info? 5).map (fun i => (i.zero, i.size, i.bytes)) = some (some (.int .u8 0), 1, 1) := by kernel_rfl
theorem size5 : (Try.prog.info? 5).map (·.size) = some 1 := by kernel_rfl
theorem size27 : (Try.prog.info? 27).map (·.size) = some 2 := by kernel_rfl
theorem cells5 : Try.prog.cellsOf 5 = 1 := by kernel_rfl
theorem lies29 : liesAt Try.prog Try.prog.depth 29 (2 / Try.prog.cellsOf 29) 0 27 1 = true := by kernel_rfl

/-- the frame of a builder's methods: below B nothing has turned; and every block but the builder's own and rows of bytes stands as it stood -/
structure Fr (B b : Nat) (w w' : World) : Prop where
  bel : Below B w w'
  oth : Lib.OthersKept 5 (some b) w w'

theorem Fr.refl (B b : Nat) (w : World) : Fr B b w w := ⟨Below.refl _ _, Lib.OthersKept.refl _ _ _⟩
theorem Fr.trans {B b : Nat} {u v w : World} (h : Fr B b u v) (k : Fr B b v w) : Fr B b u w := ⟨h.bel.trans k.bel, h.oth.trans k.oth⟩
theorem Fr.drew {B b : Nat} {u v : World} (h : Fr B b u v) : Fr B b u v.drew := ⟨h.bel.drew, h.oth.drew⟩
theorem Fr.drewN {B b : Nat} {u v : World} (h : Fr B b u v) (n : Nat) : Fr B b u (v.drewN n) := ⟨below_drewN h.bel n, fun k o h1 h2 h3 => h.oth k o h1 h2 h3⟩
theorem Fr.set {B b : Nat} {u v : World} (h : Fr B b u v) (hB : B ≤ b) (i : Nat) (x : Value) : Fr B b u (v.setCell ⟨b, i, none⟩ x) := ⟨h.bel.setCell (p := ⟨b, i, none⟩) hB _, h.oth.setCell ⟨b, i, none⟩ rfl _⟩
theorem Fr.alloc {B b : Nat} {u v : World} (h : Fr B b u v) (hB : B ≤ v.heap.size) (o : Obj) : Fr B b u (v.alloc o) := ⟨h.bel.alloc hB _, h.oth.alloc _⟩

/-! what two conversions of pointers and two builtins come to; the builtins by their numbers (20: a slice's data; 21: a string over bytes) -/

theorem toP (b : Nat) (w : World) (hsh : w.shape? b = some (29, 2)) : (convert 24 40 (.pointer (some ⟨b, 0, none⟩))).run Try.prog w = .ok (.pointer (some ⟨b, 0, none⟩)) w := by
  obtain ⟨j, hj, hjs⟩ := Option.map_eq_some_iff.1 size27
  simp only [convert, run_underlying Try.underlying24, run_underlying Try.underlying40, Sem.run_bind, Result.andThen_ok]
  change Sem.run Try.prog (underlying 24 >>= _) w = _
  simp [run_underlying Try.underlying24, run_underlying Try.underlying40, Conv.seenAt, viewAt, cellsIn, hsh, sizeOf, typeInfo, hj, hjs]

theorem fromP (b : Nat) (w : World) (hsh : w.shape? b = some (29, 2)) : (convert 40 24 (.pointer (some ⟨b, 0, none⟩))).run Try.prog w = .ok (.pointer (some ⟨b, 0, none⟩)) w := by
  obtain ⟨j, hj, hjs⟩ := Option.map_eq_some_iff.1 size27
  simp only [convert, run_underlying Try.underlying24, run_underlying Try.underlying40, Sem.run_bind, Result.andThen_ok]
  change Sem.run Try.prog (underlying 40 >>= _) w = _
  simp [run_underlying Try.underlying24, run_underlying Try.underlying40, Conv.seenAt, viewAt, hsh, variablesAt, lies29, sizeOf, typeInfo, hj]

/-- a builtin that hands back one value: what its dispatch gives is what it gives -/
theorem bi_inv {b : Builtin} {F : Array TypeId → TypeId → Array Value → Sem Value} (hF : ∀ ats ty cs args, builtin b ats ty cs args = (do pure (Next.value (← F ats ty args))))
    {ats : Array TypeId} {ty : TypeId} {args : Array Value} {P : Program} {w w' : World} {v : Value} (h : (builtin b ats ty #[] args).run P w = .ok (Next.value v) w') : (F ats ty args).run P w = .ok v w' := by
  rw [hF, Sem.run_bind] at h
  cases hr : (F ats ty args).run P w <;> rw [hr] at h <;> simp_all [Result.andThen]

theorem sd_row (w : World) (g n cap : Nat) (hc : cap ≠ 0) : (builtin (Builtin.ofNat 20) #[25] 39 #[] #[.slice (some ⟨g, 0, none⟩) n cap]).run Try.prog w = .ok (.value (.pointer (some ⟨g, 0, none⟩))) w := by
  obtain ⟨c, rfl⟩ : ∃ c, cap = c + 1 := ⟨cap - 1, by omega⟩
  rfl

theorem sd_nil (w : World) (n cap : Nat) : (builtin (Builtin.ofNat 20) #[25] 39 #[] #[.slice none n cap]).run Try.prog w = .ok (.value (.pointer none)) w := rfl

theorem sd_zero (w : World) (g n : Nat) (sh : TypeId × Nat) (hsh : w.shape? g = some sh) : (builtin (Builtin.ofNat 20) #[25] 39 #[] #[.slice (some ⟨g, 0, none⟩) n 0]).run Try.prog w = .ok (.value (.pointer (some ⟨w.heap.size, 0, none⟩))) (w.alloc (.view ⟨g, 0, none⟩ 5)) := by
  change Sem.run Try.prog (((viewAt g) >>= _) >>= _) w = _
  simp [viewAt, hsh, elemOf, run_underlying Try.underlying39]

theorem us_none (w : World) (p : Option Addr) : (builtin (Builtin.ofNat 21) #[39, 3] 9 #[] #[.pointer p, .int .i64 0]).run Try.prog w = .ok (.value (.string .empty)) w := by
  have hmax : IntKind.i64.max = 9223372036854775807 := rfl
  cases p with
  | none =>
    change Sem.run Try.prog ((asInt (.int .i64 0) >>= _) >>= _) w = _
    simp [asInt, asIntOf, hmax]
  | some a =>
    change Sem.run Try.prog ((asInt (.int .i64 0) >>= _) >>= _) w = _
    simp [asInt, asIntOf, hmax]

theorem us_row (w : World) (g cells : Nat) (hsh : w.shape? g = some (5, cells)) (l : List UInt8) (h0 : l ≠ []) (hn : l.length ≤ cells) (h63 : l.length ≤ 9223372036854775807)
    (hcell : ∀ j x, l[j]? = some x → w.cell? ((⟨g, 0, none⟩ : Addr).add j) = some (.int .u8 x.toNat)) :
    (builtin (Builtin.ofNat 21) #[39, 3] 9 #[] #[.pointer (some ⟨g, 0, none⟩), .int .i64 l.length]).run Try.prog w = .ok (.value (.string ⟨l.toArray⟩)) (w.freeze ⟨g, 0, none⟩ l.length) := by
  have hl : l.length ≠ 0 := by simpa using h0
  have hlb := Lib.run_loadBytes (P := Try.prog) w l ⟨g, 0, none⟩ .empty hcell
  have hlies := Lib.liesAt_bytes (P := Try.prog) cells5 (cells / Try.prog.cellsOf 5) l.length (by rw [cells5]; simpa using hn)
  have h63' : ¬ (9223372036854775807 : Int) < (l.length : Int) := by omega
  have hmax : IntKind.i64.max = 9223372036854775807 := rfl
  have hneg : ¬ (l.length : Int) < 0 := by omega
  change Sem.run Try.prog ((asInt (.int .i64 l.length) >>= _) >>= _) w = _
  simp [asInt, asIntOf, hmax, h63', hneg, hl, variablesAt, hsh, elemOf, run_underlying Try.underlying39, hlies, hlb]

set_option maxHeartbeats 1000000 in
set_option maxRecDepth 100000 in
theorem check_used (b : Nat) (w : World) (h0 : w.cell? ⟨b, 0, none⟩ = some (.pointer (some ⟨b, 0, none⟩))) :
    Calls Try.prog 13 #[.pointer (some ⟨b, 0, none⟩)] w fun e w' => e = .returned (.tuple #[]) ∧ w' = w := by
  obtain ⟨j, hj, _⟩ := Option.map_eq_some_iff.1 size27
  go_enter Try.func13, Try.ntmps13
  go_wp2
  rw [Lib.run_neq_ptr_same w _ Try.underlying24 hj]
  go_wp2
  go_end0
  exact ⟨rfl, rfl⟩

set_option maxHeartbeats 1000000 in
set_option maxRecDepth 100000 in
theorem check_fresh (b : Nat) (w : World) (h0 : w.cell? ⟨b, 0, none⟩ = some (.pointer none)) (hsh : w.shape? b = some (29, 2)) (hfz : w.frozen? ⟨b, 0, none⟩ = false) :
    Calls Try.prog 13 #[.pointer (some ⟨b, 0, none⟩)] w fun e w' => e = .returned (.tuple #[]) ∧ w' = w.setCell ⟨b, 0, none⟩ (.pointer (some ⟨b, 0, none⟩)) := by
  go_enter Try.func13, Try.ntmps13
  go_wp2
  rw [toP b w hsh]
  simp only [Result.andThen]
  rw [Oper.upon_value]
  go_wp2
  rw [run_callFunc_extern Try.func15 (by kernel_rfl) (by kernel_rfl) (by kernel_rfl) (e := Extern.AbiNoEscape.same) (by kernel_rfl)]
  rw [Lib.run_noEscape]
  simp only [Result.andThen]
  rw [Oper.upon_value]
  go_wp2
  rw [fromP b w hsh]
  simp only [Result.andThen]
  rw [Oper.upon_value]
  go_wp2
  go_end0
  exact ⟨rfl, rfl⟩

theorem check_any (B b : Nat) (bs : List Value) (w : World) (h : Lib.IsBuilderF 29 5 B b bs w) :
    Calls Try.prog 13 #[.pointer (some ⟨b, 0, none⟩)] w fun e w' => e = .returned (.tuple #[]) ∧ (Lib.BuilderAtF 29 5 B b (.pointer (some ⟨b, 0, none⟩)) bs w' ∧ Fr B b w w') := by
  rcases h with h | h
  · refine (check_fresh b w h.cell0 h.shape h.frozen0).mono ?_
    rintro e w' ⟨rfl, rfl⟩
    exact ⟨rfl, h.used _, (Fr.refl B b w).set h.1 0 _⟩
  · refine (check_used b w h.cell0).mono ?_
    rintro e w' ⟨rfl, rfl⟩
    exact ⟨rfl, h, Fr.refl B b _⟩

set_option maxHeartbeats 400000 in
theorem cap_cell (b : Nat) (ao : Option Addr) (n cap : Nat) (w : World) (c1 : w.cell? ⟨b, 1, none⟩ = some (.slice ao n cap)) :
    Calls Try.prog 8 #[.pointer (some ⟨b, 0, none⟩)] w fun e w' => e = .returned (.int .i64 cap) ∧ w' = w := by
  go_enter Try.func8, Try.ntmps8
  go_wp2
  go_ret
  exact ⟨rfl, rfl⟩

set_option maxHeartbeats 400000 in
theorem len_cell (b : Nat) (ao : Option Addr) (n cap : Nat) (w : World) (c1 : w.cell? ⟨b, 1, none⟩ = some (.slice ao n cap)) :
    Calls Try.prog 9 #[.pointer (some ⟨b, 0, none⟩)] w fun e w' => e = .returned (.int .i64 n) ∧ w' = w := by
  go_enter Try.func9, Try.ntmps9
  go_wp2
  go_ret
  exact ⟨rfl, rfl⟩

set_option maxHeartbeats 1000000 in
set_option maxRecDepth 100000 in
theorem write_any (B b : Nat) (bs : List Value) (s : ByteArray) (w : World) (h : Lib.IsBuilderF 29 5 B b bs w) (hlen : bs.length + s.size ≤ 140737488355328) (hBw : B ≤ w.heap.size) :
    Calls Try.prog 11 #[.pointer (some ⟨b, 0, none⟩), .string s] w fun e w' => e = .returned (.tuple #[.int .i64 s.size, .nilIface]) ∧ (Lib.BuilderAtF 29 5 B b (.pointer (some ⟨b, 0, none⟩)) (bs ++ Lib.strCells s) w' ∧ Fr B b w w') := by
  obtain ⟨i0, hi, hz0, hz1, hz2⟩ := info_parts info5
  go_enter Try.func11, Try.ntmps11
  go_wp2_with (go_at_call 13; refine (check_any B b bs _ h).mono ?_)
  rintro e w1 ⟨rfl, h1, hb1⟩
  obtain ⟨hB, v, hbk, hown, hne⟩ := h1
  have c0 : w1.cell? ⟨b, 0, none⟩ = some (.pointer (some ⟨b, 0, none⟩)) := by rw [Lib.cell_of_heap hbk]; rfl
  have c1 : w1.cell? ⟨b, 1, none⟩ = some v := by rw [Lib.cell_of_heap hbk]; rfl
  go_wp2_with (at_builtin; refine Lib.wpList_append_own_stringF _ rfl _ _ 25 9 rfl B 5 i0 Try.underlying25 Try.underlying9 hi hz0 hz1 hz2 _ _ _ rfl hown s rfl ?c3 ?c4 ?c5 ?_)
  case c3 => unfold maxLen; omega
  case c4 => omega
  case c5 => have := hb1.bel.size; omega
  intro v' w2 hown' hgrow _
  have hlt : b < w1.heap.size := by
    rcases Nat.lt_or_ge b w1.heap.size with h' | h'
    · exact h'
    · simp [Array.getElem?_eq_none h'] at hbk
  have hb2 : w2.heap[b]? = some (.cells #[.pointer (some ⟨b, 0, none⟩), v] 29 (0, 0)) := by
    rw [hgrow.block b hlt (fun e => hne e.symm)]
    exact hbk
  have d0 : w2.cell? ⟨b, 0, none⟩ = some (.pointer (some ⟨b, 0, none⟩)) := by rw [Lib.cell_of_heap hb2]; rfl
  have d1 : w2.cell? ⟨b, 1, none⟩ = some v := by rw [Lib.cell_of_heap hb2]; rfl
  have f1 : w2.frozen? ⟨b, 1, none⟩ = false := Lib.frozen_of_heap hb2 1
  obtain ⟨ao, n', cap, rfl⟩ : ∃ ao n' cap, v' = .slice ao n' cap := by
    rcases hown'.2 with ⟨hv, _⟩ | ⟨g, cap, cur, fz, hv, _⟩
    · exact ⟨_, _, _, hv⟩
    · exact ⟨_, _, _, hv⟩
  go_wp2
  go_ret2
  refine ⟨rfl, ?_, ?_⟩
  · exact Lib.BuilderAtF.put (T := 29) (e := 5) hB hb2 (bs' := bs ++ Lib.strCells s) (by simpa [Lib.strCells_length] using hown') (by decide)
  · exact Fr.set ⟨hb1.bel.grown hgrow (by have := hb1.bel.size; omega) (fun k hk => (hown.lt k hk).1), hb1.oth.grown hgrow (Lib.ownsRowF_kind hown)⟩ hB 1 _

end Go.Proofs.Qxb6630632a
