import Derived.Test.Qxb6629283aW2
namespace Go.Proofs.Qxb6629283a
open Go.RowKit
set_option linter.unusedVariables false

theorem info3 : (Try.prog.info? 3).map (fun i => (i.zero, i.size, i.bytes)) = some (some (.int .i64 0), 1, 8) := by kernel_rfl

/-- the four cells of a Summary -/
def sm4 (a b : Int) (u : Value) (c : Bool) (j : Nat) : Value := if j = 0 then .int .i64 a else if j = 1 then .int .i64 b else if j = 2 then u else .bool c

structure SmI (w : World) (d o : Nat) (us : List Int) (ag : Bool) (ua : Option Addr) (uc : Nat) (wr : World) : Prop where
  res : wr.rowIs w.heap.size 29 4 (sm4 0 0 (.slice none 0 0) false)
  s : wr.rowIs (w.heap.size + 1) 29 4 (sm4 d o (.slice ua us.length uc) ag)
  own : wr.ownsRow (w.heap.size + 2) 3 1 (.slice ua us.length uc) us.length (us.map (Value.int .i64))
  nil : us = [] → ua = none ∧ uc = 0
  bel : Below w.heap.size w wr

theorem SmI.start (w : World) : SmI w 0 0 [] true none 0
    ((w.alloc (.cells #[.int .i64 0, .int .i64 0, .slice none 0 0, .bool false] 29)).alloc (.cells #[.int .i64 0, .int .i64 0, .slice none 0 0, .bool true] 29)) := by
  refine ⟨(World.rowIs_alloc w #[.int .i64 0, .int .i64 0, .slice none 0 0, .bool false] 29 _ ?_).alloc _, ?_, World.ownsRow_nil _ _ _ _, fun _ => ⟨rfl, rfl⟩, ((Below.refl _ _).alloc (Nat.le_refl _) _).alloc (by simp) _⟩
  · intro i hi
    match i, hi with
    | 0, _ => rfl
    | 1, _ => rfl
    | 2, _ => rfl
    | 3, _ => rfl
  · have := World.rowIs_alloc (w.alloc (.cells #[.int .i64 0, .int .i64 0, .slice none 0 0, .bool false] 29)) #[.int .i64 0, .int .i64 0, .slice none 0 0, .bool true] 29 (sm4 0 0 (.slice none 0 0) true) (by
      intro i hi
      match i, hi with
      | 0, _ => rfl
      | 1, _ => rfl
      | 2, _ => rfl
      | 3, _ => rfl)
    rw [Go.Deep.nblk_alloc] at this
    exact this

section
variable {w : World} {d o : Nat} {us : List Int} {ag : Bool} {ua : Option Addr} {uc : Nat} {wr : World}

theorem SmI.alloc (h : SmI w d o us ag ua uc wr) (x : Obj) : SmI w d o us ag ua uc (wr.alloc x) :=
  ⟨h.res.alloc _, h.s.alloc _, h.own.alloc _, h.nil, h.bel.alloc h.bel.size _⟩

/-- a store into a count or the flag -/
theorem SmI.put (h : SmI w d o us ag ua uc wr) (j : Nat) (v : Value) {d' o' : Nat} {ag' : Bool} (e : ∀ i, i < 4 → (if i = j then v else sm4 d o (.slice ua us.length uc) ag i) = sm4 d' o' (.slice ua us.length uc) ag' i) :
    SmI w d' o' us ag' ua uc (wr.setCell ⟨w.heap.size + 1, j, none⟩ v) :=
  ⟨h.res.setOther (by simp) _, (h.s.set j v).congr e, ownsRow_setCell_below h.own (by show w.heap.size + 1 < w.heap.size + 2; omega) _, h.nil, h.bel.setCell (by show w.heap.size ≤ w.heap.size + 1; omega) _⟩

theorem SmI.setD (h : SmI w d o us ag ua uc wr) : SmI w (d + 1) o us ag ua uc (wr.setCell ⟨w.heap.size + 1, 0, none⟩ (.int .i64 (d + 1))) :=
  h.put 0 _ (fun i _ => by unfold sm4; split <;> simp_all)

theorem SmI.setO (h : SmI w d o us ag ua uc wr) : SmI w d (o + 1) us ag ua uc (wr.setCell ⟨w.heap.size + 1, 1, none⟩ (.int .i64 (o + 1))) :=
  h.put 1 _ (fun i _ => by unfold sm4; split <;> simp_all)

theorem SmI.setA (h : SmI w d o us ag ua uc wr) (b : Bool) : SmI w d o us b ua uc (wr.setCell ⟨w.heap.size + 1, 3, none⟩ (.bool b)) :=
  h.put 3 _ (fun i hi => by
    match i, hi with
    | 0, _ => rfl
    | 1, _ => rfl
    | 2, _ => rfl
    | 3, _ => rfl)

theorem SmI.app (h : SmI w d o us ag ua uc wr) {w1 : World} {v' : Value} {k : Int} (ho : w1.ownsRow (w.heap.size + 2) 3 1 v' (us.length + 1) (us.map (Value.int .i64) ++ [.int .i64 k]))
    (hg : wr.grownBy w1 (Value.slice ua us.length uc).ownBlock) :
    ∃ g c, v' = .slice (some ⟨g, 0, none⟩) (us.length + 1) c ∧ SmI w d o (us ++ [k]) ag (some ⟨g, 0, none⟩) c (w1.setCell ⟨w.heap.size + 1, 2, none⟩ (.slice (some ⟨g, 0, none⟩) (us.length + 1) c)) ∧
      w1.rowIs (w.heap.size + 1) 29 4 (sm4 d o (.slice ua us.length uc) ag) := by
  have hlt := h.own.lt
  have hwz := h.s.lt
  rcases ho.2 with ⟨_, h0⟩ | ⟨g, c, cur, rfl, hb, hh⟩
  · omega
  have hs := h.s.of_block (w' := w1) (hg.block _ hwz (fun e => by have := (hlt _ e.symm).1; omega))
  have hr := h.res.of_block (w' := w1) (hg.block _ h.res.lt (fun e => by have := (hlt _ e.symm).1; omega))
  refine ⟨g, c, rfl, ⟨hr.setOther (by simp) _, (hs.set 2 _).congr (fun i _ => ?_), ?_, fun e => by simp at e, ?_⟩, hs⟩
  · unfold sm4; split <;> simp_all
  · have := ownsRow_setCell_below ho (a := ⟨w.heap.size + 1, 2, none⟩) (by show w.heap.size + 1 < w.heap.size + 2; omega) (.slice (some ⟨g, 0, none⟩) (us.length + 1) c)
    simpa using this
  · refine (h.bel.grown hg h.bel.size (fun k hk => by have := (hlt _ hk).1; omega)).setCell (by show w.heap.size ≤ w.heap.size + 1; omega) _

theorem SmI.cells (h : SmI w d o us ag ua uc wr) : wr.cell? ⟨w.heap.size + 1, 0, none⟩ = some (.int .i64 d) ∧ wr.cell? ⟨w.heap.size + 1, 1, none⟩ = some (.int .i64 o) ∧
    wr.cell? ⟨w.heap.size + 1, 2, none⟩ = some (.slice ua us.length uc) ∧ wr.cell? ⟨w.heap.size + 1, 3, none⟩ = some (.bool ag) :=
  ⟨h.s.cell (i := 0) (by omega), h.s.cell (i := 1) (by omega), h.s.cell (i := 2) (by omega), h.s.cell (i := 3) (by omega)⟩

theorem SmI.rcells (h : SmI w d o us ag ua uc wr) : wr.cell? ⟨w.heap.size, 0, none⟩ = some (.int .i64 0) ∧ wr.cell? ⟨w.heap.size, 1, none⟩ = some (.int .i64 0) ∧
    wr.cell? ⟨w.heap.size, 2, none⟩ = some (.slice none 0 0) ∧ wr.cell? ⟨w.heap.size, 3, none⟩ = some (.bool false) :=
  ⟨h.res.cell (i := 0) (by omega), h.res.cell (i := 1) (by omega), h.res.cell (i := 2) (by omega), h.res.cell (i := 3) (by omega)⟩

end

def SumP (S : Nat → Int) (V : Nat → ByteArray) (x : ByteArray) (n : Nat) (w : World) (e : Ending) (w' : World) : Prop :=
  ∃ ua uc, e = .returned (.agg #[.int .i64 (nDel S V x n), .int .i64 (nOth S V x n), .slice ua (und S n).length uc, .bool (agr S V n)]) ∧
    w'.ownsRow w.heap.size 3 1 (.slice ua (und S n).length uc) (und S n).length ((und S n).map (Value.int .i64)) ∧ (und S n = [] → ua = none ∧ uc = 0) ∧ Below w.heap.size w w'

theorem ownsRow_base {w : World} {b b' : Nat} {e : TypeId} {size : Nat} {v : Value} {n : Nat} {xs : List Value} (h : w.ownsRow b e size v n xs) (hb : b' ≤ b) : w.ownsRow b' e size v n xs := by
  refine ⟨h.1, ?_⟩
  rcases h.2 with h | ⟨g, c, cur, h1, h2, h3⟩
  · exact .inl h
  · exact .inr ⟨g, c, cur, h1, by omega, h3⟩

set_option maxHeartbeats 400000 in
theorem sum_any (a : Option Addr) (n cap : Nat) (S : Nat → Int) (V : Nat → ByteArray) (x : ByteArray) (w : World) (hn : n ≤ 4194304) (hr : Rw w a n S V) :
    Calls Try.prog 8 #[.slice a n cap, .string x] w (SumP S V x n w) := by
  obtain ⟨i0, hi, hz0, hz1, hz2⟩ := info_parts info3
  have hst := SmI.start w
  go_enter Try.func8, Try.ntmps8
  go_wp2
  go_loopw [6, 12] (fun f i wr => ∃ k ua uc, k ≤ n ∧ i = .int .i64 (k : Nat) ∧ f = .string (fst S V k) ∧ SmI w (nDel S V x k) (nOth S V x k) (und S k) (agr S V k) ua uc wr) (fun _ i _ => n - (intOf i).toNat)
  case atStart => exact ⟨0, none, 0, Nat.zero_le _, rfl, rfl, hst⟩
  case round =>
    obtain ⟨k, ua, uc, hk, rfl, rfl, hI⟩ := hrel
    clear hst
    by_cases hlt : k < n
    · have hr1 := hr.later hI.bel (Nat.le_refl _)
      rcases hr1 with h0 | ⟨b, off, rfl, hc⟩
      · omega
      obtain ⟨hc1, hc2⟩ := hc k hlt
      clear hc hr
      by_cases h2 : S k = 2
      · have t2 : (S k == 2) = true := by simpa using h2
        obtain ⟨e1, e2, e3, e4, _⟩ := step_no (V := V) (x := x) (dlv_2 h2)
        have HI : SmI w (nDel S V x (k + 1)) (nOth S V x (k + 1)) (und S (k + 1)) (agr S V (k + 1)) ua uc wr := by rw [e1, e2, e3, und_no (by omega)]; exact hI
        have He : Hid (fst S V (k + 1) = fst S V k) := e4
        clear h2 e1 e2 e3 e4 hI
        go_wp2
        go_roundw
        case rel => exact ⟨k + 1, ua, uc, by omega, by go_num, by rw [He.out], HI.alloc _⟩
        case measure => simp [intOf]; omega
      · have t2 : (S k == 2) = false := by simpa using h2
        have hz : w.heap.size + 1 < wr.heap.size := hI.s.lt
        obtain ⟨hs0, hs1, hs2, hs3⟩ := hI.cells
        have hf0 := hI.s.frozen 0
        have hf1 := hI.s.frozen 1
        have hf2 := hI.s.frozen 2
        have hf3 := hI.s.frozen 3
        by_cases h0 : S k = 0
        · have t0 : (S k == 0) = true := by simpa using h0
          obtain ⟨e1, e2, e3, e4, _⟩ := step_no (V := V) (x := x) (dlv_0 h0)
          have HE : Hid (nDel S V x (k + 1) = nDel S V x k ∧ nOth S V x (k + 1) = nOth S V x k ∧ agr S V (k + 1) = agr S V k ∧ fst S V (k + 1) = fst S V k ∧ und S (k + 1) = und S k ++ [(k : Int)]) := ⟨e1, e2, e3, e4, und_yes h0⟩
          clear h2 h0 e1 e2 e3 e4
          have hul := und_le S k
          go_wp2_with (first
            | (at_builtin; refine wpList_append_own _ rfl _ _ 27 rfl (w.heap.size + 2) 3 i0 (.int .i64 0) 1 8 Try.underlying27 hi hz0 hz1 hz2 rfl (by decide) _ _ _ rfl ((hI.own.alloc _).alloc _) ⟨wr.heap.size + 1, 0, none⟩ 1 1 [.int .i64 (k : Int)] rfl rfl ?c1 (ints_oneCell .i64 [(k : Int)]) (by unfold maxLen; omega) (by omega) (by simp; omega) ?_))
          case c1 =>
            have := cell_one_new (wr.alloc (.cells #[.int .i8 (S k), .string (V k)] 42)) (.int .i64 (k : Int)) 3
            simpa using this
          · intro v' w1 hown' hgrow _
            obtain ⟨g, c, hv, hN, hrow⟩ := ((hI.alloc _).alloc _).app hown' hgrow
            have hx2 : w1.cell? ⟨w.heap.size + 1, 2, none⟩ = some (.slice ua (und S k).length uc) := hrow.cell (i := 2) (by omega)
            have hfx2 := hrow.frozen 2
            rw [hv]
            clear hv hrow hown' hgrow hI hs0 hs1 hs2 hs3 hf0 hf1 hf2 hf3
            go_wp2
            go_roundw
            case rel =>
              obtain ⟨e1, e2, e3, e4, e5⟩ := HE.out
              refine ⟨k + 1, some ⟨g, 0, none⟩, c, by omega, by go_num, by rw [e4], ?_⟩
              rw [e1, e2, e3, e5]
              exact hN
            case measure => simp [intOf]; omega
        · have t0 : (S k == 0) = false := by simpa using h0
          have hdv := dlv_1 h0 h2
          have hbd := nDel_nOth_le S V x k
          have hbd1 : (nDel S V x k : Int) + (nOth S V x k : Int) ≤ 4194304 := by omega
          clear hbd h0 h2
          have hu := und_no (S := S) (k := k) (by simpa using t0)
          cases han : any S k with
          | false =>
            cases hev : eqv (V k) x with
            | false =>
              cases hag : agr S V k with
              | false =>
                have hsum := any_no (V := V) (x := x) han
                obtain ⟨e4, e5⟩ := step_first (V := V) hdv han
                have heq : ((V k).toList == x.toList) = false := hev
                obtain ⟨e1, e2⟩ := step_oth (x := x) hdv hev
                have e6 : agr S V (k + 1) = false := by rw [e5, hag]
                have hN : Hid (SmI w (nDel S V x (k + 1)) (nOth S V x (k + 1)) (und S (k + 1)) (agr S V (k + 1)) ua uc _ ∧ fst S V (k + 1) = V k) := ⟨by rw [e1, e2, hu, e6]; exact (hI.setO.setA false).alloc (.cells #[.int .i8 (S k), .string (V k)] 42), e4⟩
                clear e1 e2 e4 e5 e6 hI hu hev han hdv
                go_wp2
                go_roundw
                case rel => exact ⟨k + 1, ua, uc, by omega, by go_num, by rw [hN.out.2], hN.out.1⟩
                case measure => simp [intOf]; omega
              | true =>
                have hsum := any_no (V := V) (x := x) han
                obtain ⟨e4, e5⟩ := step_first (V := V) hdv han
                have heq : ((V k).toList == x.toList) = false := hev
                obtain ⟨e1, e2⟩ := step_oth (x := x) hdv hev
                have e6 : agr S V (k + 1) = true := by rw [e5, hag]
                have hN : Hid (SmI w (nDel S V x (k + 1)) (nOth S V x (k + 1)) (und S (k + 1)) (agr S V (k + 1)) ua uc _ ∧ fst S V (k + 1) = V k) := ⟨by rw [e1, e2, hu, e6]; exact (hI.setO.setA true).alloc (.cells #[.int .i8 (S k), .string (V k)] 42), e4⟩
                clear e1 e2 e4 e5 e6 hI hu hev han hdv
                go_wp2
                go_roundw
                case rel => exact ⟨k + 1, ua, uc, by omega, by go_num, by rw [hN.out.2], hN.out.1⟩
                case measure => simp [intOf]; omega
            | true =>
              cases hag : agr S V k with
              | false =>
                have hsum := any_no (V := V) (x := x) han
                obtain ⟨e4, e5⟩ := step_first (V := V) hdv han
                have heq : ((V k).toList == x.toList) = true := hev
                obtain ⟨e1, e2⟩ := step_del (x := x) hdv hev
                have e6 : agr S V (k + 1) = false := by rw [e5, hag]
                have hN : Hid (SmI w (nDel S V x (k + 1)) (nOth S V x (k + 1)) (und S (k + 1)) (agr S V (k + 1)) ua uc _ ∧ fst S V (k + 1) = V k) := ⟨by rw [e1, e2, hu, e6]; exact (hI.setD.setA false).alloc (.cells #[.int .i8 (S k), .string (V k)] 42), e4⟩
                clear e1 e2 e4 e5 e6 hI hu hev han hdv
                go_wp2
                go_roundw
                case rel => exact ⟨k + 1, ua, uc, by omega, by go_num, by rw [hN.out.2], hN.out.1⟩
                case measure => simp [intOf]; omega
              | true =>
                have hsum := any_no (V := V) (x := x) han
                obtain ⟨e4, e5⟩ := step_first (V := V) hdv han
                have heq : ((V k).toList == x.toList) = true := hev
                obtain ⟨e1, e2⟩ := step_del (x := x) hdv hev
                have e6 : agr S V (k + 1) = true := by rw [e5, hag]
                have hN : Hid (SmI w (nDel S V x (k + 1)) (nOth S V x (k + 1)) (und S (k + 1)) (agr S V (k + 1)) ua uc _ ∧ fst S V (k + 1) = V k) := ⟨by rw [e1, e2, hu, e6]; exact (hI.setD.setA true).alloc (.cells #[.int .i8 (S k), .string (V k)] 42), e4⟩
                clear e1 e2 e4 e5 e6 hI hu hev han hdv
                go_wp2
                go_roundw
                case rel => exact ⟨k + 1, ua, uc, by omega, by go_num, by rw [hN.out.2], hN.out.1⟩
                case measure => simp [intOf]; omega
          | true =>
            cases hev : eqv (V k) x with
            | false =>
              cases hag : agr S V k with
              | false =>
                cases hfe : eqv (V k) (fst S V k) with
                | false =>
                  have hsum := any_yes (V := V) (x := x) han
                  obtain ⟨e4, e5⟩ := step_later (V := V) hdv han
                  have heq : ((V k).toList == x.toList) = false := hev
                  have heq2 : ((V k).toList == (fst S V k).toList) = false := hfe
                  obtain ⟨e1, e2⟩ := step_oth (x := x) hdv hev
                  have e6 : agr S V (k + 1) = false := by rw [e5, hag]; rfl
                  have hN : Hid (SmI w (nDel S V x (k + 1)) (nOth S V x (k + 1)) (und S (k + 1)) (agr S V (k + 1)) ua uc _ ∧ fst S V (k + 1) = fst S V k) := ⟨by rw [e1, e2, hu, e6]; exact (hI.setO.setA false).alloc (.cells #[.int .i8 (S k), .string (V k)] 42), e4⟩
                  clear e1 e2 e4 e5 e6 hI hu hev han hdv hfe
                  go_wp2
                  go_roundw
                  case rel => exact ⟨k + 1, ua, uc, by omega, by go_num, by rw [hN.out.2], hN.out.1⟩
                  case measure => simp [intOf]; omega
                | true =>
                  have hsum := any_yes (V := V) (x := x) han
                  obtain ⟨e4, e5⟩ := step_later (V := V) hdv han
                  have heq : ((V k).toList == x.toList) = false := hev
                  have heq2 : ((V k).toList == (fst S V k).toList) = true := hfe
                  obtain ⟨e1, e2⟩ := step_oth (x := x) hdv hev
                  have e6 : agr S V (k + 1) = false := by rw [e5, hag]; rfl
                  have hN : Hid (SmI w (nDel S V x (k + 1)) (nOth S V x (k + 1)) (und S (k + 1)) (agr S V (k + 1)) ua uc _ ∧ fst S V (k + 1) = fst S V k) := ⟨by rw [e1, e2, hu, e6]; exact (hI.setO.setA false).alloc (.cells #[.int .i8 (S k), .string (V k)] 42), e4⟩
                  clear e1 e2 e4 e5 e6 hI hu hev han hdv hfe
                  go_wp2
                  go_roundw
                  case rel => exact ⟨k + 1, ua, uc, by omega, by go_num, by rw [hN.out.2], hN.out.1⟩
                  case measure => simp [intOf]; omega
              | true =>
                cases hfe : eqv (V k) (fst S V k) with
                | false =>
                  have hsum := any_yes (V := V) (x := x) han
                  obtain ⟨e4, e5⟩ := step_later (V := V) hdv han
                  have heq : ((V k).toList == x.toList) = false := hev
                  have heq2 : ((V k).toList == (fst S V k).toList) = false := hfe
                  obtain ⟨e1, e2⟩ := step_oth (x := x) hdv hev
                  have e6 : agr S V (k + 1) = false := by rw [e5, hag]; simp [hfe]
                  have hN : Hid (SmI w (nDel S V x (k + 1)) (nOth S V x (k + 1)) (und S (k + 1)) (agr S V (k + 1)) ua uc _ ∧ fst S V (k + 1) = fst S V k) := ⟨by rw [e1, e2, hu, e6]; exact (hI.setO.setA false).alloc (.cells #[.int .i8 (S k), .string (V k)] 42), e4⟩
                  clear e1 e2 e4 e5 e6 hI hu hev han hdv hfe
                  go_wp2
                  go_roundw
                  case rel => exact ⟨k + 1, ua, uc, by omega, by go_num, by rw [hN.out.2], hN.out.1⟩
                  case measure => simp [intOf]; omega
                | true =>
                  have hsum := any_yes (V := V) (x := x) han
                  obtain ⟨e4, e5⟩ := step_later (V := V) hdv han
                  have heq : ((V k).toList == x.toList) = false := hev
                  have heq2 : ((V k).toList == (fst S V k).toList) = true := hfe
                  obtain ⟨e1, e2⟩ := step_oth (x := x) hdv hev
                  have e6 : agr S V (k + 1) = true := by rw [e5, hag]; simp [hfe]
                  have hN : Hid (SmI w (nDel S V x (k + 1)) (nOth S V x (k + 1)) (und S (k + 1)) (agr S V (k + 1)) ua uc _ ∧ fst S V (k + 1) = fst S V k) := ⟨by rw [e1, e2, hu, e6]; exact (hI.setO.setA true).alloc (.cells #[.int .i8 (S k), .string (V k)] 42), e4⟩
                  clear e1 e2 e4 e5 e6 hI hu hev han hdv hfe
                  go_wp2
                  go_roundw
                  case rel => exact ⟨k + 1, ua, uc, by omega, by go_num, by rw [hN.out.2], hN.out.1⟩
                  case measure => simp [intOf]; omega
            | true =>
              cases hag : agr S V k with
              | false =>
                cases hfe : eqv (V k) (fst S V k) with
                | false =>
                  have hsum := any_yes (V := V) (x := x) han
                  obtain ⟨e4, e5⟩ := step_later (V := V) hdv han
                  have heq : ((V k).toList == x.toList) = true := hev
                  have heq2 : ((V k).toList == (fst S V k).toList) = false := hfe
                  obtain ⟨e1, e2⟩ := step_del (x := x) hdv hev
                  have e6 : agr S V (k + 1) = false := by rw [e5, hag]; rfl
                  have hN : Hid (SmI w (nDel S V x (k + 1)) (nOth S V x (k + 1)) (und S (k + 1)) (agr S V (k + 1)) ua uc _ ∧ fst S V (k + 1) = fst S V k) := ⟨by rw [e1, e2, hu, e6]; exact (hI.setD.setA false).alloc (.cells #[.int .i8 (S k), .string (V k)] 42), e4⟩
                  clear e1 e2 e4 e5 e6 hI hu hev han hdv hfe
                  go_wp2
                  go_roundw
                  case rel => exact ⟨k + 1, ua, uc, by omega, by go_num, by rw [hN.out.2], hN.out.1⟩
                  case measure => simp [intOf]; omega
                | true =>
                  have hsum := any_yes (V := V) (x := x) han
                  obtain ⟨e4, e5⟩ := step_later (V := V) hdv han
                  have heq : ((V k).toList == x.toList) = true := hev
                  have heq2 : ((V k).toList == (fst S V k).toList) = true := hfe
                  obtain ⟨e1, e2⟩ := step_del (x := x) hdv hev
                  have e6 : agr S V (k + 1) = false := by rw [e5, hag]; rfl
                  have hN : Hid (SmI w (nDel S V x (k + 1)) (nOth S V x (k + 1)) (und S (k + 1)) (agr S V (k + 1)) ua uc _ ∧ fst S V (k + 1) = fst S V k) := ⟨by rw [e1, e2, hu, e6]; exact (hI.setD.setA false).alloc (.cells #[.int .i8 (S k), .string (V k)] 42), e4⟩
                  clear e1 e2 e4 e5 e6 hI hu hev han hdv hfe
                  go_wp2
                  go_roundw
                  case rel => exact ⟨k + 1, ua, uc, by omega, by go_num, by rw [hN.out.2], hN.out.1⟩
                  case measure => simp [intOf]; omega
              | true =>
                cases hfe : eqv (V k) (fst S V k) with
                | false =>
                  have hsum := any_yes (V := V) (x := x) han
                  obtain ⟨e4, e5⟩ := step_later (V := V) hdv han
                  have heq : ((V k).toList == x.toList) = true := hev
                  have heq2 : ((V k).toList == (fst S V k).toList) = false := hfe
                  obtain ⟨e1, e2⟩ := step_del (x := x) hdv hev
                  have e6 : agr S V (k + 1) = false := by rw [e5, hag]; simp [hfe]
                  have hN : Hid (SmI w (nDel S V x (k + 1)) (nOth S V x (k + 1)) (und S (k + 1)) (agr S V (k + 1)) ua uc _ ∧ fst S V (k + 1) = fst S V k) := ⟨by rw [e1, e2, hu, e6]; exact (hI.setD.setA false).alloc (.cells #[.int .i8 (S k), .string (V k)] 42), e4⟩
                  clear e1 e2 e4 e5 e6 hI hu hev han hdv hfe
                  go_wp2
                  go_roundw
                  case rel => exact ⟨k + 1, ua, uc, by omega, by go_num, by rw [hN.out.2], hN.out.1⟩
                  case measure => simp [intOf]; omega
                | true =>
                  have hsum := any_yes (V := V) (x := x) han
                  obtain ⟨e4, e5⟩ := step_later (V := V) hdv han
                  have heq : ((V k).toList == x.toList) = true := hev
                  have heq2 : ((V k).toList == (fst S V k).toList) = true := hfe
                  obtain ⟨e1, e2⟩ := step_del (x := x) hdv hev
                  have e6 : agr S V (k + 1) = true := by rw [e5, hag]; simp [hfe]
                  have hN : Hid (SmI w (nDel S V x (k + 1)) (nOth S V x (k + 1)) (und S (k + 1)) (agr S V (k + 1)) ua uc _ ∧ fst S V (k + 1) = fst S V k) := ⟨by rw [e1, e2, hu, e6]; exact (hI.setD.setA true).alloc (.cells #[.int .i8 (S k), .string (V k)] 42), e4⟩
                  clear e1 e2 e4 e5 e6 hI hu hev han hdv hfe
                  go_wp2
                  go_roundw
                  case rel => exact ⟨k + 1, ua, uc, by omega, by go_num, by rw [hN.out.2], hN.out.1⟩
                  case measure => simp [intOf]; omega
    · have hkn : k = n := by omega
      subst hkn
      obtain ⟨hs0, hs1, hs2, hs3⟩ := hI.cells
      obtain ⟨hd0, hd1, hd2, hd3⟩ := hI.rcells
      have hf0 := hI.res.frozen 0
      have hf1 := hI.res.frozen 1
      have hf2 := hI.res.frozen 2
      have hf3 := hI.res.frozen 3
      have hown := hI.own
      have hnil := hI.nil
      have hbel := hI.bel
      have hz := hI.res.lt
      clear hI
      go_wp2
      refine bodyPost_ret (v := .agg #[.int .i64 (nDel S V x k), .int .i64 (nOth S V x k), .slice ua (und S k).length uc, .bool (agr S V k)]) (by simp [results, Try.results8, go_sem, hd0, hd1, hd2, hd3]) rfl ⟨ua, uc, rfl, ?_, hnil, ?_⟩
      · refine ownsRow_base ?_ (Nat.le_add_right _ 2)
        exact ownsRow_setCell_below (ownsRow_setCell_below (ownsRow_setCell_below (ownsRow_setCell_below hown (by simp) _) (by simp) _) (by simp) _) (by simp) _
      · exact (((hbel.setCell (by simp) _).setCell (by simp) _).setCell (by simp) _).setCell (by simp) _

end Go.Proofs.Qxb6629283a
