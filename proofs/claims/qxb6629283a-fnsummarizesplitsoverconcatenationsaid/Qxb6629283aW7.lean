import Derived.Test.Qxb6629283aW6
namespace Go.Proofs.Qxb6629283a
open Go.RowKit
set_option linter.unusedVariables false

/-- a Summary that lies in block b -/
structure Got (W : World) (b : Nat) (d o : Int) (us : List Int) (ag : Bool) (ga : Option Addr) (gc : Nat) : Prop where
  row : W.rowIs b 29 4 (sm4 d o (.slice ga us.length gc) ag)
  ints : Ints W ga us
  nil : us = [] → ga = none ∧ gc = 0

theorem Got.later {W W1 : World} {b : Nat} {d o : Int} {us : List Int} {ag : Bool} {ga : Option Addr} {gc : Nat} {B : Nat} (h : Got W b d o us ag ga gc) (hb : Below B W W1) (hB : W.heap.size ≤ B) : Got W1 b d o us ag ga gc :=
  ⟨h.row.of_block (hb.block _ (Nat.lt_of_lt_of_le h.row.lt hB)), h.ints.later hb hB, h.nil⟩

theorem Got.cells {W : World} {b : Nat} {d o : Int} {us : List Int} {ag : Bool} {ga : Option Addr} {gc : Nat} (h : Got W b d o us ag ga gc) :
    W.cell? ⟨b, 0, none⟩ = some (.int .i64 d) ∧ W.cell? ⟨b, 1, none⟩ = some (.int .i64 o) ∧ W.cell? ⟨b, 2, none⟩ = some (.slice ga us.length gc) ∧ W.cell? ⟨b, 3, none⟩ = some (.bool ag) :=
  ⟨h.row.cell (i := 0) (by omega), h.row.cell (i := 1) (by omega), h.row.cell (i := 2) (by omega), h.row.cell (i := 3) (by omega)⟩

/-- behind a call of Summarize and the store of what it gave -/
theorem got_new {w w3 : World} {d o : Nat} {us : List Int} {ag : Bool} {ga : Option Addr} {gc : Nat} (hown : w3.ownsRow w.heap.size 3 1 (.slice ga us.length gc) us.length (us.map (Value.int .i64))) (hnil : us = [] → ga = none ∧ gc = 0) :
    ∃ W0, W0 = w3.alloc (.cells #[.int .i64 d, .int .i64 o, .slice ga us.length gc, .bool ag] 29) ∧ Got W0 w3.heap.size d o us ag ga gc ∧ Below w3.heap.size w3 W0 :=
  ⟨_, rfl, ⟨row4 _ _ _ _ _, (Ints.of_own hown).later ((Below.refl _ _).alloc (Nat.le_refl _) _) (Nat.le_refl _), hnil⟩, (Below.refl _ _).alloc (Nat.le_refl _) _⟩

set_option maxRecDepth 100000 in
set_option maxHeartbeats 4000000 in
theorem walk4 (a : Option Addr) (n cap : Nat) (S : Nat → Int) (V : Nat → ByteArray) (b : Option Addr) (m cb : Nat) (T : Nat → Int) (U : Nat → ByteArray) (x : ByteArray) (w : World) (hm : n ≤ maxLen) (hm' : m ≤ maxLen) (hx : x.size ≤ maxLen) (hnil : a = none → n = 0) (hnil' : b = none → m = 0) (hr : Rw w a n S V) (hs : Rw w b m T U) :
    Calls Try.prog 4 #[.slice a n cap, .slice b m cb, .string x] w (TrueP w) := by
  unfold maxLen at hm hm' hx
  go_enter Try.func4, Try.ntmps4
  go_wp2_with fail
  refine (bound4_any a n cap S V b m cb T U x w hm hm' hx hr hs).mono ?_
  rintro e w' ⟨⟨bb, rfl, hbb⟩, rfl⟩
  cases bb with
  | false =>
    go_wp2
    go_ret
    exact ⟨rfl, Below.refl _ _⟩
  | true =>
    obtain ⟨hn, hn'⟩ := hbb rfl
    clear hbb hm hm'
    by_cases hxs : x.size ≤ 1048576
    · go_wp2_with fail
      refine (bytes_any a n cap S V _ w' hn hr).mono ?_
      rintro e w1 ⟨⟨r, rfl⟩, rfl⟩
      by_cases hrr : r ≤ 1048576
      · go_wp2_with fail
        refine (bytes_any b m cb T U _ w1 hn' hs).mono ?_
        rintro e w0 ⟨⟨r', rfl⟩, rfl⟩
        by_cases hrr' : r' ≤ 1048576
        · go_wp2_with fail
          refine (conv_any a n cap S V w0 hn hnil hr).mono ?_
          rintro e w2 ⟨a2, cap2, rfl, hr2, hb2⟩
          go_wp2_with fail
          refine (sum_any a2 n cap2 S V x w2 (by omega) hr2).mono ?_
          rintro e w3 ⟨ga, gac, rfl, hown3, hnil3, hb3⟩
          obtain ⟨WA, hWA, hGA, hBA⟩ := got_new (d := nDel S V x n) (o := nOth S V x n) (ag := agr S V n) hown3 hnil3
          have hB := (hb2.trans (hb3.mono hb2.size)).trans (hBA.mono (Nat.le_trans hb2.size hb3.size))
          have hrA := hr.later hB (Nat.le_refl _)
          have hsA := hs.later hB (Nat.le_refl _)
          clear hr hs hr2 hown3 hnil3 hb2 hb3 hBA hnil
          go_wp2_with fail
          rw [← hWA]
          clear hWA
          refine (conv_any b m cb T U WA hn' hnil' hsA).mono ?_
          rintro e w5 ⟨b2, cb2, rfl, hs2, hb5⟩
          go_wp2_with fail
          refine (sum_any b2 m cb2 T U x w5 (by omega) hs2).mono ?_
          rintro e w6 ⟨gb, gbc, rfl, hown6, hnil6, hb6⟩
          obtain ⟨WB, hWB, hGB, hBB⟩ := got_new (d := nDel T U x m) (o := nOth T U x m) (ag := agr T U m) hown6 hnil6
          have hBq := (hb5.trans (hb6.mono hb5.size)).trans (hBB.mono (Nat.le_trans hb5.size hb6.size))
          have hrB := hrA.later hBq (Nat.le_refl _)
          have hsB := hsA.later hBq (Nat.le_refl _)
          have hGAB := hGA.later hBq (Nat.le_refl _)
          have hB2 := hB.trans (hBq.mono hB.size)
          clear hrA hsA hs2 hown6 hnil6 hb5 hb6 hBB hnil' hGA hBq hB
          go_wp2_with fail
          rw [← hWB]
          clear hWB
          refine (join_any a n cap S V b m cb T U WB hn hn' hrB hsB).mono ?_
          rintro e w8 ⟨j2, cj2, rfl, hj2, hb8⟩
          go_wp2_with fail
          refine (sum_any j2 (n + m) cj2 (cat n S T) (cat n V U) x w8 (by omega) hj2).mono ?_
          rintro e w9 ⟨gj, gjc, rfl, hown9, hnil9, hb9⟩
          have hdj := nDel_cat n S T V U x m
          have hoj := nOth_cat n S T V U x m
          have huj := und_cat n S T m
          have hpj := agr_cat n S T V U m
          generalize nDel (cat n S T) (cat n V U) x (n + m) = dj at *
          generalize nOth (cat n S T) (cat n V U) x (n + m) = oj at *
          generalize und (cat n S T) (n + m) = uj at *
          generalize agr (cat n S T) (cat n V U) (n + m) = pj at *
          obtain ⟨WC, hWC, hGC, hBC⟩ := got_new (d := dj) (o := oj) (ag := pj) hown9 hnil9
          have hB89 := hb8.trans (hb9.mono hb8.size)
          have hBq := hB89.trans (hBC.mono hB89.size)
          have hrC := hrB.later hBq (Nat.le_refl _)
          have hsC := hsB.later hBq (Nat.le_refl _)
          have hGA9 := hGAB.later hB89 (Nat.le_refl _)
          have hGB9 := hGB.later hB89 (Nat.le_refl _)
          have hGAC := hGA9.later hBC (Nat.le_refl _)
          have hGBC := hGB9.later hBC (Nat.le_refl _)
          have hB3 := hB2.trans (hBq.mono hB2.size)
          have hzA := hGA9.row.lt
          have hzB := hGB9.row.lt
          obtain ⟨ha0, ha1, ha2, ha3⟩ := hGA9.cells
          obtain ⟨hc0, hc1, hc2, hc3⟩ := hGB9.cells
          have hla := und_le S n
          have hlb := und_le T m
          have hda := nDel_nOth_le S V x n
          have hdb := nDel_nOth_le T U x m
          have d1 : (dj : Int) ≤ (nDel S V x n : Int) + (nDel T U x m : Int) := by omega
          have d2 : (nDel S V x n : Int) + (nDel T U x m : Int) ≤ (dj : Int) := by omega
          have o1 : (oj : Int) ≤ (nOth S V x n : Int) + (nOth T U x m : Int) := by omega
          have o2 : (nOth S V x n : Int) + (nOth T U x m : Int) ≤ (oj : Int) := by omega
          have d3 : ((dj : Int) != (nDel S V x n : Int) + (nDel T U x m : Int)) = false := by simp; omega
          have o3 : ((oj : Int) != (nOth S V x n : Int) + (nOth T U x m : Int)) = false := by simp; omega
          have hul : uj.length = (und S n).length + (und T m).length := by rw [huj]; simp
          have l1 : (uj.length : Int) ≤ ((und S n).length : Int) + ((und T m).length : Int) := by omega
          have l2 : ((und S n).length : Int) + ((und T m).length : Int) ≤ (uj.length : Int) := by omega
          have l3 : ((uj.length : Int) != ((und S n).length : Int) + ((und T m).length : Int)) = false := by simp; omega
          have hh1 := hon_sum S V x n
          have hh2 := hon_sum T U x m
          have hh3 := hon_le S n
          have hh4 := hon_le T m
          have HF : Hid ((dj : Int) + oj + uj.length = hon S n + hon T m) := by show (dj : Int) + oj + uj.length = hon S n + hon T m; omega
          have hdl : dj + oj + uj.length ≤ 4194304 := by omega
          clear hh1 hh2
          have Huj : Hid (uj = und S n ++ (und T m).map (· + (n : Int))) := huj
          have Hpj : Hid (pj = (agr S V n && agr T U m && (!any S n || !any T m || eqv (fst S V n) (fst T U m)))) := hpj
          have HWC : Hid (WC = w9.alloc (.cells #[.int .i64 dj, .int .i64 oj, .slice gj uj.length gjc, .bool pj] 29)) := hWC
          have q := fun (w : World) (a : Option Addr) (n c : Nat) => Lib.run_eql_slice_nil w 27 3 a n c 0 0 Try.underlying27
          clear hrB hsB hj2 hb8 hb9 hBC hGB hGAB hBq hB2 hB89 hGA9 hGB9 hdj hoj huj hpj hWC hul hown9
          have hgn : gj.isNone = (((und S n).length : Int) + ((und T m).length : Int) == 0) := by
            by_cases hue : uj = []
            · rw [(hnil9 hue).1]
              have : uj.length = 0 := by simp [hue]
              have : (((und S n).length : Int) + ((und T m).length : Int) == 0) = true := by simp; omega
              rw [this]; rfl
            · have hun : uj.length ≠ 0 := by simpa using hue
              rcases hGC.ints with h0 | ⟨gj, rfl, hcj⟩
              · omega
              have : (((und S n).length : Int) + ((und T m).length : Int) == 0) = false := by simp; omega
              rw [this]; rfl
          clear hnil9
          go_wp2_with fail
          rw [← HWC.out]
          clear HWC hgn q d1 d2 d3 o1 o2 o3 l3 ha0 ha1 ha2 ha3 hc0 hc1 hc2 hc3 hzA hzB
          go_loopw [12] (fun i wr => ∃ k : Nat, k ≤ (und S n).length ∧ i = .int .i64 k ∧ Drawn WC wr) (fun i _ => (und S n).length - (intOf i).toNat)
          case atStart => exact ⟨0, Nat.zero_le _, rfl, Drawn.refl _⟩
          case round =>
            obtain ⟨k, hk, rfl, hdr⟩ := hrel
            have ha2 := (hdr.cell _).trans hGAC.cells.2.2.1
            have hj2 := (hdr.cell _).trans hGC.cells.2.2.1
            by_cases hlt : k < (und S n).length
            · rcases hGC.ints with h0 | ⟨gj, rfl, hcj⟩
              · omega
              rcases hGAC.ints with h0 | ⟨ga, rfl, hca⟩
              · omega
              have h1 := (hdr.cell _).trans (hcj k (by omega))
              have h2 := (hdr.cell _).trans (hca k hlt)
              have hkj : (k : Int) < (uj.length : Int) := by omega
              have e : uj.getD k 0 = (und S n).getD k 0 := by rw [Huj.out]; simp [List.getD, List.getElem?_append_left hlt]
              rw [e] at h1
              clear hcj hca e hGC hGAC hGBC hrC hsC
              go_wp2
              go_quiet (fail)
              go_wp2
              go_roundw
              case rel => exact ⟨k + 1, by omega, by go_num, hdr.more _⟩
              case measure => simp [intOf]; omega
            · clear hj2
              obtain ⟨W2, hW2⟩ : ∃ W2, W2 = wr := ⟨_, rfl⟩
              subst hW2
              go_wp2
              go_loopw [13] (fun i wr => ∃ j : Nat, j ≤ (und T m).length ∧ i = .int .i64 j ∧ Drawn WC wr) (fun i _ => (und T m).length - (intOf i).toNat)
              case atStart => exact ⟨0, Nat.zero_le _, rfl, hdr⟩
              case round =>
                clear hdr ha2
                obtain ⟨j, hj, rfl, hdr⟩ := hrel
                have ha2 := (hdr.cell _).trans hGAC.cells.2.2.1
                have hb2 := (hdr.cell _).trans hGBC.cells.2.2.1
                by_cases hlt : j < (und T m).length
                · have hj2 := (hdr.cell _).trans hGC.cells.2.2.1
                  rcases hGC.ints with h0 | ⟨gj, rfl, hcj⟩
                  · omega
                  rcases hGBC.ints with h0 | ⟨gb, rfl, hcb⟩
                  · omega
                  have h1 := (hdr.cell _).trans (hcj ((und S n).length + j) (by omega))
                  have h2 := (hdr.cell _).trans (hcb j hlt)
                  have hkj : ((und S n).length : Int) + (j : Int) < (uj.length : Int) := by omega
                  have e : uj.getD ((und S n).length + j) 0 = (und T m).getD j 0 + (n : Int) := by
                    rw [Huj.out]; simp [List.getD, hlt]
                  rw [e] at h1
                  obtain ⟨hy0, hy1⟩ := und_getD T m j hlt
                  generalize (und T m).getD j 0 = y at *
                  clear hcj hcb e hGC hGAC hGBC hrC hsC
                  go_wp2
                  go_quiet (fail)
                  go_wp2
                  go_roundw
                  case rel => exact ⟨j + 1, by omega, by go_num, hdr.more _⟩
                  case measure => simp [intOf]; omega
                · clear ha2
                  obtain ⟨W3, hW3⟩ : ∃ W3, W3 = wr := ⟨_, rfl⟩
                  subst hW3
                  have hr3 := hrC.later (hdr.below WC.heap.size) (Nat.le_refl _)
                  have hs3 := hsC.later (hdr.below WC.heap.size) (Nat.le_refl _)
                  obtain ⟨ha0, ha1, ha2, ha3⟩ := (hGAC.later (hdr.below WC.heap.size) (Nat.le_refl _)).cells
                  obtain ⟨hb0, hb1, _, hb3⟩ := (hGBC.later (hdr.below WC.heap.size) (Nat.le_refl _)).cells
                  obtain ⟨hj0, hj1, hj2, hj3⟩ := (hGC.later (hdr.below WC.heap.size) (Nat.le_refl _)).cells
                  have HBel : Hid (Below w0.heap.size w0 W3) := hB3.trans ((hdr.below WC.heap.size).mono hB3.size)
                  clear hGAC hGBC hGC hrC hsC hB3 hdr ha2 l1 l2
                  go_wp2_with fail
                  refine (first_any a n cap S V W3 hn hr3).mono ?_
                  rintro e w0' ⟨rfl, rfl⟩
                  go_wp2_with fail
                  refine (first_any b m cb T U w0' hn' hs3).mono ?_
                  rintro e W3 ⟨rfl, rfl⟩
                  have hcase : (agr S V n = false ∧ any S n = true ∧ false = pj) ∨ (agr S V n = true ∧ agr T U m = false ∧ any S n = false ∧ any T m = true ∧ false = pj) ∨ (agr S V n = true ∧ agr T U m = false ∧ any S n = true ∧ any T m = true ∧ false = pj) ∨
                      (agr S V n = true ∧ agr T U m = true ∧ any S n = false ∧ any T m = false ∧ true = pj) ∨ (agr S V n = true ∧ agr T U m = true ∧ any S n = false ∧ any T m = true ∧ true = pj) ∨ (agr S V n = true ∧ agr T U m = true ∧ any S n = true ∧ any T m = false ∧ true = pj) ∨
                      (agr S V n = true ∧ agr T U m = true ∧ any S n = true ∧ any T m = true ∧ ((fst S V n).toList == (fst T U m).toList) = pj) := ways S T V U n m pj Hpj.out
                  rcases hcase with ⟨c1, c3, rfl⟩ | ⟨c1, c2, c3, c4, rfl⟩ | ⟨c1, c2, c3, c4, rfl⟩ | ⟨c1, c2, c3, c4, rfl⟩ | ⟨c1, c2, c3, c4, rfl⟩ | ⟨c1, c2, c3, c4, rfl⟩ | ⟨c1, c2, c3, c4, c5⟩
                  rotate_right
                  cases pj
                  all_goals
                    go_wp2
                    go_loop [19, 20] (fun h i => ∃ k : Nat, k ≤ n ∧ h = .int .i64 (hon S k) ∧ i = .int .i64 k) (fun _ i => n - (intOf i).toNat)
                    case atStart => exact ⟨0, Nat.zero_le _, rfl, rfl⟩
                    case round =>
                      obtain ⟨k, hk, rfl, rfl⟩ := hrel
                      have hhk := hon_le S k
                      by_cases hlt : k < n
                      · rcases hr3 with h0 | ⟨b', off, rfl, hc⟩
                        · omega
                        have hx1 := (hc k hlt).1
                        clear hc
                        by_cases h2 : S k = 2
                        · have t2 : (S k != 2) = false := by simp [h2]
                          have HE : Hid (hon S (k + 1) = hon S k) := by show hon S (k + 1) = hon S k; simp [hon, h2]
                          clear h2
                          go_wp2
                          go_round
                          case rel => exact ⟨k + 1, by omega, by rw [HE.out], by go_num⟩
                          case measure => simp [intOf]; omega
                        · have t2 : (S k != 2) = true := by simp [h2]
                          have HE : Hid (hon S (k + 1) = hon S k + 1) := by show hon S (k + 1) = hon S k + 1; simp [hon, h2]
                          clear h2
                          go_wp2
                          go_round
                          case rel => exact ⟨k + 1, by omega, by rw [HE.out]; go_num, by go_num⟩
                          case measure => simp [intOf]; omega
                      · have hkn : k = n := by omega
                        subst hkn
                        clear hr3
                        go_wp2
                        go_loop [19, 21] (fun h i => ∃ j : Nat, j ≤ m ∧ h = .int .i64 ((hon S k : Int) + (hon T j : Int)) ∧ i = .int .i64 j) (fun _ i => m - (intOf i).toNat)
                        case atStart => exact ⟨0, Nat.zero_le _, by simp [hon], rfl⟩
                        case round =>
                          obtain ⟨j, hj, rfl, rfl⟩ := hrel
                          have hhj := hon_le T j
                          by_cases hlt : j < m
                          · rcases hs3 with h0 | ⟨b', off, rfl, hc⟩
                            · omega
                            have hx1 := (hc j hlt).1
                            clear hc
                            by_cases h2 : T j = 2
                            · have t2 : (T j != 2) = false := by simp [h2]
                              have HE : Hid (hon T (j + 1) = hon T j) := by show hon T (j + 1) = hon T j; simp [hon, h2]
                              clear h2
                              go_wp2
                              go_round
                              case rel => exact ⟨j + 1, by omega, by rw [HE.out], by go_num⟩
                              case measure => simp [intOf]; omega
                            · have t2 : (T j != 2) = true := by simp [h2]
                              have HE : Hid (hon T (j + 1) = hon T j + 1) := by show hon T (j + 1) = hon T j + 1; simp [hon, h2]
                              clear h2
                              go_wp2
                              go_round
                              case rel => exact ⟨j + 1, by omega, by rw [HE.out]; go_num, by go_num⟩
                              case measure => simp [intOf]; omega
                          · have hjm : j = m := by omega
                            subst hjm
                            go_wp2
                            go_ret
                            exact ⟨ret_bool (by have := HF.out; simp; omega), HBel.out⟩
        · go_wp2
          go_ret
          exact ⟨rfl, Below.refl _ _⟩
      · go_wp2
        go_ret
        exact ⟨rfl, Below.refl _ _⟩
    · go_wp2
      go_ret
      exact ⟨rfl, Below.refl _ _⟩

end Go.Proofs.Qxb6629283a
