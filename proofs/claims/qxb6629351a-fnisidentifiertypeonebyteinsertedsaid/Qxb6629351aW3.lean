import Derived.Test.Qxb6629351aW2
import Derived.Test.Qxb6629351aPlain2
namespace Go.Proofs.Qxb6629351a
open Go.RowKit
set_option linter.unusedVariables false

theorem word_no {c : Int} (h0 : 0 ≤ c) (h1 : c ≤ 255) (h : wordB c = false) (w : World) : Calls Try.prog 11 #[.int .u8 c] w fun e w' => e = .returned (.bool false) ∧ w' = w :=
  (word_any c h0 h1 w).mono fun e w' ⟨a, b⟩ => ⟨by rw [a, h], b⟩
theorem word_yes {c : Int} (h0 : 0 ≤ c) (h1 : c ≤ 255) (h : wordB c = true) (w : World) : Calls Try.prog 11 #[.int .u8 c] w fun e w' => e = .returned (.bool true) ∧ w' = w :=
  (word_any c h0 h1 w).mono fun e w' ⟨a, b⟩ => ⟨by rw [a, h], b⟩

theorem zz_any (t : ByteArray) (w : World) (ht : t.size ≤ 1048576) :
    Calls Try.prog 6 #[.string t] w fun e w' => e = .returned (.bool (idt t.data.toList)) ∧ Below w.heap.size w w' := by
  go_enter Try.func6, Try.ntmps6
  go_wp2_with fail
  refine (idt_any t w ht).mono ?_
  rintro e w1 ⟨rfl, hb⟩
  go_wp2
  go_ret
  exact ⟨rfl, hb⟩

theorem aut_cut (t : ByteArray) (k : Nat) (h : k < t.size) (s s' : Int) (hs : aut 0 (t.data.toList.take k) = some s) : aut 0 (t.data.toList.take (k + 1)) = aut s [t[k]] := by
  have e : t.data.toList.take (k + 1) = t.data.toList.take k ++ [t[k]] := by
    rw [List.take_add_one, get_list t k h]; rfl
  rw [e, aut_append, hs]; rfl

theorem aut_stop (t : ByteArray) (k : Nat) (h : aut 0 (t.data.toList.take k) = none) : acc t.data.toList = false := by
  have : aut 0 t.data.toList = none := by
    rw [← List.take_append_drop k t.data.toList, aut_append, h]; rfl
  simp [acc, this]

set_option maxHeartbeats 400000 in
theorem aut_any (t : ByteArray) (w : World) (ht : t.size ≤ 1048576) :
    Calls Try.prog 7 #[.string t] w fun e w' => e = .returned (.bool (acc t.data.toList)) ∧ w' = w := by
  go_enter Try.func7, Try.ntmps7
  go_wp2
  go_loop [3, 4] (fun s i => ∃ (k : Nat) (st : Int), k ≤ t.size ∧ s = .int .i64 st ∧ i = .int .i64 k ∧ aut 0 (t.data.toList.take k) = some st) (fun _ i => t.size - (intOf i).toNat)
  case atStart => exact ⟨0, 0, Nat.zero_le _, rfl, rfl, rfl⟩
  case round =>
    obtain ⟨k, st, hk, rfl, rfl, ha⟩ := hrel
    by_cases hlt : k < t.size
    · obtain ⟨hb0, hb1⟩ := num_bd t[k]
      have hn : (t[k].toNat : Int) = num t[k] := rfl
      have hcut := aut_cut t k hlt st 0 ha
      simp only [aut] at hcut
      have hst := aut_stop t (k + 1)
      rw [hcut] at hst
      cases hw : wordB (num t[k]) with
      | true =>
        have HN : Hid (aut 0 (t.data.toList.take (k + 1)) = some 1) := by show aut 0 (t.data.toList.take (k + 1)) = some 1; rw [hcut, if_pos hw]
        clear hcut hst ha hn
        go_wp2_with (go_at_call 11; refine (word_yes (c := num t[k]) hb0 hb1 hw _).mono ?_; rintro e w' ⟨rfl, rfl⟩)
        go_round
        case rel => exact ⟨k + 1, 1, by omega, rfl, by go_num, HN.out⟩
        case measure => simp [intOf]; omega
      | false =>
        by_cases h45 : num t[k] = 45
        · have q1 : ((t[k].toNat : Int) == 45) = true := by simpa [num] using h45
          by_cases hs0 : st = 0
          · have q2 : (st != 0) = false := by simp [hs0]
            have HN : Hid (acc t.data.toList = false) := hst (by rw [if_neg (by simp [hw]), if_neg (fun h => h.2 hs0)])
            clear hcut hst ha hn h45 hs0
            go_wp2_with (go_at_call 11; refine (word_no (c := num t[k]) hb0 hb1 hw _).mono ?_; rintro e w' ⟨rfl, rfl⟩)
            go_ret
            exact ⟨ret_bool HN.out.symm, rfl⟩
          · have q2 : (st != 0) = true := by simp [hs0]
            have HN : Hid (aut 0 (t.data.toList.take (k + 1)) = some 2) := by show aut 0 (t.data.toList.take (k + 1)) = some 2; rw [hcut, if_neg (by simp [hw]), if_pos ⟨h45, hs0⟩]
            clear hcut hst ha hn h45 hs0
            go_wp2_with (go_at_call 11; refine (word_no (c := num t[k]) hb0 hb1 hw _).mono ?_; rintro e w' ⟨rfl, rfl⟩)
            go_round
            case rel => exact ⟨k + 1, 2, by omega, rfl, by go_num, HN.out⟩
            case measure => simp [intOf]; omega
        · have q1 : ((t[k].toNat : Int) == 45) = false := by simpa [num] using h45
          have HN : Hid (acc t.data.toList = false) := hst (by rw [if_neg (by simp [hw]), if_neg (fun h => h45 h.1)])
          clear hcut hst ha hn h45
          go_wp2_with (go_at_call 11; refine (word_no (c := num t[k]) hb0 hb1 hw _).mono ?_; rintro e w' ⟨rfl, rfl⟩)
          go_ret
          exact ⟨ret_bool HN.out.symm, rfl⟩
    · have HN : Hid (acc t.data.toList = (st == 1)) := by
        show acc t.data.toList = (st == 1)
        rw [List.take_of_length_le (by simp; omega)] at ha
        simp [acc, ha]
      clear ha
      go_wp2
      go_ret
      exact ⟨ret_bool HN.out.symm, rfl⟩

/-- what a bound test comes to: some Bool; the world stands -/
def Bd (w : World) (e : Ending) (w' : World) : Prop := (∃ b : Bool, e = .returned (.bool b)) ∧ w' = w

set_option maxHeartbeats 400000 in
theorem bound3_any (a b : ByteArray) (w : World) (ha : a.size ≤ maxLen) (hb : b.size ≤ maxLen) : Calls Try.prog 5 #[.string a, .string b] w (Bd w) := by
  unfold maxLen at ha hb
  go_enter Try.func5, Try.ntmps5
  go_wp2
  all_goals
    go_ret
    exact ⟨⟨_, rfl⟩, rfl⟩

set_option maxHeartbeats 400000 in
theorem bound4_any (a : ByteArray) (i : Int) (w : World) (ha : a.size ≤ maxLen) : Calls Try.prog 8 #[.string a, .int .i64 i] w (Bd w) := by
  unfold maxLen at ha
  go_enter Try.func8, Try.ntmps8
  go_wp2
  all_goals
    go_ret
    exact ⟨⟨_, rfl⟩, rfl⟩

theorem aut_any' (t : ByteArray) (w : World) (ht : t.size ≤ 1048576) :
    Calls Try.prog 7 #[.string t] w fun e w' => e = .returned (.bool (idt t.data.toList)) ∧ w' = w :=
  (aut_any t w ht).mono fun e w' ⟨a, b⟩ => ⟨by rw [a, acc_idt], b⟩

theorem zz_eq (t : ByteArray) (w : World) (ht : t.size ≤ 1048576) {p : Bool} (hp : idt t.data.toList = p) :
    Calls Try.prog 6 #[.string t] w fun e w' => e = .returned (.bool p) ∧ Below w.heap.size w w' := by rw [← hp]; exact zz_any t w ht

theorem aut_eq (t : ByteArray) (w : World) (ht : t.size ≤ 1048576) {p : Bool} (hp : idt t.data.toList = p) :
    Calls Try.prog 7 #[.string t] w fun e w' => e = .returned (.bool p) ∧ w' = w := by rw [← hp]; exact aut_any' t w ht

theorem empty_of (a : ByteArray) (h : a.size = 0) : a.toList.isEmpty = true := by
  have hl : a.data.toList.length = a.size := by simp
  rw [ByteArray.toList_eq, List.isEmpty_iff]
  exact List.eq_nil_of_length_eq_zero (by omega)

theorem nonempty_of (a : ByteArray) (h : a.size ≠ 0) : a.toList.isEmpty = false ∧ a.data.toList ≠ [] := by
  have hl : a.data.toList.length = a.size := by simp
  rw [ByteArray.toList_eq]
  cases hc : a.data.toList with
  | nil => rw [hc] at hl; simp at hl; omega
  | cons _ _ => exact ⟨rfl, by simp⟩

theorem data_cat (a b : ByteArray) : (a ++ b).data.toList = a.data.toList ++ b.data.toList := by simp

/-- the law's end -/
def TrueP (w : World) (e : Ending) (w' : World) : Prop := e = .returned (.bool true) ∧ Below w.heap.size w w'

set_option maxHeartbeats 1000000 in
theorem walk3 (a b : ByteArray) (w : World) (ha : a.size ≤ maxLen) (hb : b.size ≤ maxLen) : Calls Try.prog 3 #[.string a, .string b] w (TrueP w) := by
  unfold maxLen at ha hb
  go_enter Try.func3, Try.ntmps3
  go_wp2_with fail
  refine (bound3_any a b w ha hb).mono ?_
  rintro e w' ⟨⟨bb, rfl⟩, rfl⟩
  cases bb with
  | false =>
    go_wp2
    go_ret
    exact ⟨rfl, Below.refl _ _⟩
  | true =>
    by_cases h1 : a.size ≤ 65536
    · by_cases h2 : b.size ≤ 65536
      · have hz : (a ++ b).size ≤ 1048576 := by rw [ByteArray.size_append]; omega
        have hz1 : (a ++ ⟨#[120]⟩).size ≤ 1048576 := by rw [ByteArray.size_append]; show a.size + 1 ≤ _; omega
        have hz2 : ((⟨#[120]⟩ : ByteArray) ++ b).size ≤ 1048576 := by rw [ByteArray.size_append]; show 1 + b.size ≤ _; omega
        obtain ⟨p, hp⟩ : ∃ p, idt (a ++ b).data.toList = p := ⟨_, rfl⟩
        obtain ⟨q, hq⟩ : ∃ q, idt (a ++ ⟨#[120]⟩).data.toList = q := ⟨_, rfl⟩
        obtain ⟨r, hr⟩ : ∃ r, idt ((⟨#[120]⟩ : ByteArray) ++ b).data.toList = r := ⟨_, rfl⟩
        have HP : Hid (idt (a ++ b).data.toList = p) := hp
        have HQ : Hid (idt (a ++ ⟨#[120]⟩).data.toList = q) := hq
        have HR : Hid (idt ((⟨#[120]⟩ : ByteArray) ++ b).data.toList = r) := hr
        have HJ : Hid (a.size ≠ 0 → b.size ≠ 0 → p = (q && r)) := fun ha hb => by
          have hj := cut_join a.data.toList b.data.toList (nonempty_of a ha).2 (nonempty_of b hb).2
          rw [← hp, ← hq, ← hr, data_cat, data_cat, data_cat]; exact hj
        clear hp hq hr
        go_wp2_with fail
        refine (zz_eq (a ++ b) w' hz HP.out).mono ?_
        rintro e w1 ⟨rfl, hb1⟩
        go_wp2_with fail
        refine (aut_eq (a ++ b) w1 hz HP.out).mono ?_
        rintro e w2 ⟨rfl, rfl⟩
        by_cases hea : a.size = 0
        · have qa := empty_of a hea
          go_wp2
          go_ret
          exact ⟨rfl, hb1⟩
        · have qa := (nonempty_of a hea).1
          by_cases heb : b.size = 0
          · have qb := empty_of b heb
            go_wp2
            go_ret
            exact ⟨rfl, hb1⟩
          · have qb := (nonempty_of b heb).1
            have hj := HJ.out hea heb
            have HJ' : Hid (p = (q && r)) := hj
            clear hea heb hj HJ
            go_wp2_with fail
            refine (zz_eq _ w2 (p := q) ?hA ?hB).mono ?_
            case hA => exact hz1
            case hB => exact HQ.out
            rintro e w3 ⟨rfl, hb3⟩
            go_wp2_with fail
            refine (zz_eq _ w3 (p := r) ?hC ?hD).mono ?_
            case hC => exact hz2
            case hD => exact HR.out
            rintro e w4 ⟨rfl, hb4⟩
            have hbel := (hb1.trans (hb3.mono hb1.size)).trans (hb4.mono (Nat.le_trans hb1.size hb3.size))
            have hj := HJ'.out
            clear HJ' HP HQ HR
            cases q <;> cases r <;> cases p <;> simp at hj
            all_goals
              go_wp2
              go_ret
              exact ⟨rfl, hbel⟩
      · go_wp2
        go_ret
        exact ⟨rfl, Below.refl _ _⟩
    · go_wp2
      go_ret
      exact ⟨rfl, Below.refl _ _⟩

end Go.Proofs.Qxb6629351a
