import Derived.Test.Qxb6629351aW1
import Derived.Laws.IdiomStrings
namespace Go.Proofs.Qxb6629351a
open Go.RowKit
set_option linter.unusedVariables false

theorem get_list (t : ByteArray) (k : Nat) (h : k < t.size) : t.data.toList[k]? = some t[k] := by
  have h' : k < t.data.toList.length := by simpa using h
  rw [List.getElem?_eq_getElem h']
  rfl

/-- '[]byte(t)': a new row that holds t's bytes -/
theorem conv (t : ByteArray) (w : World) : ∃ cap W1, (convert 9 27 (.string t)).run Try.prog w = .ok (.slice (some ⟨w.heap.size, 0, none⟩) t.size cap) W1 ∧
    (∀ k (h : k < t.size), W1.cell? ⟨w.heap.size, k, none⟩ = some (.int .u8 (t[k].toNat : Int))) ∧ Below w.heap.size w W1 := by
  refine ⟨_, _, run_bytes_of_string (P := Try.prog) w 9 27 5 t Try.underlying9 Try.underlying27 Try.underlying5, ?_, ?_⟩
  · intro k h
    exact (World.cell?_alloc_mark w.drew _ 5 _ k).trans (bytesRow_at t _ k h)
  · exact (Below.refl _ _).drew.alloc (Nat.le_refl _) _

theorem idt_iff (t : ByteArray) : idt t.data.toList = true ↔ ∃ h : 0 < t.size, num (t[0]'h) ≠ 45 ∧ num (t[t.size - 1]'(by omega)) ≠ 45 ∧ ∀ j (hj : j < t.size), okB (num t[j]) = true := by
  have hl : t.data.toList.length = t.size := by simp
  by_cases h : 0 < t.size
  · have e1 : t.data.toList.head? = some (t[0]'h) := by rw [List.head?_eq_getElem?]; exact get_list t 0 h
    have e2 : t.data.toList.getLast? = some (t[t.size - 1]'(by omega)) := by rw [List.getLast?_eq_getElem?, hl]; exact get_list t _ _
    have e3 : t.data.toList.isEmpty = false := by
      cases hc : t.data.toList with
      | nil => rw [hc] at hl; simp at hl; omega
      | cons _ _ => rfl
    simp only [idt, e1, e2, e3, Option.map_some, Bool.not_false, Bool.true_and, Bool.and_eq_true, Bool.not_eq_true', beq_eq_false_iff_ne, ne_eq, Option.some.injEq, List.all_eq_true]
    constructor
    · rintro ⟨⟨h1, h2⟩, h3⟩
      exact ⟨h, h1, h2, fun j hj => h3 _ (List.mem_of_getElem? (get_list t j hj))⟩
    · rintro ⟨_, h1, h2, h3⟩
      refine ⟨⟨h1, h2⟩, fun c hc => ?_⟩
      obtain ⟨j, hj⟩ := List.mem_iff_getElem?.1 hc
      have hjl : j < t.size := by
        have := (List.getElem?_eq_some_iff.1 hj).1
        omega
      rw [get_list t j hjl] at hj
      obtain rfl := Option.some.inj hj
      exact h3 j hjl
  · have e3 : t.data.toList = [] := List.eq_nil_of_length_eq_zero (by omega)
    simp [idt, e3, h]

theorem idt_true {t : ByteArray} (h : 0 < t.size) (h1 : num (t[0]'h) ≠ 45) (h2 : num (t[t.size - 1]'(by omega)) ≠ 45) (h3 : ∀ j (hj : j < t.size), okB (num t[j]) = true) : idt t.data.toList = true :=
  (idt_iff t).2 ⟨h, h1, h2, h3⟩

theorem idt_false {t : ByteArray} (h : ¬ ∃ h : 0 < t.size, num (t[0]'h) ≠ 45 ∧ num (t[t.size - 1]'(by omega)) ≠ 45 ∧ ∀ j (hj : j < t.size), okB (num t[j]) = true) : idt t.data.toList = false := by
  cases hc : idt t.data.toList with
  | false => rfl
  | true => exact absurd ((idt_iff t).1 hc) h

set_option maxHeartbeats 1000000 in
theorem idt_any (t : ByteArray) (w : World) (ht : t.size ≤ 1048576) :
    Calls Try.prog 10 #[.string t] w fun e w' => e = .returned (.bool (idt t.data.toList)) ∧ Below w.heap.size w w' := by
  obtain ⟨cap, W1, hrun, hcell, hbel⟩ := conv t w
  by_cases hp : 0 < t.size
  · have hE : t.toList.isEmpty = false := by
      rw [ByteArray.toList_eq]
      cases hc : t.data.toList with
      | nil => have hl : t.data.toList.length = t.size := by simp
               rw [hc] at hl; simp at hl; omega
      | cons _ _ => rfl
    by_cases h0 : num (t[0]'hp) = 45
    · have hR : Hid (idt t.data.toList = false) := idt_false (fun ⟨_, h1, _⟩ => h1 h0)
      have t0 : (((t[0]'hp).toNat : Int) == 45) = true := by simpa [num] using h0
      clear h0
      go_enter Try.func10, Try.ntmps10
      go_wp2
      go_ret
      exact ⟨ret_bool hR.out.symm, Below.refl _ _⟩
    · by_cases h1 : num (t[t.size - 1]'(by omega)) = 45
      · have hR : Hid (idt t.data.toList = false) := idt_false (fun ⟨_, _, h2, _⟩ => h2 h1)
        have t0 : (((t[0]'hp).toNat : Int) == 45) = false := by simpa [num] using h0
        have t1 : (((t[t.size - 1]'(by omega)).toNat : Int) == 45) = true := by simpa [num] using h1
        clear h0 h1
        go_enter Try.func10, Try.ntmps10
        go_wp2
        go_ret
        exact ⟨ret_bool hR.out.symm, Below.refl _ _⟩
      · have hR : Hid ((∀ j (hj : j < t.size), okB (num t[j]) = true) → idt t.data.toList = true) := fun h => idt_true hp h0 h1 h
        have t0 : (((t[0]'hp).toNat : Int) == 45) = false := by simpa [num] using h0
        have t1 : (((t[t.size - 1]'(by omega)).toNat : Int) == 45) = false := by simpa [num] using h1
        clear h0 h1
        go_enter Try.func10, Try.ntmps10
        go_wp2
        go_loop [24] (fun i => ∃ k : Nat, k ≤ t.size ∧ i = .int .i64 k ∧ ∀ j (hj : j < t.size), j < k → okB (num t[j]) = true) (fun i => t.size - (intOf i).toNat)
        case atStart => exact ⟨0, Nat.zero_le _, rfl, fun j hj h => by omega⟩
        case round =>
          obtain ⟨k, hk, rfl, hall⟩ := hrel
          have Hall : Hid (∀ j (hj : j < t.size), j < k → okB (num t[j]) = true) := hall
          clear hall
          by_cases hlt : k < t.size
          · have hx := hcell k hlt
            obtain ⟨hb0, hb1⟩ := num_bd t[k]
            have Hbad : Hid (okB (num t[k]) = false → idt t.data.toList = false) := fun h => idt_false (fun ⟨_, _, _, h3⟩ => by rw [h3 k hlt] at h; cases h)
            have Hok : Hid (okB (num t[k]) = true → ∀ j (hj : j < t.size), j < k + 1 → okB (num t[j]) = true) := fun h j hj hjk => by
              by_cases e : j = k
              · subst e; exact h
              · exact Hall.out j hj (by omega)
            have hx' : W1.cell? ⟨w.heap.size, k, none⟩ = some (.int .u8 (num t[k])) := hx
            clear hx hcell Hall hR
            generalize num t[k] = c at *
            rcases (show c < 45 ∨ (45 ≤ c ∧ c ≤ 45) ∨ (46 ≤ c ∧ c ≤ 47) ∨ (48 ≤ c ∧ c ≤ 57) ∨ (58 ≤ c ∧ c ≤ 64) ∨ (65 ≤ c ∧ c ≤ 90) ∨ (91 ≤ c ∧ c ≤ 94) ∨ (95 ≤ c ∧ c ≤ 95) ∨ (96 ≤ c ∧ c ≤ 96) ∨ (97 ≤ c ∧ c ≤ 122) ∨ 123 ≤ c from by omega) with h | ⟨h, h'⟩ | ⟨h, h'⟩ | ⟨h, h'⟩ | ⟨h, h'⟩ | ⟨h, h'⟩ | ⟨h, h'⟩ | ⟨h, h'⟩ | ⟨h, h'⟩ | ⟨h, h'⟩ | h
            · have q1 : (c == 95) = false := by simp; omega
              have q2 : (c == 45) = false := by simp; omega
              have r0 : decide (97 ≤ c) = false := by simp; omega
              have r1 : decide (c ≤ 122) = true := by simp; omega
              have r2 : decide (65 ≤ c) = false := by simp; omega
              have r3 : decide (c ≤ 90) = true := by simp; omega
              have r4 : decide (48 ≤ c) = false := by simp; omega
              have r5 : decide (c ≤ 57) = true := by simp; omega
              go_wp2
              go_ret
              exact ⟨ret_bool (Hbad.out (okB_no (by omega))).symm, hbel⟩
            · have q1 : (c == 95) = false := by simp; omega
              have q2 : (c == 45) = true := by simp; omega
              have r0 : decide (97 ≤ c) = false := by simp; omega
              have r1 : decide (c ≤ 122) = true := by simp; omega
              have r2 : decide (65 ≤ c) = false := by simp; omega
              have r3 : decide (c ≤ 90) = true := by simp; omega
              have r4 : decide (48 ≤ c) = false := by simp; omega
              have r5 : decide (c ≤ 57) = true := by simp; omega
              go_wp2
              go_round
              case rel => exact ⟨k + 1, by omega, by go_num, Hok.out ((okB_iff c).2 (by omega))⟩
              case measure => simp [intOf]; omega
            · have q1 : (c == 95) = false := by simp; omega
              have q2 : (c == 45) = false := by simp; omega
              have r0 : decide (97 ≤ c) = false := by simp; omega
              have r1 : decide (c ≤ 122) = true := by simp; omega
              have r2 : decide (65 ≤ c) = false := by simp; omega
              have r3 : decide (c ≤ 90) = true := by simp; omega
              have r4 : decide (48 ≤ c) = false := by simp; omega
              have r5 : decide (c ≤ 57) = true := by simp; omega
              go_wp2
              go_ret
              exact ⟨ret_bool (Hbad.out (okB_no (by omega))).symm, hbel⟩
            · have q1 : (c == 95) = false := by simp; omega
              have q2 : (c == 45) = false := by simp; omega
              have r0 : decide (97 ≤ c) = false := by simp; omega
              have r1 : decide (c ≤ 122) = true := by simp; omega
              have r2 : decide (65 ≤ c) = false := by simp; omega
              have r3 : decide (c ≤ 90) = true := by simp; omega
              have r4 : decide (48 ≤ c) = true := by simp; omega
              have r5 : decide (c ≤ 57) = true := by simp; omega
              go_wp2
              go_round
              case rel => exact ⟨k + 1, by omega, by go_num, Hok.out ((okB_iff c).2 (by omega))⟩
              case measure => simp [intOf]; omega
            · have q1 : (c == 95) = false := by simp; omega
              have q2 : (c == 45) = false := by simp; omega
              have r0 : decide (97 ≤ c) = false := by simp; omega
              have r1 : decide (c ≤ 122) = true := by simp; omega
              have r2 : decide (65 ≤ c) = false := by simp; omega
              have r3 : decide (c ≤ 90) = true := by simp; omega
              have r4 : decide (48 ≤ c) = true := by simp; omega
              have r5 : decide (c ≤ 57) = false := by simp; omega
              go_wp2
              go_ret
              exact ⟨ret_bool (Hbad.out (okB_no (by omega))).symm, hbel⟩
            · have q1 : (c == 95) = false := by simp; omega
              have q2 : (c == 45) = false := by simp; omega
              have r0 : decide (97 ≤ c) = false := by simp; omega
              have r1 : decide (c ≤ 122) = true := by simp; omega
              have r2 : decide (65 ≤ c) = true := by simp; omega
              have r3 : decide (c ≤ 90) = true := by simp; omega
              have r4 : decide (48 ≤ c) = true := by simp; omega
              have r5 : decide (c ≤ 57) = false := by simp; omega
              go_wp2
              go_round
              case rel => exact ⟨k + 1, by omega, by go_num, Hok.out ((okB_iff c).2 (by omega))⟩
              case measure => simp [intOf]; omega
            · have q1 : (c == 95) = false := by simp; omega
              have q2 : (c == 45) = false := by simp; omega
              have r0 : decide (97 ≤ c) = false := by simp; omega
              have r1 : decide (c ≤ 122) = true := by simp; omega
              have r2 : decide (65 ≤ c) = true := by simp; omega
              have r3 : decide (c ≤ 90) = false := by simp; omega
              have r4 : decide (48 ≤ c) = true := by simp; omega
              have r5 : decide (c ≤ 57) = false := by simp; omega
              go_wp2
              go_ret
              exact ⟨ret_bool (Hbad.out (okB_no (by omega))).symm, hbel⟩
            · have q1 : (c == 95) = true := by simp; omega
              have q2 : (c == 45) = false := by simp; omega
              have r0 : decide (97 ≤ c) = false := by simp; omega
              have r1 : decide (c ≤ 122) = true := by simp; omega
              have r2 : decide (65 ≤ c) = true := by simp; omega
              have r3 : decide (c ≤ 90) = false := by simp; omega
              have r4 : decide (48 ≤ c) = true := by simp; omega
              have r5 : decide (c ≤ 57) = false := by simp; omega
              go_wp2
              go_round
              case rel => exact ⟨k + 1, by omega, by go_num, Hok.out ((okB_iff c).2 (by omega))⟩
              case measure => simp [intOf]; omega
            · have q1 : (c == 95) = false := by simp; omega
              have q2 : (c == 45) = false := by simp; omega
              have r0 : decide (97 ≤ c) = false := by simp; omega
              have r1 : decide (c ≤ 122) = true := by simp; omega
              have r2 : decide (65 ≤ c) = true := by simp; omega
              have r3 : decide (c ≤ 90) = false := by simp; omega
              have r4 : decide (48 ≤ c) = true := by simp; omega
              have r5 : decide (c ≤ 57) = false := by simp; omega
              go_wp2
              go_ret
              exact ⟨ret_bool (Hbad.out (okB_no (by omega))).symm, hbel⟩
            · have q1 : (c == 95) = false := by simp; omega
              have q2 : (c == 45) = false := by simp; omega
              have r0 : decide (97 ≤ c) = true := by simp; omega
              have r1 : decide (c ≤ 122) = true := by simp; omega
              have r2 : decide (65 ≤ c) = true := by simp; omega
              have r3 : decide (c ≤ 90) = false := by simp; omega
              have r4 : decide (48 ≤ c) = true := by simp; omega
              have r5 : decide (c ≤ 57) = false := by simp; omega
              go_wp2
              go_round
              case rel => exact ⟨k + 1, by omega, by go_num, Hok.out ((okB_iff c).2 (by omega))⟩
              case measure => simp [intOf]; omega
            · have q1 : (c == 95) = false := by simp; omega
              have q2 : (c == 45) = false := by simp; omega
              have r0 : decide (97 ≤ c) = true := by simp; omega
              have r1 : decide (c ≤ 122) = false := by simp; omega
              have r2 : decide (65 ≤ c) = true := by simp; omega
              have r3 : decide (c ≤ 90) = false := by simp; omega
              have r4 : decide (48 ≤ c) = true := by simp; omega
              have r5 : decide (c ≤ 57) = false := by simp; omega
              go_wp2
              go_ret
              exact ⟨ret_bool (Hbad.out (okB_no (by omega))).symm, hbel⟩
          · go_wp2
            go_ret
            exact ⟨ret_bool (hR.out (fun j hj => Hall.out j hj (by omega))).symm, hbel⟩
  · have hE : t.toList.isEmpty = true := by
      have hl : t.data.toList.length = t.size := by simp
      rw [ByteArray.toList_eq, List.isEmpty_iff]
      exact List.eq_nil_of_length_eq_zero (by omega)
    have hR : Hid (idt t.data.toList = false) := idt_false (fun ⟨h, _⟩ => hp h)
    go_enter Try.func10, Try.ntmps10
    go_wp2
    go_ret
    exact ⟨ret_bool hR.out.symm, Below.refl _ _⟩

end Go.Proofs.Qxb6629351a
