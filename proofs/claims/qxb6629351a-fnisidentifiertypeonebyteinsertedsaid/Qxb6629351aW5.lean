import Derived.Test.Qxb6629351aW4
namespace Go.Proofs.Qxb6629351a
open Go.RowKit
set_option linter.unusedVariables false

theorem size_mk (l : List UInt8) : (⟨l.toArray⟩ : ByteArray).size = l.length := by simp [ByteArray.size]

theorem zz_ins (l : List UInt8) (i : Nat) (c : UInt8) (w : World) (hl : l.length ≤ 65536) (hi : i ≤ l.length) {p : Bool} (hp : idt (ins l i c) = p) :
    Calls Try.prog 6 #[.string ⟨(ins l i c).toArray⟩] w fun e w' => e = .returned (.bool p) ∧ Below w.heap.size w w' :=
  zz_eq _ w (by rw [size_mk, ins_length _ _ _ hi]; omega) (by simpa using hp)

theorem aut_ins (l : List UInt8) (i : Nat) (c : UInt8) (w : World) (hl : l.length ≤ 65536) (hi : i ≤ l.length) {p : Bool} (hp : idt (ins l i c) = p) :
    Calls Try.prog 7 #[.string ⟨(ins l i c).toArray⟩] w fun e w' => e = .returned (.bool p) ∧ w' = w :=
  aut_eq _ w (by rw [size_mk, ins_length _ _ _ hi]; omega) (by simpa using hp)

set_option maxRecDepth 100000 in
set_option maxHeartbeats 1000000 in
theorem walk4 (s : ByteArray) (ii : Int) (w : World) (hs : s.size ≤ maxLen) : Calls Try.prog 4 #[.string s, .int .i64 ii] w (TrueP w) := by
  unfold maxLen at hs
  go_enter Try.func4, Try.ntmps4
  go_wp2_with fail
  refine (bound4_any s ii w hs).mono ?_
  rintro e w' ⟨⟨bb, rfl⟩, rfl⟩
  cases bb with
  | false =>
    go_wp2
    go_ret
    exact ⟨rfl, Below.refl _ _⟩
  | true =>
    by_cases h1 : s.size ≤ 65536
    · by_cases h2 : ii < 0
      · go_wp2
        go_ret
        exact ⟨rfl, Below.refl _ _⟩
      · by_cases h3 : (s.size : Int) < ii
        · go_wp2
          go_ret
          exact ⟨rfl, Below.refl _ _⟩
        · obtain ⟨i, rfl⟩ := Int.eq_ofNat_of_zero_le (show 0 ≤ ii by omega)
          have hi : i ≤ s.size := by omega
          have hll : s.data.toList.length = s.size := by simp
          obtain ⟨p, hp⟩ : ∃ p, idt (ins s.data.toList i 120) = p := ⟨_, rfl⟩
          have HP : Hid (idt (ins s.data.toList i 120) = p) := hp
          obtain ⟨K, hK⟩ : ∃ K : Int, K = if 0 < i ∧ i < s.size then 64 else 63 := ⟨_, rfl⟩
          have HC : Hid ((cn s.data.toList i 256 : Int) = if p then K else 0) := by
            show (cn s.data.toList i 256 : Int) = if p then K else 0
            rw [cn_law _ _ (by omega), hp, hll, hK]
            cases p <;> simp
            split <;> rfl
          have HK : Hid (K = if 0 < i ∧ i < s.size then 64 else 63) := hK
          clear hp hK hs
          have hcase : (K = 64 ∧ (0 : Int) < (i : Int) ∧ (i : Int) < (s.size : Int)) ∨ (K = 63 ∧ (i : Int) ≤ 0) ∨ (K = 63 ∧ (0 : Int) < (i : Int) ∧ (s.size : Int) ≤ (i : Int)) := by
            rw [HK.out]
            by_cases hin : 0 < i ∧ i < s.size
            · exact .inl ⟨if_pos hin, by omega, by omega⟩
            · by_cases h0 : i = 0
              · exact .inr (.inl ⟨if_neg hin, by omega⟩)
              · exact .inr (.inr ⟨if_neg hin, by omega, by omega⟩)
          clear HK
          rcases hcase with ⟨rfl, hin1, hin2⟩ | ⟨rfl, hin1⟩ | ⟨rfl, hin1, hin2⟩
          all_goals
            go_wp2_with fail
            refine (ins_any s i 120 _ ?hA w' h1 hi).mono ?_
            case hA => rfl
            rintro e w1 ⟨rfl, hb1⟩
            go_wp2_with fail
            refine (zz_ins s.data.toList i 120 w1 (by omega) (by omega) HP.out).mono ?_
            rintro e w2 ⟨rfl, hb2⟩
            go_wp2_with fail
            refine (aut_ins s.data.toList i 120 w2 (by omega) (by omega) HP.out).mono ?_
            rintro e w3 ⟨rfl, rfl⟩
            have hbel := hb1.trans (hb2.mono hb1.size)
            clear hb1 hb2
            go_wp2
            go_loopw [8, 9] (fun n c wr => ∃ k : Nat, k ≤ 256 ∧ n = .int .i64 (cn s.data.toList i k) ∧ c = .int .i64 k ∧ Below w'.heap.size w' wr) (fun _ c _ => 256 - (intOf c).toNat)
            case atStart => exact ⟨0, by omega, rfl, rfl, hbel⟩
            case round =>
              obtain ⟨k, hk, rfl, rfl, hbr⟩ := hrel
              clear hbel
              have hcl := cn_le s.data.toList i k
              by_cases hlt : k < 256
              · obtain ⟨b, hb⟩ : ∃ b, idt (ins s.data.toList i (UInt8.ofNat k)) = b := ⟨_, rfl⟩
                have HB : Hid (idt (ins s.data.toList i (UInt8.ofNat k)) = b) := hb
                have HN : Hid (num (UInt8.ofNat k) = (k : Int)) := num_ofNat hlt
                clear hb
                go_wp2_with fail
                refine (ins_any s i (UInt8.ofNat k) _ HN.out.symm wr h1 hi).mono ?_
                rintro e w5 ⟨rfl, hb5⟩
                go_wp2_with fail
                refine (zz_ins s.data.toList i (UInt8.ofNat k) w5 (by omega) (by omega) HB.out).mono ?_
                rintro e w6 ⟨rfl, hb6⟩
                have hb7 := hbr.trans ((hb5.trans (hb6.mono hb5.size)).mono hbr.size)
                clear hb5 hb6 hbr
                cases b with
                | true =>
                  have HE : Hid (cn s.data.toList i (k + 1) = cn s.data.toList i k + 1) := cn_yes HB.out
                  go_wp2
                  go_roundw
                  case rel => exact ⟨k + 1, by omega, by rw [HE.out]; go_num, by go_num, hb7⟩
                  case measure => simp [intOf]; omega
                | false =>
                  have HE : Hid (cn s.data.toList i (k + 1) = cn s.data.toList i k) := cn_no HB.out
                  go_wp2
                  go_roundw
                  case rel => exact ⟨k + 1, by omega, by rw [HE.out], by go_num, hb7⟩
                  case measure => simp [intOf]; omega
              · have hk2 : k = 256 := by omega
                have hC := HC.out
                rw [← hk2] at hC
                clear hk2 HC
                cases p with
                | true =>
                  have HC : Hid ((cn s.data.toList i k : Int) = _) := hC
                  clear hC
                  go_wp2
                  go_ret
                  exact ⟨ret_bool (by have := HC.out; simp at this; simp; omega), hbr⟩
                | false =>
                  have HC : Hid ((cn s.data.toList i k : Int) = _) := hC
                  clear hC
                  go_wp2
                  go_ret
                  exact ⟨ret_bool (by have := HC.out; simp at this; simp; omega), hbr⟩
    · go_wp2
      go_ret
      exact ⟨rfl, Below.refl _ _⟩

end Go.Proofs.Qxb6629351a
