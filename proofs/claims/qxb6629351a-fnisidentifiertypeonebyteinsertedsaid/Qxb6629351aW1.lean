import Derived.Test.Qxb6629351aRows
import Derived.Test.Qxb6629351aPlain
import Derived.WalkKit
import Derived.WalkSpells
import Derived.WalkLawsBesides
namespace Go.Proofs.Qxb6629351a
open Go.RowKit
set_option linter.unusedVariables false

theorem ret_bool {a b : Bool} (h : a = b) : Ending.returned (.bool a) = .returned (.bool b) := by rw [h]

theorem or_tab : ∀ n : Fin 256, (97 ≤ (bits BinOp.or IntKind.u8 (n.val : Int) 32) ∧ (bits BinOp.or IntKind.u8 (n.val : Int) 32) ≤ 122) ↔ ((97 ≤ n.val ∧ n.val ≤ 122) ∨ (65 ≤ n.val ∧ n.val ≤ 90)) := by
  decide +kernel

theorem or_key {c : Int} (h0 : 0 ≤ c) (h1 : c ≤ 255) : (97 ≤ bits BinOp.or IntKind.u8 c 32 ∧ bits BinOp.or IntKind.u8 c 32 ≤ 122) ↔ ((97 ≤ c ∧ c ≤ 122) ∨ (65 ≤ c ∧ c ≤ 90)) := by
  obtain ⟨n, rfl⟩ := Int.eq_ofNat_of_zero_le h0
  have := or_tab ⟨n, by omega⟩
  simp only at this
  rw [this]
  omega

set_option maxHeartbeats 400000 in
theorem word_any (c : Int) (h0 : 0 ≤ c) (h1 : c ≤ 255) (w : World) :
    Calls Try.prog 11 #[.int .u8 c] w fun e w' => e = .returned (.bool (wordB c)) ∧ w' = w := by
  have hk := or_key h0 h1
  have HK : Hid ((97 ≤ bits BinOp.or IntKind.u8 c 32 ∧ bits BinOp.or IntKind.u8 c 32 ≤ 122) ↔ ((97 ≤ c ∧ c ≤ 122) ∨ (65 ≤ c ∧ c ≤ 90))) := hk
  clear hk
  go_enter Try.func11, Try.ntmps11
  go_wp2
  all_goals
    go_ret
    have hk := HK.out
    exact ⟨ret_bool (by rw [Bool.eq_iff_iff]; simp [wordB]; omega), rfl⟩

end Go.Proofs.Qxb6629351a
