import Derived.Test.Qxb6000488aRows
import Derived.WalkKit
import Derived.ProofKit
import Derived.WalkSpells
import Derived.WalkLawsBesides
import Derived.Outline
import Derived.LoopTactic
import Derived.Test.Qxb6000488aBits
namespace Go.Proofs.Qxb6000488a.MonthW
open Go.ChangeShapes Go.WideShapes Go.ChangeAt Go.RowKit

theorem int_eq {k : IntKind} {a b : Int} (h : a = b) : Value.int k a = Value.int k b := by rw [h]
theorem ret_int {k : IntKind} {a b : Int} (h : a = b) : Ending.returned (.int k a) = .returned (.int k b) := by rw [h]

set_option maxHeartbeats 800000 in
theorem word12 (y n l : Int) (w : World) (hy0 : 0 ≤ y) (hy1 : y ≤ 9999) (hn0 : 0 ≤ n) (hn1 : n ≤ 99) (hl0 : 0 ≤ l) (hl1 : l ≤ 255) :
    Calls Try.prog 12 #[.int .i64 y, .int .i64 n, .int .u8 l] w fun e w' => e = .returned (.int .u64 (MonthP.acc y n l 8)) ∧ Grown w w' := by
  go_enter Try.func12, Try.ntmps12
  go_wp2_with fail
  go_loop [8, 9] (fun v i => ∃ k : Nat, k ≤ 8 ∧ i = .int .i64 (7 - k) ∧ v = .int .u64 (MonthP.acc y n l k)) (fun _ i => (intOf i + 1).toNat)
  case atStart => exact ⟨0, by omega, rfl, rfl⟩
  case round =>
    obtain ⟨k, hk, rfl, rfl⟩ := hrel
    obtain rfl | rfl | rfl | rfl | rfl | rfl | rfl | rfl | rfl : k = 0 ∨ k = 1 ∨ k = 2 ∨ k = 3 ∨ k = 4 ∨ k = 5 ∨ k = 6 ∨ k = 7 ∨ k = 8 := by omega
    · generalize hA : MonthP.acc y n l 0 = A
      have H : Hid (MonthP.acc y n l 0 = A) := hA; clear hA
      go_wp2_with fail
      go_round
      case rel => exact ⟨1, by omega, rfl, int_eq (MonthP.step0 y n l hy0 hy1 hn0 hn1 hl0 hl1 A H.out)⟩
      case measure => simp [intOf]
    · generalize hA : MonthP.acc y n l 1 = A
      have H : Hid (MonthP.acc y n l 1 = A) := hA; clear hA
      go_wp2_with fail
      go_round
      case rel => exact ⟨2, by omega, rfl, int_eq (MonthP.step1 y n l hy0 hy1 hn0 hn1 hl0 hl1 A H.out)⟩
      case measure => simp [intOf]
    · generalize hA : MonthP.acc y n l 2 = A
      have H : Hid (MonthP.acc y n l 2 = A) := hA; clear hA
      go_wp2_with fail
      go_round
      case rel => exact ⟨3, by omega, rfl, int_eq (MonthP.step2 y n l hy0 hy1 hn0 hn1 hl0 hl1 A H.out)⟩
      case measure => simp [intOf]
    · generalize hA : MonthP.acc y n l 3 = A
      have H : Hid (MonthP.acc y n l 3 = A) := hA; clear hA
      go_wp2_with fail
      go_round
      case rel => exact ⟨4, by omega, rfl, int_eq (MonthP.step3 y n l hy0 hy1 hn0 hn1 hl0 hl1 A H.out)⟩
      case measure => simp [intOf]
    · generalize hA : MonthP.acc y n l 4 = A
      have H : Hid (MonthP.acc y n l 4 = A) := hA; clear hA
      go_wp2_with fail
      go_round
      case rel => exact ⟨5, by omega, rfl, int_eq (MonthP.step4 y n l hy0 hy1 hn0 hn1 hl0 hl1 A H.out)⟩
      case measure => simp [intOf]
    · generalize hA : MonthP.acc y n l 5 = A
      have H : Hid (MonthP.acc y n l 5 = A) := hA; clear hA
      go_wp2_with fail
      go_round
      case rel => exact ⟨6, by omega, rfl, int_eq (MonthP.step5 y n l hy0 hy1 hn0 hn1 hl0 hl1 A H.out)⟩
      case measure => simp [intOf]
    · generalize hA : MonthP.acc y n l 6 = A
      have H : Hid (MonthP.acc y n l 6 = A) := hA; clear hA
      go_wp2_with fail
      go_round
      case rel => exact ⟨7, by omega, rfl, int_eq (MonthP.step6 y n l hy0 hy1 hn0 hn1 hl0 hl1 A H.out)⟩
      case measure => simp [intOf]
    · generalize hA : MonthP.acc y n l 7 = A
      have H : Hid (MonthP.acc y n l 7 = A) := hA; clear hA
      go_wp2_with fail
      go_round
      case rel => exact ⟨8, by omega, rfl, int_eq (MonthP.step7 y n l hy0 hy1 hn0 hn1 hl0 hl1 A H.out)⟩
      case measure => simp [intOf]
    · generalize hA : MonthP.acc y n l 8 = A
      have H : Hid (MonthP.acc y n l 8 = A) := hA; clear hA
      go_wp2_with fail
      go_ret
      exact ⟨ret_int H.out.symm, Grown.alloc (Grown.refl _) _ _⟩
end Go.Proofs.Qxb6000488a.MonthW
