import Derived.Test.Qxb6000488aRows
import Derived.WalkKit
import Derived.ProofKit
import Derived.WalkSpells
import Derived.WalkLawsBesides
import Derived.Outline
namespace Go.Proofs.Qxb6000488a.RangeW
open Go.ChangeShapes Go.WideShapes Go.ChangeAt Go.RowKit

def rt (f t : List UInt8) : List UInt8 :=
  if f.isEmpty && t.isEmpty then []
  else if t.isEmpty then [32, 102, 114, 111, 109, 32] ++ f ++ [32, 111, 110]
  else if f.isEmpty then [32, 117, 112, 32, 116, 111, 32] ++ t
  else [32, 102, 114, 111, 109, 32] ++ f ++ [32, 116, 111, 32] ++ t

def rtB (a b : ByteArray) : ByteArray := ⟨(rt a.data.toList b.data.toList).toArray⟩

theorem ret_str {a b : ByteArray} (h : a.data.toList = b.data.toList) : Ending.returned (.string a) = .returned (.string b) := by
  rw [bytes_inj h]

theorem ret_bool {a b : Bool} (h : a = b) : Ending.returned (.bool a) = .returned (.bool b) := by rw [h]

set_option maxHeartbeats 400000 in
theorem range27 (a b : ByteArray) (w : World) (ha : a.size ≤ 1048576) (hb : b.size ≤ 1048576) :
    Calls Try.prog 27 #[.string a, .string b] w fun e w' => e = .returned (.string (rtB a b)) ∧ w' = w := by
  go_enter Try.func27, Try.ntmps27
  go_wp2
  all_goals
    go_ret
    refine ⟨ret_str ?_, rfl⟩
    simp_all [rtB, rt, ByteArray.toList_eq]

theorem range20 (a b : ByteArray) (w : World) (ha : a.size ≤ 1048576) (hb : b.size ≤ 1048576) :
    Calls Try.prog 20 #[.string a, .string b] w fun e w' => e = .returned (.string (rtB a b)) ∧ w' = w := by
  go_enter Try.func20, Try.ntmps20
  go_wp2_with (go_at_call 27; refine (range27 _ _ _ ha hb).mono ?_; rintro e w' ⟨rfl, rfl⟩)
  go_ret
  exact ⟨rfl, rfl⟩

set_option maxHeartbeats 400000 in
theorem bytes19 (a b : ByteArray) (w : World) (ha : a.size ≤ maxLen) (hb : b.size ≤ maxLen) :
    Calls Try.prog 19 #[.string a, .string b] w fun e w' => e = .returned (.bool (decide (a.size + b.size ≤ 1048576))) ∧ w' = w := by
  unfold maxLen at ha hb
  go_enter Try.func19, Try.ntmps19
  go_wp2
  all_goals
    go_ret
    refine ⟨ret_bool ?_, rfl⟩
    simp; omega

set_option maxHeartbeats 400000 in
theorem bytes21 (a b : ByteArray) (w : World) (ha : a.size ≤ maxLen) (hb : b.size ≤ maxLen) :
    Calls Try.prog 21 #[.string a, .string b] w fun e w' => e = .returned (.bool (decide (a.size + b.size ≤ 1048576))) ∧ w' = w := by
  unfold maxLen at ha hb
  go_enter Try.func21, Try.ntmps21
  go_wp2
  all_goals
    go_ret
    refine ⟨ret_bool ?_, rfl⟩
    simp; omega

theorem rt_size (a b : ByteArray) : (a.size = 0 ∧ b.size = 0 ∧ (rtB a b).size = 0) ∨ ((0 < a.size ∨ 0 < b.size) ∧ a.size + b.size < (rtB a b).size) := by
  have ha : a.size = a.data.toList.length := by simp
  have hb : b.size = b.data.toList.length := by simp
  have hr : (rtB a b).size = (rt a.data.toList b.data.toList).length := by simp [rtB, ByteArray.size]
  rw [ha, hb, hr]
  generalize a.data.toList = x
  generalize b.data.toList = y
  unfold rt
  cases x <;> cases y <;> simp <;> omega

theorem rt_head (x y : List UInt8) (h : 0 < (rt x y).length) : (rt x y)[0] = 32 := by
  have g : ∀ l : List UInt8, l = rt x y → ∀ h : 0 < l.length, l[0] = 32 := by
    intro l e
    unfold rt at e
    cases x <;> cases y <;> simp at e <;> subst e <;> simp
  exact g _ rfl h

theorem rt_first (a b : ByteArray) (h : 0 < (rtB a b).size) : (rtB a b)[0] = 32 := by
  have hr : (rtB a b).size = (rt a.data.toList b.data.toList).length := by simp [rtB, ByteArray.size]
  exact rt_head _ _ (hr ▸ h)
end Go.Proofs.Qxb6000488a.RangeW
