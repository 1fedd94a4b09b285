import Derived.Test.Qxb6000488aMonthC
import Derived.Deep.Light
set_option linter.unusedVariables false
namespace Go.Proofs.Qxb6000488a.MonthW
open Go.ChangeShapes Go.WideShapes Go.ChangeAt Go.RowKit

theorem grown_trans {a b c : World} (h : Grown a b) (g : Grown b c) : Grown a c :=
  ⟨World.keptBut_trans h.1 g.1, fun x => (g.2.1 x).trans (h.2.1 x), Nat.le_trans h.2.2 g.2.2⟩

theorem beq_clash {p q : Bool} (h : (!(p == q)) = true) (e : p = q) : False := by subst e; simp at h
theorem dec_clash {p : Prop} [Decidable p] (h : (!decide p) = true) (e : p) : False := by simp [e] at h

theorem ret_bool {a b : Bool} (h : a = b) : Ending.returned (.bool a) = .returned (.bool b) := by rw [h]

set_option maxHeartbeats 1000000 in
theorem order_in (y1 n1 y2 n2 : Int) (w : World) (hy0 : 0 ≤ y1) (hy1 : y1 ≤ 9999) (hz0 : 0 ≤ y2) (hz1 : y2 ≤ 9999) (hn0 : 1 ≤ n1) (hn1 : n1 ≤ 12) (hm0 : 1 ≤ n2) (hm1 : n2 ≤ 12) :
    Calls Try.prog 5 #[.int .i64 y1, .int .i64 n1, .int .i64 y2, .int .i64 n2] w fun e w' => e = .returned (.bool true) ∧ Grown w w' := by
  go_enter Try.func5, Try.ntmps5
  go_wp2_with fail
  refine (word12 y1 n1 0 _ hy0 hy1 (by omega) (by omega) (by omega) (by omega)).mono ?_
  rintro e w1 ⟨rfl, hg1⟩
  go_wp2_with fail
  refine (month10_yes y1 n1 0 _ hy0 hy1 hn0 hn1 (by omega) (by omega)).mono ?_
  rintro e w2 ⟨rfl, rfl⟩
  go_wp2_with fail
  refine (word12 y2 n2 32 _ hz0 hz1 (by omega) (by omega) (by omega) (by omega)).mono ?_
  rintro e w3 ⟨rfl, hg2⟩
  go_wp2_with fail
  refine (month10_yes y2 n2 32 _ hz0 hz1 hm0 hm1 (by omega) (by omega)).mono ?_
  rintro e w4 ⟨rfl, rfl⟩
  go_wp2_with fail
  all_goals
    go_ret
    refine ⟨ret_bool ?_, grown_trans hg1 hg2⟩
    go_light
    try simp
  all_goals first | omega | (rw [Bool.eq_iff_iff]; simp; omega) | (refine beq_clash (by assumption) ?_; rw [Bool.eq_iff_iff, beq_iff_eq, beq_iff_eq]; omega) | (refine beq_clash (by assumption) ?_; rw [Bool.eq_iff_iff, decide_eq_true_eq, decide_eq_true_eq]; omega) | (refine dec_clash (by assumption) ?_; omega)

set_option maxHeartbeats 400000 in
theorem order_far (y1 n1 y2 n2 : Int) (w : World) (h : y1 < 0 ∨ 9999 < y1 ∨ y2 < 0 ∨ 9999 < y2 ∨ n1 < 1 ∨ 12 < n1 ∨ n2 < 1 ∨ 12 < n2) :
    Calls Try.prog 5 #[.int .i64 y1, .int .i64 n1, .int .i64 y2, .int .i64 n2] w fun e w' => e = .returned (.bool true) ∧ Grown w w' := by
  have H : Hid (y1 < 0 ∨ 9999 < y1 ∨ y2 < 0 ∨ 9999 < y2 ∨ n1 < 1 ∨ 12 < n1 ∨ n2 < 1 ∨ 12 < n2) := h
  clear h
  by_cases h1 : y1 < 0
  · go_enter Try.func5, Try.ntmps5
    go_wp2_with fail
    go_ret
    exact ⟨rfl, Grown.refl _⟩
  by_cases h2 : 9999 < y1
  · go_enter Try.func5, Try.ntmps5
    go_wp2_with fail
    go_ret
    exact ⟨rfl, Grown.refl _⟩
  by_cases h3 : y2 < 0
  · go_enter Try.func5, Try.ntmps5
    go_wp2_with fail
    go_ret
    exact ⟨rfl, Grown.refl _⟩
  by_cases h4 : 9999 < y2
  · go_enter Try.func5, Try.ntmps5
    go_wp2_with fail
    go_ret
    exact ⟨rfl, Grown.refl _⟩
  by_cases h5 : n1 < 1
  · go_enter Try.func5, Try.ntmps5
    go_wp2_with fail
    go_ret
    exact ⟨rfl, Grown.refl _⟩
  by_cases h6 : 12 < n1
  · go_enter Try.func5, Try.ntmps5
    go_wp2_with fail
    go_ret
    exact ⟨rfl, Grown.refl _⟩
  by_cases h7 : n2 < 1
  · go_enter Try.func5, Try.ntmps5
    go_wp2_with fail
    go_ret
    exact ⟨rfl, Grown.refl _⟩
  have h8 : 12 < n2 := by have := H.out; omega
  go_enter Try.func5, Try.ntmps5
  go_wp2_with fail
  go_ret
  exact ⟨rfl, Grown.refl _⟩

theorem walk5 (a0 : Int) (a1 : Int) (a2 : Int) (a3 : Int) (w : World) :
    Calls Try.prog 5 #[.int .i64 a0, .int .i64 a1, .int .i64 a2, .int .i64 a3] w fun e w' => e = .returned (.bool true) ∧ Grown w w' := by
  by_cases h : a0 < 0 ∨ 9999 < a0 ∨ a2 < 0 ∨ 9999 < a2 ∨ a1 < 1 ∨ 12 < a1 ∨ a3 < 1 ∨ 12 < a3
  · exact order_far a0 a1 a2 a3 w h
  · exact order_in a0 a1 a2 a3 w (by omega) (by omega) (by omega) (by omega) (by omega) (by omega) (by omega) (by omega)
end Go.Proofs.Qxb6000488a.MonthW
