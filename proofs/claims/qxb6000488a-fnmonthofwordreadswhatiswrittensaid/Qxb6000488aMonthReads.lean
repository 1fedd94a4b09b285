import Derived.Test.Qxb6000488aMonthC
import Derived.OpenShut
set_option linter.unusedVariables false
namespace Go.Proofs.Qxb6000488a.MonthW
open Go.ChangeShapes Go.WideShapes Go.ChangeAt Go.RowKit

set_option maxHeartbeats 400000 in
theorem reads_in (y n l : Int) (w : World) (hy0 : 0 ≤ y) (hy1 : y ≤ 9999) (hn0 : 1 ≤ n) (hn1 : n ≤ 12) (hl0 : 0 ≤ l) (hl1 : l ≤ 255) :
    Calls Try.prog 4 #[.int .i64 y, .int .i64 n, .int .u8 l] w fun e w' => e = .returned (.bool true) ∧ Grown w w' := by
  go_enter Try.func4, Try.ntmps4
  go_wp2_with fail
  refine (word12 y n l _ hy0 hy1 (by omega) (by omega) hl0 hl1).mono ?_
  rintro e w1 ⟨rfl, hg⟩
  go_wp2_with fail
  refine (month10_yes y n l _ hy0 hy1 hn0 hn1 hl0 hl1).mono ?_
  rintro e w2 ⟨rfl, rfl⟩
  go_wp2_with fail
  go_ret
  exact ⟨rfl, hg⟩

set_option maxHeartbeats 400000 in
theorem reads_out (y n l : Int) (w : World) (hy0 : 0 ≤ y) (hy1 : y ≤ 9999) (hn0 : 0 ≤ n) (hn1 : n ≤ 99) (hl0 : 0 ≤ l) (hl1 : l ≤ 255) (hn : n < 1 ∨ 12 < n) :
    Calls Try.prog 4 #[.int .i64 y, .int .i64 n, .int .u8 l] w fun e w' => e = .returned (.bool true) ∧ Grown w w' := by
  have H : Hid (n < 1 ∨ 12 < n) := hn
  rcases hn with hn | hn
  · go_enter Try.func4, Try.ntmps4
    go_wp2_with fail
    refine (word12 y n l _ hy0 hy1 hn0 hn1 hl0 hl1).mono ?_
    rintro e w1 ⟨rfl, hg⟩
    go_wp2_with fail
    refine (month10_no y n l _ hy0 hy1 hn0 hn1 hl0 hl1 H.out).mono ?_
    rintro e w2 ⟨rfl, rfl⟩
    go_wp2_with fail
    go_ret
    exact ⟨rfl, hg⟩
  · have hn' : ¬ n < 1 := by omega
    go_enter Try.func4, Try.ntmps4
    go_wp2_with fail
    refine (word12 y n l _ hy0 hy1 hn0 hn1 hl0 hl1).mono ?_
    rintro e w1 ⟨rfl, hg⟩
    go_wp2_with fail
    refine (month10_no y n l _ hy0 hy1 hn0 hn1 hl0 hl1 H.out).mono ?_
    rintro e w2 ⟨rfl, rfl⟩
    go_wp2_with fail
    go_ret
    exact ⟨rfl, hg⟩

set_option maxHeartbeats 400000 in
theorem reads_far (y n l : Int) (w : World) (h : y < 0 ∨ 9999 < y ∨ n < 0 ∨ 99 < n) :
    Calls Try.prog 4 #[.int .i64 y, .int .i64 n, .int .u8 l] w fun e w' => e = .returned (.bool true) ∧ Grown w w' := by
  have H : Hid (y < 0 ∨ 9999 < y ∨ n < 0 ∨ 99 < n) := h
  clear h
  by_cases h1 : y < 0
  · go_enter Try.func4, Try.ntmps4
    go_wp2_with fail
    go_ret
    exact ⟨rfl, Grown.refl _⟩
  by_cases h2 : 9999 < y
  · go_enter Try.func4, Try.ntmps4
    go_wp2_with fail
    go_ret
    exact ⟨rfl, Grown.refl _⟩
  by_cases h3 : n < 0
  · go_enter Try.func4, Try.ntmps4
    go_wp2_with fail
    go_ret
    exact ⟨rfl, Grown.refl _⟩
  have h4 : 99 < n := by have := H.out; omega
  go_enter Try.func4, Try.ntmps4
  go_wp2_with fail
  go_ret
  exact ⟨rfl, Grown.refl _⟩

theorem walk4 (a0 : Int) (a1 : Int) (a2 : Int) (w0 : (Lit.int .i64 a0).wf = true) (w1 : (Lit.int .i64 a1).wf = true) (w2 : (Lit.int .u8 a2).wf = true) (w : World) :
    Calls Try.prog 4 #[.int .i64 a0, .int .i64 a1, .int .u8 a2] w fun e w' => e = .returned (.bool true) ∧ Grown w w' := by
  have hb := bounds_u8 w2
  by_cases h : a0 < 0 ∨ 9999 < a0 ∨ a1 < 0 ∨ 99 < a1
  · exact reads_far a0 a1 a2 w h
  by_cases hn : a1 < 1 ∨ 12 < a1
  · exact reads_out a0 a1 a2 w (by omega) (by omega) (by omega) (by omega) (by omega) (by omega) hn
  · exact reads_in a0 a1 a2 w (by omega) (by omega) (by omega) (by omega) (by omega) (by omega)
end Go.Proofs.Qxb6000488a.MonthW
