import Derived.Test.Qxb6000488aRangeWalks
namespace Go.Proofs.Qxb6000488a.RangeW
open Go.ChangeShapes Go.WideShapes Go.ChangeAt Go.RowKit

theorem isEmpty_iff (a : ByteArray) : a.toList.isEmpty = decide (a.size = 0) := by
  rw [ByteArray.toList_eq]
  have : a.size = a.data.toList.length := by simp
  rw [this]
  cases a.data.toList <;> simp

theorem nil_iff (a : ByteArray) : a.toList = [] ↔ a.size = 0 := by
  have h := isEmpty_iff a
  constructor
  · intro e; rw [e] at h; simpa using h.symm
  · intro e; simpa [e] using h

set_option maxHeartbeats 400000 in
theorem walk8 (a0 : ByteArray) (a1 : ByteArray) (w0 : a0.size ≤ maxLen) (w1 : a1.size ≤ maxLen) (w : World) :
    Calls Try.prog 8 #[.string a0, .string a1] w fun e w' => e = .returned (.bool true) ∧ Grown w w' := by
  by_cases hs : a0.size + a1.size ≤ 1048576
  · have hd : decide (a0.size + a1.size ≤ 1048576) = true := by simp [hs]
    have h0 : a0.size ≤ 1048576 := by omega
    have h1 : a1.size ≤ 1048576 := by omega
    have hm := rt_first a0 a1
    go_enter Try.func8, Try.ntmps8
    go_wp2_with (first | (go_at_call 19; refine (bytes19 _ _ _ w0 w1).mono ?_; rintro e w' ⟨rfl, rfl⟩; rw [hd]) | (go_at_call 20; refine (range20 _ _ _ h0 h1).mono ?_; rintro e w' ⟨rfl, rfl⟩))
    all_goals
      go_ret
      refine ⟨ret_bool ?_, Grown.refl _⟩
      have hl := rt_size a0 a1
      simp only [isEmpty_iff, nil_iff, decide_eq_true_eq, decide_eq_false_iff_not] at *
      simp; try (first | omega | exact ByteArray.size_eq_zero_iff.1 (by omega))
  · have hd : decide (a0.size + a1.size ≤ 1048576) = false := by simp [hs]
    go_enter Try.func8, Try.ntmps8
    go_wp2_with (go_at_call 19; refine (bytes19 _ _ _ w0 w1).mono ?_; rintro e w' ⟨rfl, rfl⟩; rw [hd])
    go_ret
    exact ⟨rfl, Grown.refl _⟩
end Go.Proofs.Qxb6000488a.RangeW
