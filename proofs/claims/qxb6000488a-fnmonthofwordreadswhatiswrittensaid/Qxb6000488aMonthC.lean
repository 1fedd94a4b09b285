import Derived.Test.Qxb6000488aMonth
import Derived.Test.Qxb6000488aWord
import Derived.Test.Qxb6000488aPlain
set_option linter.unusedVariables false
namespace Go.Proofs.Qxb6000488a.MonthW
open Go.ChangeShapes Go.WideShapes Go.ChangeAt Go.RowKit

theorem split_y (y : Nat) (h : y ≤ 9999) : ((y / 1000 : Nat) : Int) * 1000 + ((y / 100 % 10 : Nat) : Int) * 100 + ((y / 10 % 10 : Nat) : Int) * 10 + ((y % 10 : Nat) : Int) = y := by omega
theorem split_n (n : Nat) (h : n ≤ 99) : ((n / 10 : Nat) : Int) * 10 + ((n % 10 : Nat) : Int) = n := by omega

theorem nat_of (y : Int) (h : 0 ≤ y) : ∃ k : Nat, y = k := ⟨y.toNat, by omega⟩

theorem month24_word_yes (y n l : Int) (w : World) (hy0 : 0 ≤ y) (hy1 : y ≤ 9999) (hn0 : 1 ≤ n) (hn1 : n ≤ 12) (hl0 : 0 ≤ l) (hl1 : l ≤ 255) :
    Calls Try.prog 24 #[.int .u64 (MonthP.acc y n l 8)] w fun e w' => e = .returned (.tuple #[.int .i64 (y * 12 + n - 1), .bool true]) ∧ w' = w := by
  obtain ⟨y, rfl⟩ := nat_of y hy0
  obtain ⟨n, rfl⟩ := nat_of n (by omega)
  obtain ⟨l, rfl⟩ := nat_of l hl0
  rw [MonthP.acc_wd y n l (by omega) (by omega) (by omega)]
  have h0 : y / 1000 < 10 := by omega
  have h1 : y / 100 % 10 < 10 := by omega
  have h2 : y / 10 % 10 < 10 := by omega
  have h3 : y % 10 < 10 := by omega
  have h5 : n / 10 < 10 := by omega
  have h6 : n % 10 < 10 := by omega
  have hl : l < 256 := by omega
  have sy := split_y y (by omega)
  have sn := split_n n (by omega)
  have c := month24_yes _ _ _ _ _ _ _ _ w (MonthP.wd_e3 _ _ _ _ _ _ _ h0 h1 h2 h3 h5 h6 hl) (MonthP.wd_e7 _ _ _ _ _ _ _ h0 h1 h2 h3 h5 h6 hl) (MonthP.wd_e8 _ _ _ _ _ _ _ h0 h1 h2 h3 h5 h6 hl) (MonthP.wd_e9 _ _ _ _ _ _ _ h0 h1 h2 h3 h5 h6 hl)
    (MonthP.f0 _ _ _ _ _ _ _ h0 h1 h2 h3 h5 h6 hl) (MonthP.f1 _ _ _ _ _ _ _ h0 h1 h2 h3 h5 h6 hl) (MonthP.f2 _ _ _ _ _ _ _ h0 h1 h2 h3 h5 h6 hl) (MonthP.f3 _ _ _ _ _ _ _ h0 h1 h2 h3 h5 h6 hl) (MonthP.f5 _ _ _ _ _ _ _ h0 h1 h2 h3 h5 h6 hl) (MonthP.f6 _ _ _ _ _ _ _ h0 h1 h2 h3 h5 h6 hl)
    (by omega) (by omega) (by omega) (by omega) (by omega) (by omega) (by omega) (by omega) (by omega) (by omega) (by omega) (by omega) (by omega) (by omega)
  rw [sy, sn] at c
  exact c

theorem month24_word_no (y n l : Int) (w : World) (hy0 : 0 ≤ y) (hy1 : y ≤ 9999) (hn0 : 0 ≤ n) (hn1 : n ≤ 99) (hl0 : 0 ≤ l) (hl1 : l ≤ 255) (hn : n < 1 ∨ 12 < n) :
    Calls Try.prog 24 #[.int .u64 (MonthP.acc y n l 8)] w fun e w' => e = .returned (.tuple #[.int .i64 0, .bool false]) ∧ w' = w := by
  obtain ⟨y, rfl⟩ := nat_of y hy0
  obtain ⟨n, rfl⟩ := nat_of n hn0
  obtain ⟨l, rfl⟩ := nat_of l hl0
  rw [MonthP.acc_wd y n l (by omega) (by omega) (by omega)]
  have h0 : y / 1000 < 10 := by omega
  have h1 : y / 100 % 10 < 10 := by omega
  have h2 : y / 10 % 10 < 10 := by omega
  have h3 : y % 10 < 10 := by omega
  have h5 : n / 10 < 10 := by omega
  have h6 : n % 10 < 10 := by omega
  have hl : l < 256 := by omega
  have sn := split_n n (by omega)
  exact month24_no _ _ _ _ _ _ _ _ w (MonthP.wd_e3 _ _ _ _ _ _ _ h0 h1 h2 h3 h5 h6 hl) (MonthP.wd_e7 _ _ _ _ _ _ _ h0 h1 h2 h3 h5 h6 hl) (MonthP.wd_e8 _ _ _ _ _ _ _ h0 h1 h2 h3 h5 h6 hl) (MonthP.wd_e9 _ _ _ _ _ _ _ h0 h1 h2 h3 h5 h6 hl)
    (MonthP.f0 _ _ _ _ _ _ _ h0 h1 h2 h3 h5 h6 hl) (MonthP.f1 _ _ _ _ _ _ _ h0 h1 h2 h3 h5 h6 hl) (MonthP.f2 _ _ _ _ _ _ _ h0 h1 h2 h3 h5 h6 hl) (MonthP.f3 _ _ _ _ _ _ _ h0 h1 h2 h3 h5 h6 hl) (MonthP.f5 _ _ _ _ _ _ _ h0 h1 h2 h3 h5 h6 hl) (MonthP.f6 _ _ _ _ _ _ _ h0 h1 h2 h3 h5 h6 hl)
    (by omega) (by omega) (by omega) (by omega) (by omega) (by omega) (by omega) (by omega) (by omega) (by omega) (by omega) (by omega) (by rw [sn]; exact hn)

theorem month10_yes (y n l : Int) (w : World) (hy0 : 0 ≤ y) (hy1 : y ≤ 9999) (hn0 : 1 ≤ n) (hn1 : n ≤ 12) (hl0 : 0 ≤ l) (hl1 : l ≤ 255) :
    Calls Try.prog 10 #[.int .u64 (MonthP.acc y n l 8)] w fun e w' => e = .returned (.tuple #[.int .i64 (y * 12 + n - 1), .bool true]) ∧ w' = w := by
  have c := fun w => month24_word_yes y n l w hy0 hy1 hn0 hn1 hl0 hl1
  have C : Hid (∀ w, Calls Try.prog 24 #[.int .u64 (MonthP.acc y n l 8)] w fun e w' => e = .returned (.tuple #[.int .i64 (y * 12 + n - 1), .bool true]) ∧ w' = w) := c
  clear c
  generalize MonthP.acc y n l 8 = x at *
  go_enter Try.func10, Try.ntmps10
  go_wp2_with fail
  refine (C.out _).mono ?_
  rintro e w' ⟨rfl, rfl⟩
  go_wp2_with fail
  go_ret2
  exact ⟨rfl, rfl⟩

theorem month10_no (y n l : Int) (w : World) (hy0 : 0 ≤ y) (hy1 : y ≤ 9999) (hn0 : 0 ≤ n) (hn1 : n ≤ 99) (hl0 : 0 ≤ l) (hl1 : l ≤ 255) (hn : n < 1 ∨ 12 < n) :
    Calls Try.prog 10 #[.int .u64 (MonthP.acc y n l 8)] w fun e w' => e = .returned (.tuple #[.int .i64 0, .bool false]) ∧ w' = w := by
  have c := fun w => month24_word_no y n l w hy0 hy1 hn0 hn1 hl0 hl1 hn
  have C : Hid (∀ w, Calls Try.prog 24 #[.int .u64 (MonthP.acc y n l 8)] w fun e w' => e = .returned (.tuple #[.int .i64 0, .bool false]) ∧ w' = w) := c
  clear c hn
  generalize MonthP.acc y n l 8 = x at *
  go_enter Try.func10, Try.ntmps10
  go_wp2_with fail
  refine (C.out _).mono ?_
  rintro e w' ⟨rfl, rfl⟩
  go_wp2_with fail
  go_ret2
  exact ⟨rfl, rfl⟩
end Go.Proofs.Qxb6000488a.MonthW
