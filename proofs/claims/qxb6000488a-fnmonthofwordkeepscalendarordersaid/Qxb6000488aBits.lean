import Derived.Laws.BitsAllLaws
import Derived.Laws.Bits64
set_option linter.unusedVariables false
namespace Go.Proofs.Qxb6000488a.MonthP

/-- One step of the word's writing: eight bits to the left, a byte beside them. -/
theorem or_step (A b : Int) (h0 : 0 ≤ A) (h1 : A ≤ 72057594037927935) (hb0 : 0 ≤ b) (hb1 : b ≤ 255) :
    bits .or .u64 (IntKind.u64.wrap (A * 256)) b = A * 256 + b := by
  obtain ⟨a, rfl⟩ := Int.eq_ofNat_of_zero_le h0
  obtain ⟨c, rfl⟩ := Int.eq_ofNat_of_zero_le hb0
  have e : IntKind.u64.wrap ((a : Int) * 256) = ((a * 256 : Nat) : Int) := by
    rw [IntKind.wrap_u64]; omega
  rw [e, u64_or_nat (a * 256) c (by omega) (by omega), nat_join 8 (a * 256) c (by omega) (by omega)]
  omega

def acc (y n l : Int) : Nat → Int
  | 0 => 0
  | 1 => l
  | 2 => (l) * 256 + (48 + n % 10)
  | 3 => ((l) * 256 + (48 + n % 10)) * 256 + (48 + n / 10)
  | 4 => (((l) * 256 + (48 + n % 10)) * 256 + (48 + n / 10)) * 256 + (45)
  | 5 => ((((l) * 256 + (48 + n % 10)) * 256 + (48 + n / 10)) * 256 + (45)) * 256 + (48 + y % 10)
  | 6 => (((((l) * 256 + (48 + n % 10)) * 256 + (48 + n / 10)) * 256 + (45)) * 256 + (48 + y % 10)) * 256 + (48 + y / 10 % 10)
  | 7 => ((((((l) * 256 + (48 + n % 10)) * 256 + (48 + n / 10)) * 256 + (45)) * 256 + (48 + y % 10)) * 256 + (48 + y / 10 % 10)) * 256 + (48 + y / 100 % 10)
  | _ => (((((((l) * 256 + (48 + n % 10)) * 256 + (48 + n / 10)) * 256 + (45)) * 256 + (48 + y % 10)) * 256 + (48 + y / 10 % 10)) * 256 + (48 + y / 100 % 10)) * 256 + (48 + y / 1000)

theorem step0 (y n l : Int) (hy0 : 0 ≤ y) (hy1 : y ≤ 9999) (hn0 : 0 ≤ n) (hn1 : n ≤ 99) (hl0 : 0 ≤ l) (hl1 : l ≤ 255) (A : Int) (hA : acc y n l 0 = A) :
    bits .or .u64 (IntKind.u64.wrap (A * 256)) (l) = acc y n l 1 := by
  rw [← hA]
  have e : acc y n l 1 = acc y n l 0 * 256 + (l) := by simp [acc]
  rw [e]
  exact or_step _ _ (by simp only [acc]; omega) (by simp only [acc]; omega) (by omega) (by omega)

theorem step1 (y n l : Int) (hy0 : 0 ≤ y) (hy1 : y ≤ 9999) (hn0 : 0 ≤ n) (hn1 : n ≤ 99) (hl0 : 0 ≤ l) (hl1 : l ≤ 255) (A : Int) (hA : acc y n l 1 = A) :
    bits .or .u64 (IntKind.u64.wrap (A * 256)) (48 + n % 10) = acc y n l 2 := by
  rw [← hA]
  have e : acc y n l 2 = acc y n l 1 * 256 + (48 + n % 10) := by simp [acc]
  rw [e]
  exact or_step _ _ (by simp only [acc]; omega) (by simp only [acc]; omega) (by omega) (by omega)

theorem step2 (y n l : Int) (hy0 : 0 ≤ y) (hy1 : y ≤ 9999) (hn0 : 0 ≤ n) (hn1 : n ≤ 99) (hl0 : 0 ≤ l) (hl1 : l ≤ 255) (A : Int) (hA : acc y n l 2 = A) :
    bits .or .u64 (IntKind.u64.wrap (A * 256)) (48 + n / 10) = acc y n l 3 := by
  rw [← hA]
  have e : acc y n l 3 = acc y n l 2 * 256 + (48 + n / 10) := by simp [acc]
  rw [e]
  exact or_step _ _ (by simp only [acc]; omega) (by simp only [acc]; omega) (by omega) (by omega)

theorem step3 (y n l : Int) (hy0 : 0 ≤ y) (hy1 : y ≤ 9999) (hn0 : 0 ≤ n) (hn1 : n ≤ 99) (hl0 : 0 ≤ l) (hl1 : l ≤ 255) (A : Int) (hA : acc y n l 3 = A) :
    bits .or .u64 (IntKind.u64.wrap (A * 256)) (45) = acc y n l 4 := by
  rw [← hA]
  have e : acc y n l 4 = acc y n l 3 * 256 + (45) := by simp [acc]
  rw [e]
  exact or_step _ _ (by simp only [acc]; omega) (by simp only [acc]; omega) (by omega) (by omega)

theorem step4 (y n l : Int) (hy0 : 0 ≤ y) (hy1 : y ≤ 9999) (hn0 : 0 ≤ n) (hn1 : n ≤ 99) (hl0 : 0 ≤ l) (hl1 : l ≤ 255) (A : Int) (hA : acc y n l 4 = A) :
    bits .or .u64 (IntKind.u64.wrap (A * 256)) (48 + y % 10) = acc y n l 5 := by
  rw [← hA]
  have e : acc y n l 5 = acc y n l 4 * 256 + (48 + y % 10) := by simp [acc]
  rw [e]
  exact or_step _ _ (by simp only [acc]; omega) (by simp only [acc]; omega) (by omega) (by omega)

theorem step5 (y n l : Int) (hy0 : 0 ≤ y) (hy1 : y ≤ 9999) (hn0 : 0 ≤ n) (hn1 : n ≤ 99) (hl0 : 0 ≤ l) (hl1 : l ≤ 255) (A : Int) (hA : acc y n l 5 = A) :
    bits .or .u64 (IntKind.u64.wrap (A * 256)) (48 + y / 10 % 10) = acc y n l 6 := by
  rw [← hA]
  have e : acc y n l 6 = acc y n l 5 * 256 + (48 + y / 10 % 10) := by simp [acc]
  rw [e]
  exact or_step _ _ (by simp only [acc]; omega) (by simp only [acc]; omega) (by omega) (by omega)

theorem step6 (y n l : Int) (hy0 : 0 ≤ y) (hy1 : y ≤ 9999) (hn0 : 0 ≤ n) (hn1 : n ≤ 99) (hl0 : 0 ≤ l) (hl1 : l ≤ 255) (A : Int) (hA : acc y n l 6 = A) :
    bits .or .u64 (IntKind.u64.wrap (A * 256)) (48 + y / 100 % 10) = acc y n l 7 := by
  rw [← hA]
  have e : acc y n l 7 = acc y n l 6 * 256 + (48 + y / 100 % 10) := by simp [acc]
  rw [e]
  exact or_step _ _ (by simp only [acc]; omega) (by simp only [acc]; omega) (by omega) (by omega)

theorem step7 (y n l : Int) (hy0 : 0 ≤ y) (hy1 : y ≤ 9999) (hn0 : 0 ≤ n) (hn1 : n ≤ 99) (hl0 : 0 ≤ l) (hl1 : l ≤ 255) (A : Int) (hA : acc y n l 7 = A) :
    bits .or .u64 (IntKind.u64.wrap (A * 256)) (48 + y / 1000) = acc y n l 8 := by
  rw [← hA]
  have e : acc y n l 8 = acc y n l 7 * 256 + (48 + y / 1000) := by simp [acc]
  rw [e]
  exact or_step _ _ (by simp only [acc]; omega) (by simp only [acc]; omega) (by omega) (by omega)
end Go.Proofs.Qxb6000488a.MonthP
