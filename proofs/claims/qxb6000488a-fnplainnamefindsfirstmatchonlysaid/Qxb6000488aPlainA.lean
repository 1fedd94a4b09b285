import Derived.Test.Qxb6000488aRows
import Derived.WalkKit
import Derived.ProofKit
import Derived.WalkSpells
import Derived.WalkLawsBesides
import Derived.Outline
import Derived.LoopTactic
set_option linter.unusedVariables false
namespace Go.Proofs.Qxb6000488a.PlainW
open Go.ChangeShapes Go.WideShapes Go.ChangeAt Go.RowKit

/-- What the elements of a slice of strings read as: nothing to read, or the cells from an address on. -/
def View (w : World) (ao : Option Addr) (n : Nat) (S : Nat → ByteArray) : Prop :=
  n = 0 ∨ ∃ b off, ao = some ⟨b, off, none⟩ ∧ ∀ k, k < n → w.cell? ⟨b, off + k, none⟩ = some (.string (S k))

/-- Yes or no; where yes, each of the first n strings is short. -/
def SomeBool (n : Nat) (S : Nat → ByteArray) (e : Ending) : Prop := ∃ r, e = .returned (.bool r) ∧ (r = true → ∀ k, k < n → (S k).size ≤ 1048576)
def SomeInt (e : Ending) : Prop := ∃ t : Int, e = .returned (.int .i64 t) ∧ 0 ≤ t ∧ t ≤ 1048577

set_option maxHeartbeats 400000 in
theorem bytes13_some (ta : Option Addr) (tl tc b off nl nc : Nat) (S : Nat → ByteArray) (w : World) (ht : tl ≤ maxLen) (hn : nl ≤ maxLen)
    (hS : ∀ k, (S k).size ≤ maxLen) (hc : ∀ k, k < nl → w.cell? ⟨b, off + k, none⟩ = some (.string (S k))) :
    Calls Try.prog 13 #[.slice ta tl tc, .slice (some ⟨b, off, none⟩) nl nc] w fun e w' => SomeBool nl S e ∧ w' = w := by
  unfold maxLen at ht hn hS
  by_cases h1 : (1048576 : Int) < tl
  · go_enter Try.func13, Try.ntmps13
    go_wp2
    go_ret
    exact ⟨⟨false, rfl, fun h => absurd h (by simp)⟩, rfl⟩
  by_cases h2 : (1048576 : Int) < nl
  · go_enter Try.func13, Try.ntmps13
    go_wp2
    go_ret
    exact ⟨⟨false, rfl, fun h => absurd h (by simp)⟩, rfl⟩
  by_cases h3 : (1048576 : Int) < (tl : Int) + nl
  · go_enter Try.func13, Try.ntmps13
    go_wp2
    go_ret
    exact ⟨⟨false, rfl, fun h => absurd h (by simp)⟩, rfl⟩
  have HC : Hid (∀ k, k < nl → w.cell? ⟨b, off + k, none⟩ = some (.string (S k))) := hc
  have HS : Hid (∀ k, (S k).size ≤ 2 ^ 63 - 1) := hS
  clear hc hS
  go_enter Try.func13, Try.ntmps13
  go_wp2
  go_loop [5, 6] (fun t i => ∃ (k : Nat) (z : Int), k ≤ nl ∧ i = .int .i64 k ∧ t = .int .i64 z ∧ 0 ≤ z ∧ z ≤ 1048576 ∧ Hid (∀ j, j < k → (S j).size ≤ 1048576)) (fun _ i => nl - (intOf i).toNat)
  case atStart => exact ⟨0, _, Nat.zero_le _, rfl, rfl, by omega, by omega, fun j hj => absurd hj (by omega)⟩
  case round =>
    obtain ⟨k, z, hk, rfl, rfl, hz0, hz1, HZ⟩ := hrel
    by_cases hlt : k < nl
    · have hcx := HC.out k hlt
      have hs := HS.out k
      have HY : Hid ((S k).size ≤ 1048576 → ∀ j, j < k + 1 → (S j).size ≤ 1048576) := fun h j hj => by
        by_cases e : j = k
        · rw [e]; exact h
        · exact HZ.out j (by omega)
      generalize S k = s at hcx hs HY
      by_cases h4 : (1048576 : Int) < s.size
      · go_wp2
        go_ret
        exact ⟨⟨false, rfl, fun h => absurd h (by simp)⟩, rfl⟩
      by_cases h5 : (1048576 : Int) < z + s.size
      · go_wp2
        go_ret
        exact ⟨⟨false, rfl, fun h => absurd h (by simp)⟩, rfl⟩
      go_wp2
      go_round
      case rel => exact ⟨k + 1, _, by omega, by go_num, rfl, by omega, by omega, HY.out (by omega)⟩
      case measure => simp [intOf]; omega
    · go_wp2
      go_ret
      exact ⟨⟨true, rfl, fun _ j hj => HZ.out j (by omega)⟩, rfl⟩

set_option maxHeartbeats 400000 in
theorem bytes13_zero (ta na : Option Addr) (tl tc nc : Nat) (S : Nat → ByteArray) (w : World) (ht : tl ≤ maxLen) :
    Calls Try.prog 13 #[.slice ta tl tc, .slice na 0 nc] w fun e w' => SomeBool 0 S e ∧ w' = w := by
  unfold maxLen at ht
  by_cases h1 : (1048576 : Int) < tl
  · go_enter Try.func13, Try.ntmps13
    go_wp2
    go_ret
    exact ⟨⟨_, rfl, fun _ k hk => absurd hk (by omega)⟩, rfl⟩
  go_enter Try.func13, Try.ntmps13
  go_wp2
  go_loop [5, 6] (fun t i => i = .int .i64 0) (fun _ _ => 0)
  case atStart => rfl
  case round =>
    subst hrel
    go_wp2
    go_ret
    exact ⟨⟨_, rfl, fun _ k hk => absurd hk (by omega)⟩, rfl⟩

theorem bytes13 (ta na : Option Addr) (tl tc nl nc : Nat) (S : Nat → ByteArray) (w : World) (ht : tl ≤ maxLen) (hn : nl ≤ maxLen)
    (hS : ∀ k, (S k).size ≤ maxLen) (hv : View w na nl S) :
    Calls Try.prog 13 #[.slice ta tl tc, .slice na nl nc] w fun e w' => SomeBool nl S e ∧ w' = w := by
  rcases hv with rfl | ⟨b, off, rfl, hc⟩
  · exact bytes13_zero ta na tl tc nc S w ht
  · exact bytes13_some ta tl tc b off nl nc S w ht hn hS hc

set_option maxHeartbeats 400000 in
theorem list14_some (b off nl nc : Nat) (S : Nat → ByteArray) (w : World) (hn : nl ≤ maxLen)
    (hS : ∀ k, k < nl → (S k).size ≤ 1048576) (hc : ∀ k, k < nl → w.cell? ⟨b, off + k, none⟩ = some (.string (S k))) :
    Calls Try.prog 14 #[.slice (some ⟨b, off, none⟩) nl nc] w fun e w' => SomeInt e ∧ w' = w := by
  unfold maxLen at hn
  have HC : Hid (∀ k, k < nl → w.cell? ⟨b, off + k, none⟩ = some (.string (S k))) := hc
  have HS : Hid (∀ k, k < nl → (S k).size ≤ 1048576) := hS
  clear hc hS
  go_enter Try.func14, Try.ntmps14
  go_wp2
  go_loop [3, 4] (fun t i => ∃ (k : Nat) (z : Int), k ≤ nl ∧ i = .int .i64 k ∧ t = .int .i64 z ∧ 0 ≤ z ∧ z ≤ 1048576) (fun _ i => nl - (intOf i).toNat)
  case atStart => exact ⟨0, _, Nat.zero_le _, rfl, rfl, by omega, by omega⟩
  case round =>
    obtain ⟨k, z, hk, rfl, rfl, hz0, hz1⟩ := hrel
    by_cases hlt : k < nl
    · have hcx := HC.out k hlt
      have hs := HS.out k hlt
      generalize S k = s at hcx hs
      by_cases h5 : (1048576 : Int) < z + (16 + s.size)
      · go_wp2
        go_ret
        exact ⟨⟨_, rfl, by omega, by omega⟩, rfl⟩
      go_wp2
      go_round
      case rel => exact ⟨k + 1, _, by omega, by go_num, rfl, by omega, by omega⟩
      case measure => simp [intOf]; omega
    · go_wp2
      go_ret
      exact ⟨⟨_, rfl, by omega, by omega⟩, rfl⟩

set_option maxHeartbeats 400000 in
theorem list14_zero (na : Option Addr) (nc : Nat) (w : World) :
    Calls Try.prog 14 #[.slice na 0 nc] w fun e w' => SomeInt e ∧ w' = w := by
  go_enter Try.func14, Try.ntmps14
  go_wp2
  go_loop [3, 4] (fun t i => i = .int .i64 0 ∧ t = .int .i64 0) (fun _ _ => 0)
  case atStart => exact ⟨rfl, rfl⟩
  case round =>
    obtain ⟨rfl, rfl⟩ := hrel
    go_wp2
    go_ret
    exact ⟨⟨_, rfl, by omega, by omega⟩, rfl⟩

theorem list14 (na : Option Addr) (nl nc : Nat) (S : Nat → ByteArray) (w : World) (hn : nl ≤ maxLen)
    (hS : ∀ k, k < nl → (S k).size ≤ 1048576) (hv : View w na nl S) :
    Calls Try.prog 14 #[.slice na nl nc] w fun e w' => SomeInt e ∧ w' = w := by
  rcases hv with rfl | ⟨b, off, rfl, hc⟩
  · exact list14_zero na nc w
  · exact list14_some b off nl nc S w hn hS hc
end Go.Proofs.Qxb6000488a.PlainW
