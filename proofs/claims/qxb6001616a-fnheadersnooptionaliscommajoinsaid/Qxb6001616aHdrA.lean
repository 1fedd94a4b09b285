import Derived.Test.Qxb6001616aRows
import Derived.WalkKit
import Derived.ProofKit
import Derived.WalkSpells
import Derived.WalkLawsBesides
import Derived.Outline
import Derived.LoopTactic
set_option linter.unusedVariables false
namespace Go.Proofs.Qxb6001616a.HdrW
open Go.ChangeShapes Go.WideShapes Go.ChangeAt Go.RowKit

/-- A slice of strings that came in. -/
def InS (w : World) (ao : Option Addr) (len cap : Nat) (S : Nat → ByteArray) : Prop :=
  (ao = none ∧ len = 0 ∧ cap = 0) ∨ (∃ a, ao = some a ∧ len = 0) ∨ ∃ b off, ao = some ⟨b, off, none⟩ ∧ b < w.heap.size ∧ ∀ k, k < len → w.cell? ⟨b, off + k, none⟩ = some (.string (S k))

/-- Yes or no; where yes, each of the first n strings is short. -/
def SomeBool (n : Nat) (S : Nat → ByteArray) (e : Ending) : Prop := ∃ r, e = .returned (.bool r) ∧ (r = true → ∀ k, k < n → (S k).size ≤ 1048576)
/-- Yes or no; where yes, there are few. -/
def FewBool (n : Nat) (e : Ending) : Prop := ∃ r, e = .returned (.bool r) ∧ (r = true → n ≤ 512)

set_option maxHeartbeats 400000 in
theorem bytes5_some (b off nl nc : Nat) (S : Nat → ByteArray) (w : World) (hn : nl ≤ maxLen)
    (hS : ∀ k, (S k).size ≤ maxLen) (hc : ∀ k, k < nl → w.cell? ⟨b, off + k, none⟩ = some (.string (S k))) :
    Calls Try.prog 5 #[.slice (some ⟨b, off, none⟩) nl nc] w fun e w' => SomeBool nl S e ∧ w = w' := by
  unfold maxLen at hn hS
  by_cases h2 : (1048576 : Int) < nl
  · go_enter Try.func5, Try.ntmps5
    go_wp2
    go_ret
    exact ⟨⟨false, rfl, fun h => absurd h (by simp)⟩, rfl⟩
  have HC : Hid (∀ k, k < nl → w.cell? ⟨b, off + k, none⟩ = some (.string (S k))) := hc
  have HS : Hid (∀ k, (S k).size ≤ 2 ^ 63 - 1) := hS
  clear hc hS
  go_enter Try.func5, Try.ntmps5
  go_wp2
  go_loop [3, 4] (fun t i => ∃ (k : Nat) (z : Int), k ≤ nl ∧ i = .int .i64 k ∧ t = .int .i64 z ∧ 0 ≤ z ∧ z ≤ 1048576 ∧ Hid (∀ j, j < k → (S j).size ≤ 1048576)) (fun _ i => nl - (intOf i).toNat)
  case atStart => exact ⟨0, _, Nat.zero_le _, rfl, rfl, by omega, by omega, fun j hj => absurd hj (by omega)⟩
  case round =>
    obtain ⟨k, z, hk, rfl, rfl, hz0, hz1, HZ⟩ := hrel
    by_cases hlt : k < nl
    · have hcx := HC.out k hlt
      have hs := HS.out k
      have HY : Hid ((S k).size ≤ 1048576 → ∀ j, j < k + 1 → (S j).size ≤ 1048576) := fun h j hj => by
        by_cases e : j = k
        · rw [e]; exact h
        · exact HZ.out j (by omega)
      generalize S k = s at hcx hs HY
      by_cases h4 : (1048576 : Int) < s.size
      · go_wp2
        go_ret
        exact ⟨⟨false, rfl, fun h => absurd h (by simp)⟩, rfl⟩
      by_cases h5 : (1048576 : Int) < z + s.size
      · go_wp2
        go_ret
        exact ⟨⟨false, rfl, fun h => absurd h (by simp)⟩, rfl⟩
      go_wp2
      go_round
      case rel => exact ⟨k + 1, _, by omega, by go_num, rfl, by omega, by omega, HY.out (by omega)⟩
      case measure => simp [intOf]; omega
    · go_wp2
      go_ret
      exact ⟨⟨true, rfl, fun _ j hj => HZ.out j (by omega)⟩, rfl⟩

set_option maxHeartbeats 400000 in
theorem bytes5_zero (na : Option Addr) (nc : Nat) (S : Nat → ByteArray) (w : World) :
    Calls Try.prog 5 #[.slice na 0 nc] w fun e w' => SomeBool 0 S e ∧ w = w' := by
  go_enter Try.func5, Try.ntmps5
  go_wp2
  go_loop [3, 4] (fun t i => i = .int .i64 0) (fun _ _ => 0)
  case atStart => rfl
  case round =>
    subst hrel
    go_wp2
    go_ret
    exact ⟨⟨_, rfl, fun _ k hk => absurd hk (by omega)⟩, rfl⟩

theorem bytes5 (na : Option Addr) (nl nc : Nat) (S : Nat → ByteArray) (w : World) (hn : nl ≤ maxLen)
    (hS : ∀ k, (S k).size ≤ maxLen) (hi : InS w na nl nc S) :
    Calls Try.prog 5 #[.slice na nl nc] w fun e w' => SomeBool nl S e ∧ w = w' := by
  rcases hi with ⟨rfl, rfl, rfl⟩ | ⟨a, rfl, rfl⟩ | ⟨b, off, rfl, _, hc⟩
  · exact bytes5_zero none 0 S w
  · exact bytes5_zero (some a) nc S w
  · exact bytes5_some b off nl nc S w hn hS hc

set_option maxHeartbeats 400000 in
theorem bytes10_some (b off nl nc : Nat) (opt : Int) (S : Nat → ByteArray) (w : World) (hn : nl ≤ maxLen)
    (hS : ∀ k, (S k).size ≤ maxLen) (hc : ∀ k, k < nl → w.cell? ⟨b, off + k, none⟩ = some (.string (S k))) :
    Calls Try.prog 10 #[.slice (some ⟨b, off, none⟩) nl nc, .int .i64 opt] w fun e w' => SomeBool nl S e ∧ w = w' := by
  unfold maxLen at hn hS
  by_cases h2 : (1048576 : Int) < nl
  · go_enter Try.func10, Try.ntmps10
    go_wp2
    go_ret
    exact ⟨⟨false, rfl, fun h => absurd h (by simp)⟩, rfl⟩
  have HC : Hid (∀ k, k < nl → w.cell? ⟨b, off + k, none⟩ = some (.string (S k))) := hc
  have HS : Hid (∀ k, (S k).size ≤ 2 ^ 63 - 1) := hS
  clear hc hS
  go_enter Try.func10, Try.ntmps10
  go_wp2
  go_loop [5, 6] (fun t i => ∃ (k : Nat) (z : Int), k ≤ nl ∧ i = .int .i64 k ∧ t = .int .i64 z ∧ 0 ≤ z ∧ z ≤ 1048576 ∧ Hid (∀ j, j < k → (S j).size ≤ 1048576)) (fun _ i => nl - (intOf i).toNat)
  case atStart => exact ⟨0, _, Nat.zero_le _, rfl, rfl, by omega, by omega, fun j hj => absurd hj (by omega)⟩
  case round =>
    obtain ⟨k, z, hk, rfl, rfl, hz0, hz1, HZ⟩ := hrel
    by_cases hlt : k < nl
    · have hcx := HC.out k hlt
      have hs := HS.out k
      have HY : Hid ((S k).size ≤ 1048576 → ∀ j, j < k + 1 → (S j).size ≤ 1048576) := fun h j hj => by
        by_cases e : j = k
        · rw [e]; exact h
        · exact HZ.out j (by omega)
      generalize S k = s at hcx hs HY
      by_cases h4 : (1048576 : Int) < s.size
      · go_wp2
        go_ret
        exact ⟨⟨false, rfl, fun h => absurd h (by simp)⟩, rfl⟩
      by_cases h5 : (1048576 : Int) < z + s.size
      · go_wp2
        go_ret
        exact ⟨⟨false, rfl, fun h => absurd h (by simp)⟩, rfl⟩
      go_wp2
      go_round
      case rel => exact ⟨k + 1, _, by omega, by go_num, rfl, by omega, by omega, HY.out (by omega)⟩
      case measure => simp [intOf]; omega
    · go_wp2
      go_ret
      exact ⟨⟨true, rfl, fun _ j hj => HZ.out j (by omega)⟩, rfl⟩

set_option maxHeartbeats 400000 in
theorem bytes10_zero (na : Option Addr) (nc : Nat) (opt : Int) (S : Nat → ByteArray) (w : World) :
    Calls Try.prog 10 #[.slice na 0 nc, .int .i64 opt] w fun e w' => SomeBool 0 S e ∧ w = w' := by
  go_enter Try.func10, Try.ntmps10
  go_wp2
  go_loop [5, 6] (fun t i => i = .int .i64 0) (fun _ _ => 0)
  case atStart => rfl
  case round =>
    subst hrel
    go_wp2
    go_ret
    exact ⟨⟨_, rfl, fun _ k hk => absurd hk (by omega)⟩, rfl⟩

theorem bytes10 (na : Option Addr) (nl nc : Nat) (opt : Int) (S : Nat → ByteArray) (w : World) (hn : nl ≤ maxLen)
    (hS : ∀ k, (S k).size ≤ maxLen) (hi : InS w na nl nc S) :
    Calls Try.prog 10 #[.slice na nl nc, .int .i64 opt] w fun e w' => SomeBool nl S e ∧ w = w' := by
  rcases hi with ⟨rfl, rfl, rfl⟩ | ⟨a, rfl, rfl⟩ | ⟨b, off, rfl, _, hc⟩
  · exact bytes10_zero none 0 opt S w
  · exact bytes10_zero (some a) nc opt S w
  · exact bytes10_some b off nl nc opt S w hn hS hc

set_option maxHeartbeats 400000 in
theorem small6_some (b off nl nc : Nat) (S : Nat → ByteArray) (w : World) (hn : nl ≤ maxLen)
    (hS : ∀ k, k < nl → (S k).size ≤ 1048576) (hc : ∀ k, k < nl → w.cell? ⟨b, off + k, none⟩ = some (.string (S k))) :
    Calls Try.prog 6 #[.slice (some ⟨b, off, none⟩) nl nc] w fun e w' => FewBool nl e ∧ w = w' := by
  unfold maxLen at hn
  by_cases h2 : (512 : Int) < nl
  · go_enter Try.func6, Try.ntmps6
    go_wp2
    go_ret
    exact ⟨⟨false, rfl, fun h => absurd h (by simp)⟩, rfl⟩
  have HC : Hid (∀ k, k < nl → w.cell? ⟨b, off + k, none⟩ = some (.string (S k))) := hc
  have HS : Hid (∀ k, k < nl → (S k).size ≤ 1048576) := hS
  clear hc hS
  go_enter Try.func6, Try.ntmps6
  go_wp2
  go_loop [3, 4] (fun t i => ∃ (k : Nat) (z : Int), k ≤ nl ∧ i = .int .i64 k ∧ t = .int .i64 z ∧ 0 ≤ z ∧ z ≤ 65536) (fun _ i => nl - (intOf i).toNat)
  case atStart => exact ⟨0, _, Nat.zero_le _, rfl, rfl, by omega, by omega⟩
  case round =>
    obtain ⟨k, z, hk, rfl, rfl, hz0, hz1⟩ := hrel
    by_cases hlt : k < nl
    · have hcx := HC.out k hlt
      have hs := HS.out k hlt
      generalize S k = s at hcx hs
      by_cases h5 : (65536 : Int) < z + s.size
      · go_wp2
        go_ret
        exact ⟨⟨false, rfl, fun h => absurd h (by simp)⟩, rfl⟩
      go_wp2
      go_round
      case rel => exact ⟨k + 1, _, by omega, by go_num, rfl, by omega, by omega⟩
      case measure => simp [intOf]; omega
    · go_wp2
      go_ret
      exact ⟨⟨true, rfl, fun _ => by omega⟩, rfl⟩

set_option maxHeartbeats 400000 in
theorem small6_zero (na : Option Addr) (nc : Nat) (w : World) :
    Calls Try.prog 6 #[.slice na 0 nc] w fun e w' => FewBool 0 e ∧ w = w' := by
  go_enter Try.func6, Try.ntmps6
  go_wp2
  go_loop [3, 4] (fun t i => i = .int .i64 0) (fun _ _ => 0)
  case atStart => rfl
  case round =>
    subst hrel
    go_wp2
    go_ret
    exact ⟨⟨_, rfl, fun _ => by omega⟩, rfl⟩

theorem small6 (na : Option Addr) (nl nc : Nat) (S : Nat → ByteArray) (w : World) (hn : nl ≤ maxLen)
    (hS : ∀ k, k < nl → (S k).size ≤ 1048576) (hi : InS w na nl nc S) :
    Calls Try.prog 6 #[.slice na nl nc] w fun e w' => FewBool nl e ∧ w = w' := by
  rcases hi with ⟨rfl, rfl, rfl⟩ | ⟨a, rfl, rfl⟩ | ⟨b, off, rfl, _, hc⟩
  · exact small6_zero none 0 w
  · exact small6_zero (some a) nc w
  · exact small6_some b off nl nc S w hn hS hc
end Go.Proofs.Qxb6001616a.HdrW
