import Derived.Test.Qxb6600431aRows
import Derived.WalkKit
import Derived.ProofKit
import Derived.WalkSpells
import Derived.WalkLawsBesides
import Derived.Outline
import Derived.LoopTactic
import Derived.Deep.QuietTactic
import Derived.BigQuiet
import Derived.WalkSmall
import Derived.Test.Qxb6600431aBrk
set_option linter.unusedVariables false
namespace Go.Proofs.Qxb6600431a.BrkW
open Go.ChangeShapes Go.WideShapes Go.ChangeAt Go.RowKit

theorem grown_drewN {a w : World} (h : Grown a w) (n : Nat) : Grown a (w.drewN n) := h

set_option maxHeartbeats 400000 in
theorem bytes5 (s : ByteArray) (w : World) (hs : s.size ≤ maxLen) :
    Calls Try.prog 5 #[.string s] w fun e w' => e = .returned (.bool (decide (s.size ≤ 1048576))) ∧ w' = w := by
  unfold maxLen at hs
  by_cases h : (1048576 : Int) < s.size
  · have hd : decide (s.size ≤ 1048576) = false := by simp; omega
    rw [hd]
    go_enter Try.func5, Try.ntmps5
    go_wp2
    go_ret
    exact ⟨rfl, rfl⟩
  · have hd : decide (s.size ≤ 1048576) = true := by simp; omega
    rw [hd]
    go_enter Try.func5, Try.ntmps5
    go_wp2
    go_ret
    exact ⟨rfl, rfl⟩

def patB (k : Nat) : ByteArray := ⟨(BrkP.pat k).toArray⟩

set_option maxHeartbeats 400000 in
theorem text6 (z : Int) (k : Nat) (w : World) (hz : z = k) (hk : k < 5) :
    Calls Try.prog 6 #[.int .i64 z] w fun e w' => e = .returned (.string (patB k)) ∧ w' = w := by
  have hk' : k = 0 ∨ k = 1 ∨ k = 2 ∨ k = 3 ∨ k = 4 := by omega
  rcases hk' with rfl | rfl | rfl | rfl | rfl <;> subst hz <;> go_enter Try.func6, Try.ntmps6 <;> go_wp2 <;> go_ret <;> exact ⟨rfl, rfl⟩

/-- Does p stand at the head of s? As Go's text asks it. -/
def hpB (s p : ByteArray) : Bool := decide (p.size ≤ s.size) && ((s.extract 0 p.size).toList == p.toList)

set_option maxHeartbeats 400000 in
theorem has12 (s p : ByteArray) (w : World) (hs : s.size ≤ 1048576) (hp : p.size ≤ 1048576) :
    Calls Try.prog 12 #[.string s, .string p] w fun e w' => e = .returned (.bool (hpB s p)) ∧ w' = w := by
  by_cases h : (p.size : Int) ≤ s.size
  · have hd : hpB s p = ((s.extract 0 p.size).toList == p.toList) := by unfold hpB; simp; omega
    rw [hd]
    go_enter Try.func12, Try.ntmps12
    go_wp2
    go_ret
    exact ⟨rfl, rfl⟩
  · have hd : hpB s p = false := by unfold hpB; simp; omega
    rw [hd]
    go_enter Try.func12, Try.ntmps12
    go_wp2
    go_ret
    exact ⟨rfl, rfl⟩

theorem at_k (s : ByteArray) (k : Nat) (h : k < s.size) : s.data.toList[k]? = some s[k] := by
  rw [List.getElem?_eq_getElem (by simpa using h)]; rfl
theorem byte_eq {a b : UInt8} (h : ((a.toNat : Int) == (b.toNat : Int)) = true) : a = b := by
  have h' : (a.toNat : Int) = (b.toNat : Int) := by simpa using h
  exact UInt8.toNat_inj.1 (by omega)
theorem byte_ne {a b : UInt8} (h : ((a.toNat : Int) == (b.toNat : Int)) = false) : a ≠ b := by
  rintro rfl
  simp at h

theorem index_at (s : ByteArray) (n : Nat) (i : Int) (hi : i = (n : Int)) (h : n < s.size) : ∀ w : World, (Instr.index 9 (.string s) (.int .i64 i)).run Try.prog w = .ok (.int .u8 (s[n].toNat : Int)) w := by
  intro w
  subst hi
  rw [run_index_string w 9 s .i64 (n : Int) Try.underlying9]
  simp [h]

set_option maxHeartbeats 800000 in
theorem first7 (s p : ByteArray) (w : World) (hs : s.size ≤ 1048576) (hp : p.size ≤ 1048576) (h0 : 0 < p.size) :
    Calls Try.prog 7 #[.string s, .string p] w fun e w' => ∃ f : Nat, e = .returned (.int .i64 f) ∧ BrkP.FI s.data.toList p.data.toList f ∧ Grown w w' := by
  go_enter Try.func7, Try.ntmps7
  go_wp2
  go_loopw [5] (fun i wr => ∃ k : Nat, k ≤ s.size ∧ i = .int .i64 k ∧ Hid (∀ j, j < k → BrkP.mt s.data.toList p.data.toList j = false) ∧ Grown w wr) (fun i _ => s.size + 1 - (intOf i).toNat)
  case atStart => exact ⟨0, Nat.zero_le _, rfl, fun j hj => absurd hj (by omega), Grown.refl _⟩
  case round =>
    obtain ⟨k, hk, rfl, HN, hg⟩ := hrel
    obtain ⟨wo, hwo⟩ : ∃ wo : World, wo = wr := ⟨_, rfl⟩
    subst hwo
    by_cases hfit : (k : Int) + p.size ≤ s.size
    · go_wp2
      go_loopw [6] (fun i wr => ∃ j : Nat, j ≤ p.size ∧ i = .int .i64 j ∧ Hid (∀ t, t < j → s.data.toList[k + t]? = p.data.toList[t]?) ∧ Grown w wr) (fun i _ => p.size - (intOf i).toNat)
      case atStart => exact ⟨0, Nat.zero_le _, rfl, fun j hj => absurd hj (by omega), hg⟩
      case round =>
        obtain ⟨j, hj, rfl, HJ, hg2⟩ := hrel
        by_cases hjl : (j : Int) < p.size
        · have hb1 : (k : Int) + j < s.size := by omega
          have hw1 : IntKind.i64.wrap ((k : Int) + (j : Int)) = (k : Int) + (j : Int) := by rw [IntKind.wrap_i64]; omega
          have hjn : j < p.size := by omega
          have hkn : k + j < s.size := by omega
          have hix := index_at s (k + j) ((k : Int) + (j : Int)) (by omega) hkn
          go_wp2
          go_quiet (fail)
          go_wp2
          · have hc : ((s[k + j].toNat : Int) == (p[j].toNat : Int)) = true := by assumption
            go_roundw
            case rel =>
              refine ⟨j + 1, by omega, by go_num, fun t ht => ?_, grown_drewN hg2 _⟩
              by_cases e : t = j
              · rw [e, at_k s _ hkn, at_k p _ hjn, byte_eq hc]
              · exact HJ.out t (by omega)
            case measure => simp [intOf]; omega
          · have hc : ((s[k + j].toNat : Int) == (p[j].toNat : Int)) = false := by assumption
            go_roundw
            case rel =>
              refine ⟨k + 1, by omega, by go_num, fun t ht => ?_, grown_drewN hg2 _⟩
              by_cases e : t = k
              · rw [e]
                refine BrkP.mt_no _ _ k j (by simpa using hjn) ?_
                rw [at_k s _ hkn, at_k p _ hjn]
                intro h
                exact byte_ne hc (Option.some.inj h)
              · exact HN.out t (by omega)
            case measure => simp [intOf]; omega
        · have hd : decide (j < p.size) = false := by simp; omega
          go_wp2
          go_quiet (fail)
          go_wp2
          go_ret
          refine ⟨k, rfl, ⟨by simp; omega, HN.out, fun _ => BrkP.mt_of _ _ _ (fun t ht => HJ.out t ?_)⟩, grown_drewN hg2 _⟩
          have : p.data.toList.length = p.size := by simp
          omega
    · go_wp2
      go_ret
      have ls : s.data.toList.length = s.size := by simp
      have lp : p.data.toList.length = p.size := by simp
      refine ⟨s.size, rfl, ⟨by omega, fun j hj => ?_, fun h => absurd h (by omega)⟩, hg⟩
      by_cases e : j < k
      · exact HN.out j e
      · exact BrkP.mt_short _ _ _ (by omega) (by omega)
end Go.Proofs.Qxb6600431a.BrkW
