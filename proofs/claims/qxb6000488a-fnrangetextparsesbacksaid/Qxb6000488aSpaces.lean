import Derived.Test.Qxb6000488aRangeWalks
import Derived.LoopTactic
import Derived.OwnWalk
set_option linter.unusedVariables false
namespace Go.Proofs.Qxb6000488a.RangeW
open Go.ChangeShapes Go.WideShapes Go.ChangeAt Go.RowKit

def hasSp (s : ByteArray) : Bool := s.data.toList.contains 32

theorem at_k (s : ByteArray) (k : Nat) (h : k < s.size) : s.data.toList[k]? = some s[k] := by
  rw [List.getElem?_eq_getElem (by simpa using h)]; rfl

theorem sp_yes {c : UInt8} (h : ((c.toNat : Int) == 32) = true) : c = 32 := by
  have h' : (c.toNat : Int) = 32 := by simpa using h
  exact UInt8.toNat_inj.1 (by show c.toNat = 32; omega)

theorem sp_no {c : UInt8} (h : ((c.toNat : Int) == 32) = false) : c ≠ 32 := by
  rintro rfl
  exact absurd h (by decide)

theorem has_yes (s : ByteArray) (k : Nat) (h : k < s.size) (e : s[k] = 32) : true = hasSp s := by
  unfold hasSp
  symm
  rw [List.contains_iff_mem]
  exact List.mem_of_getElem? ((at_k s k h).trans (by rw [e]))

theorem has_no (s : ByteArray) (h : ∀ j, j < s.size → s.data.toList[j]? ≠ some 32) : false = hasSp s := by
  unfold hasSp
  symm
  rw [← Bool.not_eq_true, List.contains_iff_mem]
  intro hm
  obtain ⟨j, hj⟩ := List.getElem?_of_mem hm
  have hjs : j < s.size := by
    obtain ⟨h1, _⟩ := List.getElem?_eq_some_iff.1 hj
    simpa using h1
  exact h j hjs hj

set_option maxHeartbeats 400000 in
theorem space22 (s : ByteArray) (w : World) (hs : s.size ≤ 1048576) :
    Calls Try.prog 22 #[.string s] w fun e w' => e = .returned (.bool (hasSp s)) ∧ w' = w := by
  go_enter Try.func22, Try.ntmps22
  go_wp2
  go_loop [3] (fun i => ∃ k : Nat, k ≤ s.size ∧ i = .int .i64 k ∧ Hid (∀ j, j < k → s.data.toList[j]? ≠ some 32)) (fun i => s.size - (intOf i).toNat)
  case atStart => exact ⟨0, Nat.zero_le _, rfl, fun j hj => absurd hj (by omega)⟩
  case round =>
    obtain ⟨k, hk, rfl, HN⟩ := hrel
    by_cases hlt : k < s.size
    · go_wp2
      · have h : ((s[k].toNat : Int) == 32) = true := by assumption
        go_ret
        exact ⟨ret_bool (has_yes s k hlt (sp_yes h)), rfl⟩
      · have h : ((s[k].toNat : Int) == 32) = false := by assumption
        go_round
        case rel =>
          refine ⟨k + 1, by omega, by go_num, fun j hj => ?_⟩
          by_cases e : j = k
          · rw [e, at_k s k hlt]
            intro h2
            exact sp_no h (Option.some.inj h2)
          · exact HN.out j (by omega)
        case measure => simp [intOf]; omega
    · go_wp2
      go_ret
      exact ⟨ret_bool (has_no s (fun j hj => HN.out j (by omega))), rfl⟩

/-- Where the piece in hand begins, behind k bytes. -/
def st (s : ByteArray) : Nat → Nat
  | 0 => 0
  | k + 1 => if s.data.toList[k]? = some 32 then k + 1 else st s k
/-- The pieces that are whole, behind k bytes. -/
def pcs (s : ByteArray) : Nat → List ByteArray
  | 0 => []
  | k + 1 => if s.data.toList[k]? = some 32 then pcs s k ++ [s.extract (st s k) k] else pcs s k
/-- All pieces. -/
def allP (s : ByteArray) : List ByteArray := pcs s s.size ++ [s.extract (st s s.size) s.size]

theorem st_le (s : ByteArray) (k : Nat) : st s k ≤ k := by
  induction k with
  | zero => simp [st]
  | succ k ih => unfold st; split <;> omega

theorem pcs_le (s : ByteArray) (k : Nat) : (pcs s k).length ≤ k := by
  induction k with
  | zero => simp [pcs]
  | succ k ih =>
    unfold pcs; split
    · simp; omega
    · omega

theorem st_yes (s : ByteArray) (k : Nat) (h : k < s.size) (e : s[k] = 32) : st s (k + 1) = k + 1 := by
  unfold st; rw [if_pos ((at_k s k h).trans (by rw [e]))]
theorem st_no (s : ByteArray) (k : Nat) (h : k < s.size) (e : s[k] ≠ 32) : st s (k + 1) = st s k := by
  rw [st, if_neg (by rw [at_k s k h]; intro h2; exact e (Option.some.inj h2))]
theorem pcs_yes (s : ByteArray) (k : Nat) (h : k < s.size) (e : s[k] = 32) : pcs s (k + 1) = pcs s k ++ [s.extract (st s k) k] := by
  rw [pcs, if_pos ((at_k s k h).trans (by rw [e]))]
theorem pcs_no (s : ByteArray) (k : Nat) (h : k < s.size) (e : s[k] ≠ 32) : pcs s (k + 1) = pcs s k := by
  rw [pcs, if_neg (by rw [at_k s k h]; intro h2; exact e (Option.some.inj h2))]

theorem info9 : (Try.prog.info? 9).map (fun i => (i.zero, i.size, i.bytes)) = some (some (.string ByteArray.empty), 1, 16) := by kernel_rfl

set_option maxHeartbeats 800000 in
theorem split28 (s : ByteArray) (w : World) (hs : s.size ≤ 2097152) :
    Calls Try.prog 28 #[.string s] w fun e w' => ∃ v, e = .returned v ∧ w'.ownsRow w.heap.size 9 1 v (allP s).length ((allP s).map Value.string) ∧ Below w.heap.size w w' := by
  obtain ⟨i0, hi, hz0, hz1, hz2⟩ := info_parts info9
  go_enter Try.func28, Try.ntmps28
  go_wp2
  go_loopw [3, 4, 5] (fun v t i wr => ∃ k : Nat, k ≤ s.size ∧ i = .int .i64 k ∧ t = .int .i64 (st s k) ∧ wr.ownsRow w.heap.size 9 1 v (pcs s k).length ((pcs s k).map Value.string) ∧ Below w.heap.size w wr) (fun _ _ i _ => s.size - (intOf i).toNat)
  case atStart => exact ⟨0, Nat.zero_le _, rfl, rfl, World.ownsRow_nil _ _ _ _, Below.refl _ _⟩
  case round =>
    obtain ⟨k, hk, rfl, rfl, hown, hnx⟩ := hrel
    have hst := st_le s k
    have hpl := pcs_le s k
    by_cases hlt : k < s.size
    · cases hc : ((s[k].toNat : Int) == 32)
      · have hne := sp_no hc
        have HY : Hid (st s (k + 1) = st s k ∧ pcs s (k + 1) = pcs s k) := ⟨st_no s k hlt hne, pcs_no s k hlt hne⟩
        have HO : Hid (wr.ownsRow w.heap.size 9 1 _ (pcs s k).length ((pcs s k).map Value.string)) := hown
        clear hown hne
        go_wp2
        go_roundw
        case rel => exact ⟨k + 1, by omega, by go_num, by rw [HY.out.1], by rw [HY.out.2]; exact HO.out, hnx⟩
        case measure => simp [intOf]; omega
      · have hne := sp_yes hc
        have HY : Hid (st s (k + 1) = k + 1 ∧ pcs s (k + 1) = pcs s k ++ [s.extract (st s k) k]) := ⟨st_yes s k hlt hne, pcs_yes s k hlt hne⟩
        clear hne
        generalize st s k = a at *
        generalize pcs s k = P at *
        go_wp2_with (at_builtin; refine wpList_append_own _ rfl _ _ 33 rfl w.heap.size 9 i0 (.string ByteArray.empty) 1 16 Try.underlying33 hi hz0 hz1 hz2 rfl (by decide) _ _ _ rfl (hown.alloc _) ⟨wr.heap.size, 0, none⟩ 1 1 [.string (s.extract a k)] rfl rfl ?c1 ?c2 ?c3 ?c4 ?c5 ?_)
        case c1 =>
          intro j u hj
          match j, hj with
          | 0, hj => simp at hj; subst hj; simp [Addr.add]
        case c2 => intro u hu; simp at hu; subst hu; rfl
        case c3 => unfold maxLen; omega
        case c4 => omega
        case c5 => have := hnx.size; simp; omega
        intro v' w1 hown' hgrow _
        have R : Below w.heap.size w w1 := (hnx.alloc hnx.size _).grown hgrow (by have := hnx.size; simp; omega) (fun k hk => (hown.lt k hk).1)
        have HO : Hid (w1.ownsRow w.heap.size 9 1 v' (P.length + 1) (List.map Value.string P ++ [Value.string (s.extract a k)])) := hown'
        have HB : Hid (Below w.heap.size w w1) := R
        clear hown' hgrow hown hnx R
        go_wp2
        go_roundw
        case rel => exact ⟨k + 1, by omega, by go_num, by rw [HY.out.1]; go_num, by rw [HY.out.2]; simpa using HO.out, HB.out⟩
        case measure => simp [intOf]; omega
    · obtain rfl : k = s.size := by omega
      have HY : Hid (allP s = pcs s s.size ++ [s.extract (st s s.size) s.size]) := rfl
      generalize st s s.size = a at *
      generalize pcs s s.size = P at *
      go_wp2_with (at_builtin; refine wpList_append_own _ rfl _ _ 33 rfl w.heap.size 9 i0 (.string ByteArray.empty) 1 16 Try.underlying33 hi hz0 hz1 hz2 rfl (by decide) _ _ _ rfl (hown.alloc _) ⟨wr.heap.size, 0, none⟩ 1 1 [.string (s.extract a s.size)] rfl rfl ?d1 ?d2 ?d3 ?d4 ?d5 ?_)
      case d1 =>
        intro j u hj
        match j, hj with
        | 0, hj => simp at hj; subst hj; simp [Addr.add]
      case d2 => intro u hu; simp at hu; subst hu; rfl
      case d3 => unfold maxLen; omega
      case d4 => omega
      case d5 => have := hnx.size; simp; omega
      intro v' w1 hown' hgrow _
      have R : Below w.heap.size w w1 := (hnx.alloc hnx.size _).grown hgrow (by have := hnx.size; simp; omega) (fun k hk => (hown.lt k hk).1)
      have HO : Hid (w1.ownsRow w.heap.size 9 1 v' (P.length + 1) (List.map Value.string P ++ [Value.string (s.extract a s.size)])) := hown'
      have HB : Hid (Below w.heap.size w w1) := R
      clear hown' hgrow hown hnx R
      go_wp2
      go_ret
      exact ⟨_, rfl, by rw [HY.out]; simpa using HO.out, HB.out⟩
end Go.Proofs.Qxb6000488a.RangeW
