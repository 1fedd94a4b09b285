import Derived.Test.Qxb6600431aBrkW
import Derived.Lib.Strings
set_option linter.unusedVariables false
namespace Go.Proofs.Qxb6600431a.BrkW
open Go.ChangeShapes Go.WideShapes Go.ChangeAt Go.RowKit

theorem has11 (s p : ByteArray) (w : World) (hs : s.size ≤ 1048576) (hp : p.size ≤ 1048576) :
    Calls Try.prog 11 #[.string s, .string p] w fun e w' => e = .returned (.bool (hpB s p)) ∧ w' = w := by
  go_enter Try.func11, Try.ntmps11
  go_wp2_with fail
  refine (has12 s p _ hs hp).mono ?_
  rintro e w' ⟨rfl, rfl⟩
  go_wp2_with fail
  go_ret
  exact ⟨rfl, rfl⟩

theorem hp_mt (s p : ByteArray) (k : Nat) (hk : k ≤ s.size) (h0 : 0 < p.size) : hpB (s.extract k s.size) p = BrkP.mt s.data.toList p.data.toList k := by
  have ls : s.data.toList.length = s.size := by simp
  have lp : p.data.toList.length = p.size := by simp
  have le : (s.extract k s.size).size = s.size - k := by simp
  unfold hpB
  by_cases h : p.size ≤ s.size - k
  · rw [le, decide_eq_true h, Bool.true_and]
    unfold BrkP.mt
    have e : ((s.extract k s.size).extract 0 p.size).toList = (s.data.toList.drop k).take p.data.toList.length := by
      rw [ByteArray.toList_eq, Lib.extract_data, Lib.extract_data, lp, List.drop_zero, Nat.sub_zero, List.take_of_length_le (i := s.size - k) (by simp)]
    rw [e, ByteArray.toList_eq]
  · rw [le, decide_eq_false h, Bool.false_and]
    exact (BrkP.mt_short _ _ _ (by omega) (by omega)).symm

theorem c_yes {c : UInt8} (n : Nat) (h : c = UInt8.ofNat n) (hn : n < 256) : (c.toNat : Int) = (n : Int) := by
  subst h
  have : (UInt8.ofNat n).toNat = n := by simp; omega
  rw [this]
theorem c_no {c : UInt8} (n : Nat) (h : c ≠ UInt8.ofNat n) (hn : n < 256) : ¬ (c.toNat : Int) = (n : Int) := by
  intro e
  exact h (UInt8.toNat_inj.1 (by simp; omega))
theorem c_nob {c : UInt8} (n : Nat) (h : c ≠ UInt8.ofNat n) (hn : n < 256) : ((c.toNat : Int) == (n : Int)) = false := by
  rw [beq_eq_false_iff_ne]
  exact c_no n h hn

theorem one_yes (L : List UInt8) (k : Nat) (c : UInt8) (h : L[k]? = some c) : BrkP.mt L [c] k = true := by
  refine BrkP.mt_of _ _ _ (fun t ht => ?_)
  obtain rfl : t = 0 := by simp at ht; omega
  simpa using h

theorem head_no (L : List UInt8) (k : Nat) (c a : UInt8) (r : List UInt8) (h : L[k]? = some c) (hne : c ≠ a) : BrkP.mt L (a :: r) k = false := by
  refine BrkP.mt_no _ _ k 0 (by simp) ?_
  rw [Nat.add_zero, h]
  simpa using hne

/-- No break stands here. -/
theorem none_at (L : List UInt8) (k : Nat) (c : UInt8) (h : L[k]? = some c) (h1 : c ≠ 10) (h2 : c ≠ 13) (h3 : c = 194 → BrkP.mt L (BrkP.pat 2) k = false)
    (h4 : c = 226 → BrkP.mt L (BrkP.pat 3) k = false ∧ BrkP.mt L (BrkP.pat 4) k = false) : ∀ q, q < 5 → BrkP.mt L (BrkP.pat q) k = false := by
  intro q hq
  have hq' : q = 0 ∨ q = 1 ∨ q = 2 ∨ q = 3 ∨ q = 4 := by omega
  rcases hq' with rfl | rfl | rfl | rfl | rfl
  · exact head_no L k c 10 [] h h1
  · exact head_no L k c 13 [] h h2
  · by_cases e : c = 194
    · exact h3 e
    · exact head_no L k c 194 [133] h e
  · by_cases e : c = 226
    · exact (h4 e).1
    · exact head_no L k c 226 [128, 168] h e
  · by_cases e : c = 226
    · exact (h4 e).2
    · exact head_no L k c 226 [128, 169] h e

theorem NB_at (L : List UInt8) (k l q : Nat) (hk : k < L.length) (hno : ∀ j, j < k → ∀ q, q < 5 → BrkP.mt L (BrkP.pat q) j = false) (hq : q < 5) (hm : BrkP.mt L (BrkP.pat q) k = true) (hl : l = (BrkP.pat q).length) : BrkP.NB 5 L k l :=
  ⟨by omega, hno, fun _ => ⟨q, hq, hm, hl⟩, fun e => by omega⟩

/-- What nextBreak answers. -/
def NBE (L : List UInt8) (e : Ending) : Prop := ∃ i l : Nat, e = .returned (.tuple #[.int .i64 i, .int .i64 l]) ∧ BrkP.NB 5 L i l

set_option maxHeartbeats 1600000 in
theorem next10 (s : ByteArray) (w : World) (hs : s.size ≤ 1048576) :
    Calls Try.prog 10 #[.string s] w fun e w' => NBE s.data.toList e ∧ w' = w := by
  go_enter Try.func10, Try.ntmps10
  go_wp2
  go_loop [4] (fun i => ∃ k : Nat, k ≤ s.size ∧ i = .int .i64 k ∧ Hid (∀ j, j < k → ∀ q, q < 5 → BrkP.mt s.data.toList (BrkP.pat q) j = false)) (fun i => s.size - (intOf i).toNat)
  case atStart => exact ⟨0, Nat.zero_le _, rfl, fun j hj => absurd hj (by omega)⟩
  case round =>
    obtain ⟨k, hk, rfl, HN⟩ := hrel
    by_cases hlt : k < s.size
    · have HA : Hid (s.data.toList[k]? = some s[k]) := at_k s k hlt
      have HM : Hid (∀ p : ByteArray, 0 < p.size → hpB (s.extract k s.size) p = BrkP.mt s.data.toList p.data.toList k) := fun p hp => hp_mt s p k hk hp
      have hes : (s.extract k s.size).size ≤ 1048576 := by simp; omega
      by_cases h10 : s[k] = 10
      · have b10 : (s[k].toNat : Int) = 10 := c_yes 10 h10 (by omega)
        have H : Hid (BrkP.NB 5 s.data.toList k 1) := NB_at _ _ _ 0 (by simpa using hlt) HN.out (by omega) (one_yes _ _ _ (HA.out.trans (congrArg some h10))) rfl
        clear h10 hes
        go_wp2
        go_ret2
        exact ⟨⟨k, 1, rfl, H.out⟩, rfl⟩
      have n10 : ¬ (s[k].toNat : Int) = 10 := c_no 10 h10 (by omega)
      have m10 : ((s[k].toNat : Int) == 10) = false := c_nob 10 h10 (by omega)
      by_cases h13 : s[k] = 13
      · have b13 : (s[k].toNat : Int) = 13 := c_yes 13 h13 (by omega)
        have H : Hid (BrkP.NB 5 s.data.toList k 1) := NB_at _ _ _ 1 (by simpa using hlt) HN.out (by omega) (one_yes _ _ _ (HA.out.trans (congrArg some h13))) rfl
        clear h13 h10 hes m10 n10
        go_wp2
        go_ret2
        exact ⟨⟨k, 1, rfl, H.out⟩, rfl⟩
      have n13 : ¬ (s[k].toNat : Int) = 13 := c_no 13 h13 (by omega)
      have m13 : ((s[k].toNat : Int) == 13) = false := c_nob 13 h13 (by omega)
      have HNo : Hid ((s[k] = 194 → BrkP.mt s.data.toList (BrkP.pat 2) k = false) → (s[k] = 226 → BrkP.mt s.data.toList (BrkP.pat 3) k = false ∧ BrkP.mt s.data.toList (BrkP.pat 4) k = false) → ∀ j, j < k + 1 → ∀ q, q < 5 → BrkP.mt s.data.toList (BrkP.pat q) j = false) := fun h3 h4 j hj q hq => by
        by_cases e : j = k
        · rw [e]; exact none_at _ _ _ HA.out h10 h13 h3 h4 q hq
        · exact HN.out j (by omega) q hq
      by_cases h194 : s[k] = 194
      · have b194 : (s[k].toNat : Int) = 194 := c_yes 194 h194 (by omega)
        have hm := HM.out ⟨#[194, 133]⟩ (by decide)
        cases hq : BrkP.mt s.data.toList (BrkP.pat 2) k
        · have hh : hpB (s.extract k s.size) ⟨#[194, 133]⟩ = false := hm.trans hq
          have H : Hid (∀ j, j < k + 1 → ∀ q, q < 5 → BrkP.mt s.data.toList (BrkP.pat q) j = false) := HNo.out (fun _ => hq) (fun e => absurd (h194.symm.trans e) (by decide))
          clear h10 h13 h194 hm hq m10 n10 m13 n13
          go_wp2_with (go_at_call 11; refine (has11 _ _ _ hes (by decide)).mono ?_; rintro e w' ⟨rfl, rfl⟩; rw [hh])
          go_round
          case rel => exact ⟨k + 1, by omega, by go_num, H.out⟩
          case measure => simp [intOf]; omega
        · have hh : hpB (s.extract k s.size) ⟨#[194, 133]⟩ = true := hm.trans hq
          have H : Hid (BrkP.NB 5 s.data.toList k 2) := NB_at _ _ _ 2 (by simpa using hlt) HN.out (by omega) hq rfl
          clear h10 h13 h194 hm hq m10 n10 m13 n13
          go_wp2_with (go_at_call 11; refine (has11 _ _ _ hes (by decide)).mono ?_; rintro e w' ⟨rfl, rfl⟩; rw [hh])
          go_ret2
          exact ⟨⟨k, 2, rfl, H.out⟩, rfl⟩
      have n194 : ¬ (s[k].toNat : Int) = 194 := c_no 194 h194 (by omega)
      have m194 : ((s[k].toNat : Int) == 194) = false := c_nob 194 h194 (by omega)
      by_cases h226 : s[k] = 226
      · have b226 : (s[k].toNat : Int) = 226 := c_yes 226 h226 (by omega)
        have hm3 := HM.out ⟨#[226, 128, 168]⟩ (by decide)
        have hm4 := HM.out ⟨#[226, 128, 169]⟩ (by decide)
        cases hq : BrkP.mt s.data.toList (BrkP.pat 3) k
        · have hh3 : hpB (s.extract k s.size) ⟨#[226, 128, 168]⟩ = false := hm3.trans hq
          cases hr : BrkP.mt s.data.toList (BrkP.pat 4) k
          · have hh4 : hpB (s.extract k s.size) ⟨#[226, 128, 169]⟩ = false := hm4.trans hr
            have H : Hid (∀ j, j < k + 1 → ∀ q, q < 5 → BrkP.mt s.data.toList (BrkP.pat q) j = false) := HNo.out (fun e => absurd e h194) (fun _ => ⟨hq, hr⟩)
            clear h10 h13 h194 h226 hm3 hm4 hq hr m10 n10 m13 n13 m194 n194
            go_wp2_with fail
            refine (has11 _ _ _ hes (by decide)).mono ?_
            rintro e w' ⟨rfl, rfl⟩
            rw [hh3]
            go_wp2_with fail
            refine (has11 _ _ _ hes (by decide)).mono ?_
            rintro e w' ⟨rfl, rfl⟩
            rw [hh4]
            go_wp2_with fail
            go_round
            case rel => exact ⟨k + 1, by omega, by go_num, H.out⟩
            case measure => simp [intOf]; omega
          · have hh4 : hpB (s.extract k s.size) ⟨#[226, 128, 169]⟩ = true := hm4.trans hr
            have H : Hid (BrkP.NB 5 s.data.toList k 3) := NB_at _ _ _ 4 (by simpa using hlt) HN.out (by omega) hr rfl
            clear h10 h13 h194 h226 hm3 hm4 hq hr m10 n10 m13 n13 m194 n194
            go_wp2_with fail
            refine (has11 _ _ _ hes (by decide)).mono ?_
            rintro e w' ⟨rfl, rfl⟩
            rw [hh3]
            go_wp2_with fail
            refine (has11 _ _ _ hes (by decide)).mono ?_
            rintro e w' ⟨rfl, rfl⟩
            rw [hh4]
            go_wp2_with fail
            go_ret2
            exact ⟨⟨k, 3, rfl, H.out⟩, rfl⟩
        · have hh3 : hpB (s.extract k s.size) ⟨#[226, 128, 168]⟩ = true := hm3.trans hq
          have H : Hid (BrkP.NB 5 s.data.toList k 3) := NB_at _ _ _ 3 (by simpa using hlt) HN.out (by omega) hq rfl
          clear h10 h13 h194 h226 hm3 hm4 hq m10 n10 m13 n13 m194 n194
          go_wp2_with fail
          refine (has11 _ _ _ hes (by decide)).mono ?_
          rintro e w' ⟨rfl, rfl⟩
          rw [hh3]
          go_wp2_with fail
          go_ret2
          exact ⟨⟨k, 3, rfl, H.out⟩, rfl⟩
      · have n226 : ¬ (s[k].toNat : Int) = 226 := c_no 226 h226 (by omega)
        have m226 : ((s[k].toNat : Int) == 226) = false := c_nob 226 h226 (by omega)
        have H : Hid (∀ j, j < k + 1 → ∀ q, q < 5 → BrkP.mt s.data.toList (BrkP.pat q) j = false) := HNo.out (fun e => absurd e h194) (fun e => absurd e h226)
        clear h10 h13 h194 h226 hes
        go_wp2_with fail
        go_round
        case rel => exact ⟨k + 1, by omega, by go_num, H.out⟩
        case measure => simp [intOf]; omega
    · go_wp2
      go_ret2
      refine ⟨⟨s.size, 0, rfl, by simp, fun j hj => HN.out j (by omega), fun h => absurd h (by simp), fun _ => rfl⟩, rfl⟩

theorem next8 (s : ByteArray) (w : World) (hs : s.size ≤ 1048576) :
    Calls Try.prog 8 #[.string s] w fun e w' => NBE s.data.toList e ∧ w' = w := by
  go_enter Try.func8, Try.ntmps8
  go_wp2_with fail
  refine (next10 s _ hs).mono ?_
  rintro e w' ⟨⟨i, l, rfl, h⟩, rfl⟩
  have H : Hid (BrkP.NB 5 s.data.toList i l) := h
  clear h
  go_wp2_with fail
  go_ret2
  exact ⟨⟨i, l, rfl, H.out⟩, rfl⟩

theorem patB_pos (k : Nat) : 0 < (patB k).size ∧ (patB k).size ≤ 3 := by
  have e : (patB k).size = (BrkP.pat k).length := by simp [patB, ByteArray.size]
  rw [e]
  match k with
  | 0 => exact ⟨by decide, by decide⟩
  | 1 => exact ⟨by decide, by decide⟩
  | 2 => exact ⟨by decide, by decide⟩
  | 3 => exact ⟨by decide, by decide⟩
  | n + 4 => exact ⟨by show 0 < 3; decide, by show 3 ≤ 3; decide⟩

theorem grown_trans {a b c : World} (h : Grown a b) (g : Grown b c) : Grown a c :=
  ⟨World.keptBut_trans h.1 g.1, fun x => (g.2.1 x).trans (h.2.1 x), Nat.le_trans h.2.2 g.2.2⟩

set_option maxHeartbeats 800000 in
theorem law3 (s : ByteArray) (hs0 : s.size ≤ maxLen) (w : World) :
    Calls Try.prog 3 #[.string s] w fun e w' => e = .returned (.bool true) ∧ Grown w w' := by
  by_cases hs : s.size ≤ 1048576
  · have hd : decide (s.size ≤ 1048576) = true := by simp [hs]
    have HI : Hid (s.size = s.data.toList.length) := by show _ = _; simp
    go_enter Try.func3, Try.ntmps3
    go_wp2_with fail
    refine (bytes5 s _ hs0).mono ?_
    rintro e w' ⟨rfl, hw⟩
    subst hw
    rw [hd]
    go_wp2_with fail
    go_loopw [3, 4, 5] (fun b l i wr => ∃ k i0 l0 : Nat, k ≤ 5 ∧ i = .int .i64 k ∧ b = .int .i64 i0 ∧ l = .int .i64 l0 ∧ i0 ≤ 1048576 ∧ Hid (BrkP.NB k s.data.toList i0 l0) ∧ Grown w' wr) (fun _ _ i _ => 5 - (intOf i).toNat)
    case atStart => exact ⟨0, s.size, 0, by omega, rfl, rfl, rfl, hs, (by have := BrkP.NB_zero s.data.toList; rw [← HI.out] at this; exact this), Grown.refl _⟩
    case round =>
      obtain ⟨k, i0, l0, hk, rfl, rfl, rfl, hi0, HNB, hg⟩ := hrel
      by_cases hlt : k < 5
      · go_wp2_with fail
        refine (text6 k k _ rfl hlt).mono ?_
        rintro e w1 ⟨rfl, rfl⟩
        have hp := patB_pos k
        have HP : Hid ((patB k).data.toList = BrkP.pat k) := rfl
        have HS : Hid ((patB k).size = (BrkP.pat k).length) := by show _ = _; simp [patB, ByteArray.size]
        generalize patB k = p at *
        go_wp2_with fail
        refine (first7 s p _ hs (by omega) hp.1).mono ?_
        rintro e w2 ⟨f, rfl, hf, hg2⟩
        have HF : Hid (BrkP.FI s.data.toList (BrkP.pat k) f) := by rw [← HP.out]; exact hf
        have HG : Hid (Grown w' w2) := grown_trans hg hg2
        have hfs : f ≤ 1048576 := by have := hf.1; have := HI.out; omega
        clear hf hg hg2
        by_cases hfi : (f : Int) < i0
        · have H : Hid (BrkP.NB (k + 1) s.data.toList f p.size) := by rw [HS.out]; exact BrkP.NB_less k _ i0 l0 f HNB.out HF.out (by omega)
          go_wp2_with fail
          go_roundw
          case rel => exact ⟨k + 1, f, p.size, by omega, by go_num, rfl, rfl, hfs, H.out, HG.out⟩
          case measure => simp [intOf]; omega
        · have H : Hid (BrkP.NB (k + 1) s.data.toList i0 l0) := BrkP.NB_more k _ i0 l0 f HNB.out HF.out (by omega)
          go_wp2_with fail
          go_roundw
          case rel => exact ⟨k + 1, i0, l0, by omega, by go_num, rfl, rfl, hi0, H.out, HG.out⟩
          case measure => simp [intOf]; omega
      · obtain rfl : k = 5 := by omega
        go_wp2_with fail
        refine (next8 s _ hs).mono ?_
        rintro e w2 ⟨⟨i, l, rfl, h⟩, hw⟩
        obtain ⟨e1, e2⟩ := BrkP.NB_one _ _ _ _ _ h HNB.out
        subst e1 e2 hw
        have HG : Hid (Grown w' w2) := hg
        clear hg h HNB
        go_wp2_with fail
        go_ret
        exact ⟨rfl, HG.out⟩
  · have hd : decide (s.size ≤ 1048576) = false := by simp [hs]
    go_enter Try.func3, Try.ntmps3
    go_wp2_with fail
    refine (bytes5 s _ hs0).mono ?_
    rintro e w' ⟨rfl, rfl⟩
    rw [hd]
    go_wp2_with fail
    go_ret
    exact ⟨rfl, Grown.refl _⟩
end Go.Proofs.Qxb6600431a.BrkW
