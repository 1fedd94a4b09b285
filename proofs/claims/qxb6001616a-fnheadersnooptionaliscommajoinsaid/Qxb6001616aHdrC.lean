import Derived.Test.Qxb6001616aHdrB
import Derived.Test.Qxb6001616aHdrP
import Derived.Laws.IdiomStrings
set_option linter.unusedVariables false
namespace Go.Proofs.Qxb6001616a.HdrW
open Go.ChangeShapes Go.WideShapes Go.ChangeAt Go.RowKit

theorem take_snoc (s : ByteArray) (k : Nat) (h : k < s.size) : s.data.toList.take (k + 1) = s.data.toList.take k ++ [s[k]] := by
  rw [List.take_succ_eq_append_getElem (by simpa using h)]; rfl

/-- 'string(b)', b the call's own. -/
theorem conv_own {w : World} {B : Nat} {v : Value} {l : List UInt8} (h : w.ownsRow B 5 1 v l.length (Lib.byteCells l)) :
    (convert 28 9 v).run Try.prog w = .ok (.string ⟨l.toArray⟩) w := by
  rcases h.2 with ⟨rfl, h0⟩ | ⟨g, cap, cur, rfl, _⟩
  · obtain rfl : l = [] := List.eq_nil_of_length_eq_zero h0
    exact run_convert_bytes_nil w 28 5 Try.underlying28 Try.underlying5 0 0 9 Try.underlying9
  · refine run_convert_bytes_back (P := Try.prog) w 28 9 5 ⟨g, 0, none⟩ cap l Try.underlying28 Try.underlying5 Try.underlying9 (fun j hj => ?_)
    have := h.cellAt j (by omega)
    rw [Go.WideShapes.add_plain]
    simpa [Lib.byteCells, hj] using this

theorem own_cast {w : World} {B : Nat} {v : Value} {A C : List UInt8} (h : w.ownsRow B 5 1 v A.length (Lib.byteCells A)) (e : C = A) : w.ownsRow B 5 1 v C.length (Lib.byteCells C) := by rw [e]; exact h

set_option maxHeartbeats 1600000 in
theorem join9_some (g n oc : Nat) (S : Nat → ByteArray) (w : World) (h0 : 0 < n) (hn : n ≤ 512) (hg : g < w.heap.size)
    (hS : ∀ k, k < n → (S k).size ≤ 1048576) (hc : ∀ k, k < n → w.cell? ⟨g, k, none⟩ = some (.string (S k))) :
    Calls Try.prog 9 #[.slice (some ⟨g, 0, none⟩) n oc] w fun e w' => e = .returned (.string ⟨(HdrP.J S n).toArray⟩) ∧ Below w.heap.size w w' := by
  obtain ⟨i0, hi, hz0, hz1, hz2⟩ := info_parts info5
  have HC : Hid (∀ k, k < n → w.cell? ⟨g, k, none⟩ = some (.string (S k))) := hc
  have HS : Hid (∀ k, k < n → (S k).size ≤ 1048576) := hS
  clear hc hS
  go_enter Try.func9, Try.ntmps9
  go_wp2
  go_loop [3, 4] (fun t i => ∃ k m : Nat, k ≤ n ∧ i = .int .i64 k ∧ t = .int .i64 m ∧ m ≤ k * 1048576) (fun _ i => n - (intOf i).toNat)
  case atStart => exact ⟨0, 0, Nat.zero_le _, rfl, rfl, by omega⟩
  case round =>
    obtain ⟨k, m, hk, rfl, rfl, hm⟩ := hrel
    by_cases hlt : k < n
    · have hcx := HC.out k hlt
      have hs := HS.out k hlt
      generalize S k = s at hcx hs
      go_wp2
      go_round
      case rel => exact ⟨k + 1, m + s.size, by omega, by go_num, by go_num, by omega⟩
      case measure => simp [intOf]; omega
    · obtain rfl : n = k := by omega
      clear hlt hk
      go_wp2_with (at_make; refine wpList_make_own _ rfl _ _ 28 rfl w.heap.size 5 i0 (.int .u8 0) 1 Try.underlying28 hi hz0 hz1 .i64 .i64 _ (m + (n - 1)) rfl rfl (by omega) (by rw [hz2]; omega) (by unfold maxLen; omega) (Nat.le_refl _) ?_; intro w0 hown0 hgrow0)
      have hb0 : Below w.heap.size w w0 := (Below.refl _ _).grown hgrow0 (Nat.le_refl _) (fun k hk => by simp at hk)
      have HO0 : Hid (w0.ownsRow w.heap.size 5 1 (.slice (some ⟨w.heap.size, 0, none⟩) 0 (m + (n - 1))) 0 []) := hown0
      have HB0 : Hid (Below w.heap.size w w0) := hb0
      clear hown0 hgrow0 hb0
      go_loopw [5, 6] (fun v i wr => ∃ k : Nat, k ≤ n ∧ i = .int .i64 k ∧ wr.ownsRow w.heap.size 5 1 v (HdrP.J S k).length (Lib.byteCells (HdrP.J S k)) ∧ Below w.heap.size w wr) (fun _ i _ => n - (intOf i).toNat)
      case atStart => exact ⟨0, Nat.zero_le _, rfl, HO0.out, HB0.out⟩
      case round =>
        obtain ⟨k, hk, rfl, hown, hnx⟩ := hrel
        clear HO0 HB0
        obtain ⟨wo, hwo⟩ : ∃ wo : World, wo = wr := ⟨_, rfl⟩
        subst hwo
        by_cases hlt : k < n
        · have hcx : wo.cell? ⟨g, k, none⟩ = some (.string (S k)) := (hnx.cell (p := ⟨g, k, none⟩) hg).trans (HC.out k hlt)
          have hs := HS.out k hlt
          have HJ0 : Hid (HdrP.J S (k + 1) = HdrP.pre S k ++ (S k).data.toList) := HdrP.J_succ S k
          have HL : Hid ((HdrP.J S k).length ≤ k * 1048577) := HdrP.J_len S k (fun j hj => by have := HS.out j (by omega); simpa [HdrP.bl] using this)
          obtain ⟨s, hsk⟩ : ∃ s, s = S k := ⟨_, rfl⟩
          rw [← hsk] at hcx hs
          by_cases hk0 : k = 0
          · have hkn : ¬ (0 : Int) < k := by omega
            obtain ⟨P, hP⟩ : ∃ P, P = HdrP.J S k := ⟨_, rfl⟩
            have HP : Hid (P.length ≤ 536870912) := by
              have hl := HL.out
              show _ ≤ _
              rw [hP]; omega
            have HJ : Hid (HdrP.J S (k + 1) = P ++ s.data.toList) := by
              have e : HdrP.pre S k = HdrP.J S k := by rw [hk0]; rfl
              rw [hP, hsk, ← e]; exact HJ0.out
            have HOst : Hid (wo.ownsRow w.heap.size 5 1 _ P.length (Lib.byteCells P)) := own_cast hown hP
            have HBst : Hid (Below w.heap.size w wo) := hnx
            clear hown hnx hP hsk HJ0 HL hk0
            go_wp2
            go_loopw [5, 8] (fun v i wr => ∃ j : Nat, j ≤ s.size ∧ i = .int .i64 j ∧ wr.ownsRow w.heap.size 5 1 v (P ++ (s.data.toList.take j)).length (Lib.byteCells (P ++ (s.data.toList.take j))) ∧ Below w.heap.size w wr) (fun _ i _ => s.size - (intOf i).toNat)
            case atStart => exact ⟨0, Nat.zero_le _, rfl, by simpa using HOst.out, HBst.out⟩
            case round =>
              obtain ⟨j, hj, rfl, hown, hnx⟩ := hrel
              have hpl : (P ++ s.data.toList.take j).length ≤ 537919500 := by
                have := HP.out
                rw [List.length_append, List.length_take]
                omega
              by_cases hjl : j < s.size
              · have HY : Hid (P ++ s.data.toList.take (j + 1) = P ++ s.data.toList.take j ++ [s[j]]) := by
                  show _ = _
                  rw [take_snoc s j hjl, List.append_assoc]
                generalize P ++ s.data.toList.take j = A at *
                go_wp2_with (at_builtin; refine wpList_append_own _ rfl _ _ 28 rfl w.heap.size 5 i0 (.int .u8 0) 1 1 Try.underlying28 hi hz0 hz1 hz2 rfl (by decide) _ _ _ rfl (hown.alloc _) ⟨wr.heap.size, 0, none⟩ 1 1 [.int .u8 (s[j].toNat : Int)] rfl rfl ?ac1 ?ac2 ?ac3 ?ac4 ?ac5 ?_)
                case ac1 =>
                  intro i u hi
                  match i, hi with
                  | 0, hi => simp at hi; subst hi; simp [Addr.add]
                case ac2 => intro u hu; simp at hu; subst hu; rfl
                case ac3 => unfold maxLen; omega
                case ac4 => omega
                case ac5 => have := hnx.size; simp; omega
                intro v' w1 hown' hgrow _
                have R : Below w.heap.size w w1 := (hnx.alloc hnx.size _).grown hgrow (by have := hnx.size; simp; omega) (fun k hk => (hown.lt k hk).1)
                have HO : Hid (w1.ownsRow w.heap.size 5 1 v' (A.length + 1) (Lib.byteCells A ++ [.int .u8 (s[j].toNat : Int)])) := hown'
                have HB : Hid (Below w.heap.size w w1) := R
                clear hown' hgrow hown hnx R
                go_wp2
                go_roundw
                case rel => exact ⟨j + 1, by omega, by go_num, by rw [HY.out]; simpa [Lib.byteCells] using HO.out, HB.out⟩
                case measure => simp [intOf]; omega
              · have HO : Hid (wr.ownsRow w.heap.size 5 1 _ (HdrP.J S (k + 1)).length (Lib.byteCells (HdrP.J S (k + 1)))) := own_cast hown (by rw [HJ.out, List.take_of_length_le (by simp; omega)])
                have HB : Hid (Below w.heap.size w wr) := hnx
                clear hown hnx
                go_wp2
                go_roundw
                case rel => exact ⟨k + 1, by omega, by go_num, HO.out, HB.out⟩
                case measure => simp [intOf]; omega
          · have hkp : (0 : Int) < k := by omega
            have hpl : (HdrP.J S k).length ≤ 536870912 := Nat.le_trans HL.out (by omega)
            obtain ⟨P, hP⟩ : ∃ P, P = HdrP.pre S k := ⟨_, rfl⟩
            have HPP : Hid (P = HdrP.J S k ++ [44]) := by rw [hP]; exact HdrP.pre_pos S k hk0
            have HJ : Hid (HdrP.J S (k + 1) = P ++ s.data.toList) := by rw [hP, hsk]; exact HJ0.out
            have HP : Hid (P.length ≤ 536870913) := by
              have e := HPP.out
              show _ ≤ _
              rw [e]; simp; omega
            clear hP hsk HJ0 HL
            generalize HdrP.J S k = A0 at *
            go_wp2_with (at_builtin; refine wpList_append_own _ rfl (.tmp 40) (.tmp 41) 28 rfl w.heap.size 5 i0 (.int .u8 0) 1 1 Try.underlying28 hi hz0 hz1 hz2 rfl (by decide) _ _ _ rfl (hown.alloc _) ⟨wo.heap.size, 0, none⟩ 1 1 [.int .u8 44] rfl rfl ?d1 ?d2 ?d3 ?d4 ?d5 ?_)
            case d1 =>
              intro i u hi
              match i, hi with
              | 0, hi => simp at hi; subst hi; simp [Addr.add]
            case d2 => intro u hu; simp at hu; subst hu; rfl
            case d3 => unfold maxLen; omega
            case d4 => omega
            case d5 => have := hnx.size; simp; omega
            intro v' w1 hown' hgrow _
            have R : Below w.heap.size w w1 := (hnx.alloc hnx.size _).grown hgrow (by have := hnx.size; simp; omega) (fun k hk => (hown.lt k hk).1)
            have HOst : Hid (w1.ownsRow w.heap.size 5 1 v' P.length (Lib.byteCells P)) := by
              have e := HPP.out
              show World.ownsRow _ _ _ _ _ _ _
              rw [e]
              simpa [Lib.byteCells] using hown'
            have HBst : Hid (Below w.heap.size w w1) := R
            have hcx1 : w1.cell? ⟨g, k, none⟩ = some (.string s) := (R.cell (p := ⟨g, k, none⟩) hg).trans ((hnx.cell (p := ⟨g, k, none⟩) hg).symm.trans hcx)
            clear hown' hgrow hown hnx R hcx HPP
            go_wp2
            go_loopw [5, 8] (fun v i wr => ∃ j : Nat, j ≤ s.size ∧ i = .int .i64 j ∧ wr.ownsRow w.heap.size 5 1 v (P ++ (s.data.toList.take j)).length (Lib.byteCells (P ++ (s.data.toList.take j))) ∧ Below w.heap.size w wr) (fun _ i _ => s.size - (intOf i).toNat)
            case atStart => exact ⟨0, Nat.zero_le _, rfl, by simpa using HOst.out, HBst.out⟩
            case round =>
              obtain ⟨j, hj, rfl, hown, hnx⟩ := hrel
              have hpl : (P ++ s.data.toList.take j).length ≤ 537919500 := by
                have := HP.out
                rw [List.length_append, List.length_take]
                omega
              by_cases hjl : j < s.size
              · have HY : Hid (P ++ s.data.toList.take (j + 1) = P ++ s.data.toList.take j ++ [s[j]]) := by
                  show _ = _
                  rw [take_snoc s j hjl, List.append_assoc]
                generalize P ++ s.data.toList.take j = A at *
                go_wp2_with (at_builtin; refine wpList_append_own _ rfl _ _ 28 rfl w.heap.size 5 i0 (.int .u8 0) 1 1 Try.underlying28 hi hz0 hz1 hz2 rfl (by decide) _ _ _ rfl (hown.alloc _) ⟨wr.heap.size, 0, none⟩ 1 1 [.int .u8 (s[j].toNat : Int)] rfl rfl ?bc1 ?bc2 ?bc3 ?bc4 ?bc5 ?_)
                case bc1 =>
                  intro i u hi
                  match i, hi with
                  | 0, hi => simp at hi; subst hi; simp [Addr.add]
                case bc2 => intro u hu; simp at hu; subst hu; rfl
                case bc3 => unfold maxLen; omega
                case bc4 => omega
                case bc5 => have := hnx.size; simp; omega
                intro v' w1 hown' hgrow _
                have R : Below w.heap.size w w1 := (hnx.alloc hnx.size _).grown hgrow (by have := hnx.size; simp; omega) (fun k hk => (hown.lt k hk).1)
                have HO : Hid (w1.ownsRow w.heap.size 5 1 v' (A.length + 1) (Lib.byteCells A ++ [.int .u8 (s[j].toNat : Int)])) := hown'
                have HB : Hid (Below w.heap.size w w1) := R
                clear hown' hgrow hown hnx R
                go_wp2
                go_roundw
                case rel => exact ⟨j + 1, by omega, by go_num, by rw [HY.out]; simpa [Lib.byteCells] using HO.out, HB.out⟩
                case measure => simp [intOf]; omega
              · have HO : Hid (wr.ownsRow w.heap.size 5 1 _ (HdrP.J S (k + 1)).length (Lib.byteCells (HdrP.J S (k + 1)))) := own_cast hown (by rw [HJ.out, List.take_of_length_le (by simp; omega)])
                have HB : Hid (Below w.heap.size w wr) := hnx
                clear hown hnx
                go_wp2
                go_roundw
                case rel => exact ⟨k + 1, by omega, by go_num, HO.out, HB.out⟩
                case measure => simp [intOf]; omega
        · obtain rfl : n = k := by omega
          have hcv := conv_own hown
          have HB : Hid (Below w.heap.size w wo) := hnx
          clear hown hnx
          go_wp2
          go_ret
          exact ⟨rfl, HB.out⟩

set_option maxHeartbeats 400000 in
theorem join9_zero (oa : Option Addr) (oc : Nat) (S : Nat → ByteArray) (w : World) :
    Calls Try.prog 9 #[.slice oa 0 oc] w fun e w' => e = .returned (.string ⟨(HdrP.J S 0).toArray⟩) ∧ Below w.heap.size w w' := by
  have hmk : ∀ w : World, (Instr.makeSlice 28 (.int .i64 0) (.int .i64 0)).run Try.prog w = .ok (.slice (some ⟨w.heap.size, 0, none⟩) 0 0) (w.alloc (.cells (madeCells #[.int .u8 0] 0) 5)) :=
    run_make_row' (P := Try.prog) 28 5 (.int .u8 0) 1 Try.underlying28 info5 rfl .i64 .i64 0 (by omega) (by omega)
  have hcv : ∀ (w : World) (g : Nat), (convert 28 9 (.slice (some ⟨g, 0, none⟩) 0 0)).run Try.prog w = .ok (.string ⟨#[]⟩) w := fun w g =>
    run_convert_bytes_back (P := Try.prog) w 28 9 5 ⟨g, 0, none⟩ 0 [] Try.underlying28 Try.underlying5 Try.underlying9 (fun j hj => absurd hj (by simp))
  go_enter Try.func9, Try.ntmps9
  go_wp2
  go_loop [3, 4] (fun t i => i = .int .i64 0 ∧ t = .int .i64 0) (fun _ _ => 0)
  case atStart => exact ⟨rfl, rfl⟩
  case round =>
    obtain ⟨rfl, rfl⟩ := hrel
    go_wp2
    go_loop [5, 6] (fun v i => i = .int .i64 0 ∧ v = .slice (some ⟨w.heap.size, 0, none⟩) 0 0) (fun _ _ => 0)
    case atStart => exact ⟨rfl, rfl⟩
    case round =>
      obtain ⟨rfl, rfl⟩ := hrel
      go_wp2
      go_ret
      exact ⟨rfl, (Below.refl _ _).alloc (Nat.le_refl _) _⟩

theorem join9 (oa : Option Addr) (n oc : Nat) (S : Nat → ByteArray) (w : World) (hn : n ≤ 512) (hS : ∀ k, k < n → (S k).size ≤ 1048576) (ho : Own w oa n oc S) :
    Calls Try.prog 9 #[.slice oa n oc] w fun e w' => e = .returned (.string ⟨(HdrP.J S n).toArray⟩) ∧ Below w.heap.size w w' := by
  by_cases h0 : n = 0
  · subst h0; exact join9_zero oa oc S w
  · rcases ho with ⟨_, h, _⟩ | ⟨g, rfl, _, hg, hc⟩
    · exact absurd h h0
    · exact join9_some g n oc S w (by omega) hn hg hS hc
end Go.Proofs.Qxb6001616a.HdrW
