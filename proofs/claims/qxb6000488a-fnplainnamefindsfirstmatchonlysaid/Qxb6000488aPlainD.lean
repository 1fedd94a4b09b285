import Derived.Test.Qxb6000488aPlainC
set_option linter.unusedVariables false
namespace Go.Proofs.Qxb6000488a.PlainW
open Go.ChangeShapes Go.WideShapes Go.ChangeAt Go.RowKit

set_option maxHeartbeats 800000 in
theorem law6_empty (ta na : Option Addr) (tc nl nc : Nat) (Z : Nat → Int) (S : Nat → ByteArray) (w : World) (hn : nl ≤ maxLen)
    (hS : ∀ k, (S k).size ≤ maxLen) (ht : InB w ta 0 tc Z) (hi : InS w na nl nc S) :
    Calls Try.prog 6 #[.slice ta 0 tc, .slice na nl nc] w fun e w' => e = .returned (.bool true) ∧ Below w.heap.size w w' := by
  have c13 : Hid (∀ x, x = w → Calls Try.prog 13 #[.slice ta 0 tc, .slice na nl nc] x fun e w' => SomeBool nl S e ∧ w = w') := fun x hx => by
    rw [hx]; exact (bytes13 ta na 0 tc nl nc S w (by unfold maxLen; omega) hn hS hi.view).mono fun e w' h => ⟨h.1, h.2.symm⟩
  have c14 : Hid ((∀ k, k < nl → (S k).size ≤ 1048576) → ∀ x, x = w → Calls Try.prog 14 #[.slice na nl nc] x fun e w' => SomeInt e ∧ w = w') := fun hS x hx => by
    rw [hx]; exact (list14 na nl nc S w hn hS hi.view).mono fun e w' h => ⟨h.1, h.2.symm⟩
  have HI : Hid (InS w na nl nc S) := hi
  have HT : Hid (InB w ta 0 tc Z) := ht
  clear ht hi hS
  unfold maxLen at hn
  go_enter Try.func6, Try.ntmps6
  go_wp2_with fail
  refine (c13.out _ rfl).mono ?_
  rintro e w' ⟨⟨r, rfl, hr⟩, hw⟩
  subst hw
  have HR0 : Hid (r = true → ∀ k, k < nl → (S k).size ≤ 1048576) := hr
  clear hr
  cases r
  · go_wp2_with fail
    go_ret
    exact ⟨rfl, Below.refl _ _⟩
  by_cases h65 : (65536 : Int) < nl
  · go_wp2_with fail
    go_ret
    exact ⟨rfl, Below.refl _ _⟩
  go_wp2_with fail
  refine (c14.out (HR0.out (by simp)) _ rfl).mono ?_
  rintro e w' ⟨⟨t, rfl, ht0, ht1⟩, hw⟩
  subst hw
  by_cases hsum : (1048576 : Int) < t
  · go_wp2_with fail
    go_ret
    exact ⟨rfl, Below.refl _ _⟩
  go_wp2_with fail
  refine (copy15 ta 0 tc Z _ (by omega) HT.out).mono ?_
  rintro e w1 ⟨oa, oc, rfl, _, hb1⟩
  have HB1 : Hid (Below w.heap.size w w1) := hb1
  clear hb1
  go_wp2_with fail
  refine (copy16 na nl nc S _ (by omega) (HI.out.later HB1.out)).mono ?_
  rintro e w2 ⟨ob, od, rfl, _, hb2⟩
  have HB2 : Hid (Below w1.heap.size w1 w2) := hb2
  clear hb2
  go_wp2_with fail
  refine (plain17_empty oa ob oc nl od _).mono ?_
  rintro e w3 ⟨rfl, rfl⟩
  go_wp2_with fail
  go_ret
  exact ⟨rfl, HB1.out.trans (HB2.out.mono HB1.out.size)⟩

set_option maxHeartbeats 800000 in
theorem law6_some (ta na : Option Addr) (tl tc nl nc : Nat) (Z : Nat → Int) (S : Nat → ByteArray) (w : World) (h0 : 0 < tl) (htl : tl ≤ maxLen) (hn : nl ≤ maxLen)
    (hS : ∀ k, (S k).size ≤ maxLen) (ht : InB w ta tl tc Z) (hi : InS w na nl nc S) :
    Calls Try.prog 6 #[.slice ta tl tc, .slice na nl nc] w fun e w' => e = .returned (.bool true) ∧ Below w.heap.size w w' := by
  have c13 : Hid (∀ x, x = w → Calls Try.prog 13 #[.slice ta tl tc, .slice na nl nc] x fun e w' => SomeBool nl S e ∧ w = w') := fun x hx => by
    rw [hx]; exact (bytes13 ta na tl tc nl nc S w htl hn hS hi.view).mono fun e w' h => ⟨h.1, h.2.symm⟩
  have c14 : Hid ((∀ k, k < nl → (S k).size ≤ 1048576) → ∀ x, x = w → Calls Try.prog 14 #[.slice na nl nc] x fun e w' => SomeInt e ∧ w = w') := fun hS x hx => by
    rw [hx]; exact (list14 na nl nc S w hn hS hi.view).mono fun e w' h => ⟨h.1, h.2.symm⟩
  have HI : Hid (InS w na nl nc S) := hi
  have HT : Hid (InB w ta tl tc Z) := ht
  clear ht hi hS
  unfold maxLen at hn htl
  go_enter Try.func6, Try.ntmps6
  go_wp2_with fail
  refine (c13.out _ rfl).mono ?_
  rintro e w' ⟨⟨r, rfl, hr⟩, hw⟩
  subst hw
  have HR0 : Hid (r = true → ∀ k, k < nl → (S k).size ≤ 1048576) := hr
  clear hr
  cases r
  · go_wp2_with fail
    go_ret
    exact ⟨rfl, Below.refl _ _⟩
  by_cases h20 : (1048576 : Int) < tl
  · go_wp2_with fail
    go_ret
    exact ⟨rfl, Below.refl _ _⟩
  by_cases h65 : (65536 : Int) < nl
  · go_wp2_with fail
    go_ret
    exact ⟨rfl, Below.refl _ _⟩
  go_wp2_with fail
  refine (c14.out (HR0.out (by simp)) _ rfl).mono ?_
  rintro e w' ⟨⟨t, rfl, ht0, ht1⟩, hw⟩
  subst hw
  by_cases hsum : (1048576 : Int) < tl + t
  · go_wp2_with fail
    go_ret
    exact ⟨rfl, Below.refl _ _⟩
  go_wp2_with fail
  refine (copy15 ta tl tc Z _ (by omega) HT.out).mono ?_
  rintro e w1 ⟨oa, oc, rfl, hrow, hb1⟩
  have HB1 : Hid (Below w.heap.size w w1) := hb1
  clear hb1
  rcases hrow with h | ⟨g, rfl, hrow⟩
  · omega
  have HR : Hid (w1.rowIs g 5 tl (fun k => .int .u8 (Z k))) := hrow
  clear hrow
  go_wp2_with fail
  refine (copy16 na nl nc S _ (by omega) (HI.out.later HB1.out)).mono ?_
  rintro e w2 ⟨ob, od, rfl, ho, hb2⟩
  have HB2 : Hid (Below w1.heap.size w1 w2) := hb2
  have hcv := conv_row w2 g tl oc Z (HR.out.of_block (hb2.block g HR.out.lt))
  clear hb2
  have HO : Hid (Own w2 ob nl S) := ho
  clear ho
  generalize textOf tl Z = T at hcv
  have HCV : Hid ((convert 32 9 (.slice (some ⟨g, 0, none⟩) tl oc)).run Try.prog w2 = .ok (.string T) w2) := hcv
  go_wp2_with fail
  refine (plain17 g tl oc nl od ob T S _ h0 (by omega) (by omega) HCV.out HO.out).mono ?_
  rintro e w3 ⟨hp, hw3⟩
  subst hw3
  have hne : ((tl : Int) == 0) = false := by rw [beq_eq_false_iff_ne]; omega
  have HB : Hid (Below w.heap.size w w3) := HB1.out.trans (HB2.out.mono HB1.out.size)
  rcases hp with ⟨k, hk, e1, e2, rfl⟩ | ⟨e2, rfl⟩
  · have HE : Hid (S k = T ∧ ∀ j, j < k → S j ≠ T) := ⟨e1, e2⟩
    clear e1 e2
    rcases HO.out with h | ⟨g2, hob, hcn⟩
    · omega
    subst hob
    have HC : Hid (∀ k, k < nl → w3.cell? ⟨g2, k, none⟩ = some (.string (S k))) := hcn
    clear hcn
    have hcx := HC.out k hk
    rw [HE.out.1] at hcx
    go_wp2
    go_loop [9] (fun i => ∃ j : Nat, j ≤ k ∧ i = .int .i64 j) (fun i => k - (intOf i).toNat)
    case atStart => exact ⟨0, Nat.zero_le _, rfl⟩
    case round =>
      obtain ⟨j, hj, rfl⟩ := hrel
      by_cases hlt : j < k
      · clear hcx
        have hcj := HC.out j (by omega)
        have hb := toList_ne (HE.out.2 j hlt)
        generalize S j = s at hcj hb
        go_wp2
        go_round
        case rel => exact ⟨j + 1, by omega, by go_num⟩
        case measure => simp [intOf]; omega
      · go_wp2
        go_ret
        exact ⟨rfl, HB.out⟩
  · have HE : Hid (∀ j, j < nl → S j ≠ T) := e2
    clear e2
    go_wp2
    go_loop [8] (fun i => ∃ j : Nat, j ≤ nl ∧ i = .int .i64 j) (fun i => nl - (intOf i).toNat)
    case atStart => exact ⟨0, Nat.zero_le _, rfl⟩
    case round =>
      obtain ⟨j, hj, rfl⟩ := hrel
      by_cases hlt : j < nl
      · rcases HO.out with h | ⟨g2, hob, hcn⟩
        · omega
        subst hob
        have hcj := hcn j hlt
        clear hcn
        have hb := toList_ne (HE.out j hlt)
        generalize S j = s at hcj hb
        go_wp2
        go_round
        case rel => exact ⟨j + 1, by omega, by go_num⟩
        case measure => simp [intOf]; omega
      · go_wp2
        go_ret
        exact ⟨rfl, HB.out⟩

theorem law6 (ta na : Option Addr) (tl tc nl nc : Nat) (Z : Nat → Int) (S : Nat → ByteArray) (w : World) (htl : tl ≤ maxLen) (hn : nl ≤ maxLen)
    (hS : ∀ k, (S k).size ≤ maxLen) (ht : InB w ta tl tc Z) (hi : InS w na nl nc S) :
    Calls Try.prog 6 #[.slice ta tl tc, .slice na nl nc] w fun e w' => e = .returned (.bool true) ∧ Below w.heap.size w w' := by
  by_cases h : tl = 0
  · subst h; exact law6_empty ta na tc nl nc Z S w hn hS ht hi
  · exact law6_some ta na tl tc nl nc Z S w (by omega) htl hn hS ht hi
end Go.Proofs.Qxb6000488a.PlainW
