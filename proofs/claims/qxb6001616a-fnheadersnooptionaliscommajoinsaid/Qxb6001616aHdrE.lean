import Derived.Test.Qxb6001616aHdrD
set_option linter.unusedVariables false
namespace Go.Proofs.Qxb6001616a.HdrW
open Go.ChangeShapes Go.WideShapes Go.ChangeAt Go.RowKit

theorem ret_bool {a b : Bool} (h : a = b) : Ending.returned (.bool a) = .returned (.bool b) := by rw [h]

set_option maxHeartbeats 800000 in
theorem law3 (na : Option Addr) (nl nc : Nat) (S : Nat → ByteArray) (w : World) (hn : nl ≤ maxLen)
    (hS : ∀ k, (S k).size ≤ maxLen) (hi : InS w na nl nc S) :
    Calls Try.prog 3 #[.slice na nl nc] w fun e w' => e = .returned (.bool true) ∧ Below w.heap.size w w' := by
  have c5 : Hid (∀ x, x = w → Calls Try.prog 5 #[.slice na nl nc] x fun e w' => SomeBool nl S e ∧ w = w') := fun x hx => by
    rw [hx]; exact bytes5 na nl nc S w hn hS hi
  have c6 : Hid ((∀ k, k < nl → (S k).size ≤ 1048576) → ∀ x, x = w → Calls Try.prog 6 #[.slice na nl nc] x fun e w' => FewBool nl e ∧ w = w') := fun hS x hx => by
    rw [hx]; exact small6 na nl nc S w hn hS hi
  have HI : Hid (InS w na nl nc S) := hi
  clear hi hS
  unfold maxLen at hn
  go_enter Try.func3, Try.ntmps3
  go_wp2_with fail
  refine (c5.out _ rfl).mono ?_
  rintro e w' ⟨⟨r, rfl, hr⟩, hw⟩
  subst hw
  have HR : Hid (r = true → ∀ k, k < nl → (S k).size ≤ 1048576) := hr
  clear hr
  cases r
  · go_wp2_with fail
    go_ret
    exact ⟨rfl, Below.refl _ _⟩
  have HS : Hid (∀ k, k < nl → (S k).size ≤ 1048576) := HR.out rfl
  clear HR
  go_wp2_with fail
  refine (c6.out HS.out _ rfl).mono ?_
  rintro e w' ⟨⟨r, rfl, hr⟩, hw⟩
  subst hw
  cases r
  · go_wp2_with fail
    go_ret
    exact ⟨rfl, Below.refl _ _⟩
  have h512 : nl ≤ 512 := hr rfl
  clear hr
  go_wp2_with fail
  refine (copy7 na nl nc S _ (by omega) HI.out).mono ?_
  rintro e w1 ⟨oa, rfl, ho, hb1⟩
  have HO : Hid (Own w1 oa nl nl S) := ho
  have HB1 : Hid (Below w.heap.size w w1) := hb1
  clear ho hb1
  go_wp2_with fail
  refine (headers8 oa nl nl 0 0 S _ rfl h512 (by omega) h512 HS.out HO.out).mono ?_
  rintro e w2 ⟨rfl, hb2⟩
  have HB2 : Hid (Below w1.heap.size w1 w2) := hb2
  clear hb2
  rw [HdrP.H_zero]
  go_wp2_with fail
  refine (join9 oa nl nl S _ h512 HS.out (HO.out.later HB2.out)).mono ?_
  rintro e w3 ⟨rfl, hb3⟩
  have HB : Hid (Below w.heap.size w w3) := (HB1.out.trans (HB2.out.mono HB1.out.size)).trans (hb3.mono (Nat.le_trans HB1.out.size HB2.out.size))
  clear hb3 HB1 HB2
  generalize (⟨(HdrP.J S nl).toArray⟩ : ByteArray) = z
  go_wp2_with fail
  go_ret
  exact ⟨rfl, HB.out⟩

theorem Own.shorter {w : World} {oa : Option Addr} {n m oc : Nat} {S : Nat → ByteArray} (h : Own w oa n oc S) (hm : m ≤ n) : Own w oa m oc S := by
  rcases h with ⟨h1, h2, h3⟩ | ⟨g, rfl, h0, hlt, hc⟩
  · exact Or.inl ⟨h1, by omega, h3⟩
  · exact Or.inr ⟨g, rfl, by omega, hlt, fun k hk => hc k (by omega)⟩

theorem peeled (S : Nat → ByteArray) (n opt : Nat) (h : 1 ≤ opt) (hn : 1 ≤ n) : (⟨(HdrP.H S n opt).toArray⟩ : ByteArray) = (⟨(HdrP.J S n).toArray⟩ : ByteArray) ++ ⟨#[32, 111, 114, 32]⟩ ++ ⟨(HdrP.H S (n - 1) (opt - 1)).toArray⟩ := by
  rw [HdrP.H_peel S n opt h hn]
  apply bytes_inj
  simp

set_option maxHeartbeats 1600000 in
theorem law4 (na : Option Addr) (nl nc : Nat) (opt : Int) (S : Nat → ByteArray) (w : World) (hn : nl ≤ maxLen)
    (hS : ∀ k, (S k).size ≤ maxLen) (hi : InS w na nl nc S) :
    Calls Try.prog 4 #[.slice na nl nc, .int .i64 opt] w fun e w' => e = .returned (.bool true) ∧ Below w.heap.size w w' := by
  have c10 : Hid (∀ x, x = w → Calls Try.prog 10 #[.slice na nl nc, .int .i64 opt] x fun e w' => SomeBool nl S e ∧ w = w') := fun x hx => by
    rw [hx]; exact bytes10 na nl nc opt S w hn hS hi
  have c6 : Hid ((∀ k, k < nl → (S k).size ≤ 1048576) → ∀ x, x = w → Calls Try.prog 6 #[.slice na nl nc] x fun e w' => FewBool nl e ∧ w = w') := fun hS x hx => by
    rw [hx]; exact small6 na nl nc S w hn hS hi
  have HI : Hid (InS w na nl nc S) := hi
  clear hi hS
  unfold maxLen at hn
  go_enter Try.func4, Try.ntmps4
  go_wp2_with fail
  refine (c10.out _ rfl).mono ?_
  rintro e w' ⟨⟨r, rfl, hr⟩, hw⟩
  subst hw
  have HR : Hid (r = true → ∀ k, k < nl → (S k).size ≤ 1048576) := hr
  clear hr
  cases r
  · go_wp2_with fail
    go_ret
    exact ⟨rfl, Below.refl _ _⟩
  have HS : Hid (∀ k, k < nl → (S k).size ≤ 1048576) := HR.out rfl
  clear HR
  go_wp2_with fail
  refine (c6.out HS.out _ rfl).mono ?_
  rintro e w' ⟨⟨r, rfl, hr⟩, hw⟩
  subst hw
  cases r
  · go_wp2_with fail
    go_ret
    exact ⟨rfl, Below.refl _ _⟩
  have h512 : nl ≤ 512 := hr rfl
  clear hr
  by_cases hop : opt < 1
  · go_wp2_with fail
    go_ret
    exact ⟨rfl, Below.refl _ _⟩
  by_cases hop2 : (nl : Int) < opt
  · go_wp2_with fail
    go_ret
    exact ⟨rfl, Below.refl _ _⟩
  go_wp2_with fail
  refine (copy7 na nl nc S _ (by omega) HI.out).mono ?_
  rintro e w1 ⟨oa, rfl, ho, hb1⟩
  have HO : Hid (Own w1 oa nl nl S) := ho
  have HB1 : Hid (Below w.heap.size w w1) := hb1
  clear hb1
  rcases ho with ⟨_, h, _⟩ | ⟨g, rfl, _, hg, hc⟩
  · omega
  clear hc
  go_wp2_with fail
  refine (headers8 _ nl nl opt.toNat opt S _ (by omega) h512 (by omega) h512 HS.out HO.out).mono ?_
  rintro e w2 ⟨rfl, hb2⟩
  have HB2 : Hid (Below w1.heap.size w1 w2) := hb2
  clear hb2
  go_wp2_with fail
  refine (headers8 _ (nl - 1) nl (opt.toNat - 1) (opt - 1) S _ (by omega) (by omega) (by omega) h512 (fun k hk => HS.out k (by omega)) ((HO.out.later HB2.out).shorter (by omega))).mono ?_
  rintro e w3 ⟨rfl, hb3⟩
  have HB3 : Hid (Below w2.heap.size w2 w3) := hb3
  clear hb3
  go_wp2_with fail
  refine (join9 _ nl nl S _ h512 HS.out ((HO.out.later HB2.out).later HB3.out)).mono ?_
  rintro e w4 ⟨rfl, hb4⟩
  have HB : Hid (Below w.heap.size w w4) := ((HB1.out.trans (HB2.out.mono HB1.out.size)).trans (HB3.out.mono (Nat.le_trans HB1.out.size HB2.out.size))).trans (hb4.mono (Nat.le_trans (Nat.le_trans HB1.out.size HB2.out.size) HB3.out.size))
  have HE : Hid ((⟨(HdrP.H S nl opt.toNat).toArray⟩ : ByteArray) = (⟨(HdrP.J S nl).toArray⟩ : ByteArray) ++ ⟨#[32, 111, 114, 32]⟩ ++ ⟨(HdrP.H S (nl - 1) (opt.toNat - 1)).toArray⟩) :=
    peeled S nl opt.toNat (by omega) (by omega)
  have hj : (⟨(HdrP.J S nl).toArray⟩ : ByteArray).size ≤ 140737488355328 := by
    have := HdrP.J_len S nl (fun k hk => by have := HS.out k hk; simpa [HdrP.bl] using this)
    simp [ByteArray.size]; omega
  have hr : (⟨(HdrP.H S (nl - 1) (opt.toNat - 1)).toArray⟩ : ByteArray).size ≤ 140737488355328 := by
    have := H_le (nl - 1) (opt.toNat - 1) S (by omega) (by omega) (fun k hk => HS.out k (by omega))
    simpa [ByteArray.size] using this
  clear hb4 HB1 HB2 HB3 HO HI HS c6 c10
  generalize (⟨(HdrP.J S nl).toArray⟩ : ByteArray) = a at *
  generalize (⟨(HdrP.H S (nl - 1) (opt.toNat - 1)).toArray⟩ : ByteArray) = b at *
  generalize (⟨(HdrP.H S nl opt.toNat).toArray⟩ : ByteArray) = c at *
  go_wp2_with fail
  go_ret
  refine ⟨ret_bool ?_, HB.out⟩
  have e := HE.out
  rw [e]
  simp
end Go.Proofs.Qxb6001616a.HdrW
