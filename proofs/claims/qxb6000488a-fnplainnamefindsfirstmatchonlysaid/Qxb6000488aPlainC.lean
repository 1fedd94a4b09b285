import Derived.Test.Qxb6000488aPlainB
import Derived.Laws.BytesArg
set_option linter.unusedVariables false
namespace Go.Proofs.Qxb6000488a.PlainW
open Go.ChangeShapes Go.WideShapes Go.ChangeAt Go.RowKit

/-- What plainName answers for a text that is not empty. -/
def PN (T : ByteArray) (S : Nat → ByteArray) (nl : Nat) (e : Ending) : Prop :=
  (∃ k, k < nl ∧ S k = T ∧ (∀ j, j < k → S j ≠ T) ∧ e = .returned (.tuple #[.int .i64 (k : Int), .bool true])) ∨
  ((∀ j, j < nl → S j ≠ T) ∧ e = .returned (.tuple #[.int .i64 0, .bool false]))

theorem toList_ne {a b : ByteArray} (h : a ≠ b) : (a.toList == b.toList) = false := by
  rw [beq_eq_false_iff_ne]
  intro e
  rw [ByteArray.toList_eq, ByteArray.toList_eq] at e
  exact h (bytes_inj e)

theorem plain26_empty (ta na : Option Addr) (tc nl nc : Nat) (w : World) :
    Calls Try.prog 26 #[.slice ta 0 tc, .slice na nl nc] w fun e w' => e = .returned (.tuple #[.int .i64 (-1), .bool true]) ∧ w' = w := by
  go_enter Try.func26, Try.ntmps26
  go_wp2
  go_ret2
  exact ⟨rfl, rfl⟩

set_option maxHeartbeats 400000 in
theorem plain26_some (g tl tc g2 nl nc : Nat) (T : ByteArray) (S : Nat → ByteArray) (w : World) (h0 : 0 < tl) (htl : tl ≤ 1048576) (hnl : nl ≤ 1048576)
    (hcv : (convert 32 9 (.slice (some ⟨g, 0, none⟩) tl tc)).run Try.prog w = .ok (.string T) w)
    (hcn : ∀ k, k < nl → w.cell? ⟨g2, k, none⟩ = some (.string (S k))) :
    Calls Try.prog 26 #[.slice (some ⟨g, 0, none⟩) tl tc, .slice (some ⟨g2, 0, none⟩) nl nc] w fun e w' => PN T S nl e ∧ w' = w := by
  have hne : ((tl : Int) == 0) = false := by rw [beq_eq_false_iff_ne]; omega
  have HC : Hid (∀ k, k < nl → w.cell? ⟨g2, k, none⟩ = some (.string (S k))) := hcn
  clear hcn
  go_enter Try.func26, Try.ntmps26
  go_wp2
  go_loop [13] (fun i => ∃ k : Nat, k ≤ nl ∧ i = .int .i64 k ∧ ∀ j, j < k → S j ≠ T) (fun i => nl - (intOf i).toNat)
  case atStart => exact ⟨0, Nat.zero_le _, rfl, fun j hj => absurd hj (by omega)⟩
  case round =>
    obtain ⟨k, hk, rfl, hno⟩ := hrel
    have HN : Hid (∀ j, j < k → S j ≠ T) := hno
    clear hno
    by_cases hlt : k < nl
    · have hcx := HC.out k hlt
      by_cases he : S k = T
      · rw [he] at hcx
        have HE : Hid (S k = T) := he
        clear he
        go_wp2
        go_ret2
        exact ⟨Or.inl ⟨k, hlt, HE.out, HN.out, rfl⟩, rfl⟩
      · have hb := toList_ne (fun h => he h.symm)
        have HE : Hid (S k ≠ T) := he
        clear he
        have HN' : Hid (∀ j, j < k + 1 → S j ≠ T) := fun j hj => by
          by_cases e : j = k
          · rw [e]; exact HE.out
          · exact HN.out j (by omega)
        generalize S k = s at hcx hb
        go_wp2
        go_round
        case rel => exact ⟨k + 1, by omega, by go_num, HN'.out⟩
        case measure => simp [intOf]; omega
    · go_wp2
      go_ret2
      exact ⟨Or.inr ⟨fun j hj => HN.out j (by omega), rfl⟩, rfl⟩

set_option maxHeartbeats 400000 in
theorem plain26_none (g tl tc nc : Nat) (na : Option Addr) (T : ByteArray) (S : Nat → ByteArray) (w : World) (h0 : 0 < tl) (htl : tl ≤ 1048576) :
    Calls Try.prog 26 #[.slice (some ⟨g, 0, none⟩) tl tc, .slice na 0 nc] w fun e w' => PN T S 0 e ∧ w' = w := by
  have hne : ((tl : Int) == 0) = false := by rw [beq_eq_false_iff_ne]; omega
  go_enter Try.func26, Try.ntmps26
  go_wp2
  go_loop [13] (fun i => i = .int .i64 0) (fun _ => 0)
  case atStart => rfl
  case round =>
    subst hrel
    go_wp2
    go_ret2
    exact ⟨Or.inr ⟨fun j hj => absurd hj (by omega), rfl⟩, rfl⟩

/-- The names as the copy has laid them: none, or a row of the call's own. -/
def Own (w : World) (ob : Option Addr) (nl : Nat) (S : Nat → ByteArray) : Prop :=
  nl = 0 ∨ ∃ g, ob = some ⟨g, 0, none⟩ ∧ ∀ k, k < nl → w.cell? ⟨g, k, none⟩ = some (.string (S k))

theorem plain26 (g tl tc nl nc : Nat) (ob : Option Addr) (T : ByteArray) (S : Nat → ByteArray) (w : World) (h0 : 0 < tl) (htl : tl ≤ 1048576) (hnl : nl ≤ 1048576)
    (hcv : (convert 32 9 (.slice (some ⟨g, 0, none⟩) tl tc)).run Try.prog w = .ok (.string T) w) (ho : Own w ob nl S) :
    Calls Try.prog 26 #[.slice (some ⟨g, 0, none⟩) tl tc, .slice ob nl nc] w fun e w' => PN T S nl e ∧ w' = w := by
  rcases ho with rfl | ⟨g2, rfl, hc⟩
  · exact plain26_none g tl tc nc ob T S w h0 htl
  · exact plain26_some g tl tc g2 nl nc T S w h0 htl hnl hcv hc

theorem plain17_empty (ta na : Option Addr) (tc nl nc : Nat) (w : World) :
    Calls Try.prog 17 #[.slice ta 0 tc, .slice na nl nc] w fun e w' => e = .returned (.tuple #[.int .i64 (-1), .bool true]) ∧ w' = w := by
  go_enter Try.func17, Try.ntmps17
  go_wp2_with fail
  refine (plain26_empty ta na tc nl nc _).mono ?_
  rintro e w' ⟨rfl, rfl⟩
  go_wp2_with fail
  go_ret2
  exact ⟨rfl, rfl⟩

theorem plain17 (g tl tc nl nc : Nat) (ob : Option Addr) (T : ByteArray) (S : Nat → ByteArray) (w : World) (h0 : 0 < tl) (htl : tl ≤ 1048576) (hnl : nl ≤ 1048576)
    (hcv : (convert 32 9 (.slice (some ⟨g, 0, none⟩) tl tc)).run Try.prog w = .ok (.string T) w) (ho : Own w ob nl S) :
    Calls Try.prog 17 #[.slice (some ⟨g, 0, none⟩) tl tc, .slice ob nl nc] w fun e w' => PN T S nl e ∧ w' = w := by
  have C : Hid (∀ x, x = w → Calls Try.prog 26 #[.slice (some ⟨g, 0, none⟩) tl tc, .slice ob nl nc] x fun e w' => PN T S nl e ∧ w' = x) :=
    fun x hx => by rw [hx]; exact plain26 g tl tc nl nc ob T S w h0 htl hnl hcv ho
  clear hcv ho
  go_enter Try.func17, Try.ntmps17
  go_wp2_with fail
  refine (C.out _ rfl).mono ?_
  rintro e w' ⟨hp, rfl⟩
  rcases hp with ⟨k, hk, e1, e2, rfl⟩ | ⟨e2, rfl⟩
  · have H : Hid (S k = T ∧ ∀ j, j < k → S j ≠ T) := ⟨e1, e2⟩
    clear e1 e2
    go_wp2_with fail
    go_ret2
    exact ⟨Or.inl ⟨k, hk, H.out.1, H.out.2, rfl⟩, rfl⟩
  · have H : Hid (∀ j, j < nl → S j ≠ T) := e2
    clear e2
    go_wp2_with fail
    go_ret2
    exact ⟨Or.inr ⟨H.out, rfl⟩, rfl⟩

/-! ### The two copies, whatever they are handed -/

/-- A slice of bytes that came in. -/
def InB (w : World) (ao : Option Addr) (len cap : Nat) (Z : Nat → Int) : Prop :=
  (ao = none ∧ len = 0 ∧ cap = 0) ∨ (∃ a, ao = some a ∧ len = 0) ∨ ∃ b off, ao = some ⟨b, off, none⟩ ∧ b < w.heap.size ∧ ∀ k, k < len → w.cell? ⟨b, off + k, none⟩ = some (.int .u8 (Z k))

/-- A slice of strings that came in. -/
def InS (w : World) (ao : Option Addr) (len cap : Nat) (Z : Nat → ByteArray) : Prop :=
  (ao = none ∧ len = 0 ∧ cap = 0) ∨ (∃ a, ao = some a ∧ len = 0) ∨ ∃ b off, ao = some ⟨b, off, none⟩ ∧ b < w.heap.size ∧ ∀ k, k < len → w.cell? ⟨b, off + k, none⟩ = some (.string (Z k))

theorem copy15 (ao : Option Addr) (len cap : Nat) (Z : Nat → Int) (w : World) (hl : len ≤ 1048576) (hi : InB w ao len cap Z) :
    Calls Try.prog 15 #[.slice ao len cap] w fun e w' => ∃ oa oc, e = .returned (.slice oa len oc) ∧ (len = 0 ∨ ∃ g, oa = some ⟨g, 0, none⟩ ∧ w'.rowIs g 5 len (fun k => .int .u8 (Z k))) ∧ Below w.heap.size w w' := by
  rcases hi with ⟨rfl, rfl, rfl⟩ | ⟨a, rfl, rfl⟩ | ⟨b, off, rfl, hb, hc⟩
  · refine (copy15_nil w).mono ?_
    rintro e w' ⟨rfl, rfl⟩
    exact ⟨_, _, rfl, Or.inl rfl, Below.refl _ _⟩
  · refine (copy15_empty a cap w).mono ?_
    rintro e w' ⟨rfl, _, hb⟩
    exact ⟨_, _, rfl, Or.inl rfl, hb⟩
  · refine (copy15_some b off len cap Z w hl hb hc).mono ?_
    rintro e w' ⟨rfl, hr, hb⟩
    exact ⟨_, _, rfl, Or.inr ⟨_, rfl, hr⟩, hb⟩

theorem copy16 (ao : Option Addr) (len cap : Nat) (Z : Nat → ByteArray) (w : World) (hl : len ≤ 1048576) (hi : InS w ao len cap Z) :
    Calls Try.prog 16 #[.slice ao len cap] w fun e w' => ∃ oa oc, e = .returned (.slice oa len oc) ∧ Own w' oa len Z ∧ Below w.heap.size w w' := by
  rcases hi with ⟨rfl, rfl, rfl⟩ | ⟨a, rfl, rfl⟩ | ⟨b, off, rfl, hb, hc⟩
  · refine (copy16_nil w).mono ?_
    rintro e w' ⟨rfl, rfl⟩
    exact ⟨_, _, rfl, Or.inl rfl, Below.refl _ _⟩
  · refine (copy16_empty a cap w).mono ?_
    rintro e w' ⟨rfl, _, hb⟩
    exact ⟨_, _, rfl, Or.inl rfl, hb⟩
  · refine (copy16_some b off len cap Z w hl hb hc).mono ?_
    rintro e w' ⟨rfl, hr, hb⟩
    exact ⟨_, _, rfl, Or.inr ⟨_, rfl, fun k hk => hr.cell hk⟩, hb⟩

/-- What came in still reads so behind new memory. -/
theorem InS.later {w w' : World} {ao : Option Addr} {len cap : Nat} {Z : Nat → ByteArray} (h : InS w ao len cap Z) (hb : Below w.heap.size w w') : InS w' ao len cap Z := by
  rcases h with h | h | ⟨b, off, rfl, hlt, hc⟩
  · exact Or.inl h
  · exact Or.inr (Or.inl h)
  · exact Or.inr (Or.inr ⟨b, off, rfl, by have := hb.size; omega, fun k hk => (hb.cell (p := ⟨b, off + k, none⟩) hlt).trans (hc k hk)⟩)

theorem InS.view {w : World} {ao : Option Addr} {len cap : Nat} {Z : Nat → ByteArray} (h : InS w ao len cap Z) : View w ao len Z := by
  rcases h with ⟨_, h, _⟩ | ⟨_, _, h⟩ | ⟨b, off, rfl, _, hc⟩
  · exact Or.inl h
  · exact Or.inl h
  · exact Or.inr ⟨b, off, rfl, hc⟩

/-- The text that the bytes of a row spell. -/
def textOf (tl : Nat) (Z : Nat → Int) : ByteArray := strOfNums ((List.range tl).map Z)

theorem conv_row (w : World) (g tl tc : Nat) (Z : Nat → Int) (h : w.rowIs g 5 tl (fun k => .int .u8 (Z k))) :
    (convert 32 9 (.slice (some ⟨g, 0, none⟩) tl tc)).run Try.prog w = .ok (.string (textOf tl Z)) w :=
  run_convert_bytes_arg w 32 5 Try.underlying32 Try.underlying5 g 0 tl tc ((List.range tl).map Z) (by simp) (fun i hi => by
    have := h.cell hi
    simpa [List.getD, hi] using this) 9 Try.underlying9
end Go.Proofs.Qxb6000488a.PlainW
