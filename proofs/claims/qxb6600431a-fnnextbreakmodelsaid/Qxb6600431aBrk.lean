/-
  The plain mathematics of 'the next line break': no Go in sight.
-/
set_option linter.unusedVariables false
namespace Go.Proofs.Qxb6600431a.BrkP

/-- Does p stand in L at place i? -/
def mt (L p : List UInt8) (i : Nat) : Bool := (L.drop i).take p.length == p

/-- The five line breaks. -/
def pat : Nat → List UInt8
  | 0 => [10]
  | 1 => [13]
  | 2 => [194, 133]
  | 3 => [226, 128, 168]
  | _ => [226, 128, 169]

/-- The first place where p stands, or the length where it stands nowhere. -/
def FI (L p : List UInt8) (f : Nat) : Prop := f ≤ L.length ∧ (∀ j, j < f → mt L p j = false) ∧ (f < L.length → mt L p f = true)

/-- The first place where one of the first n breaks stands and the length of the one that stands there. -/
def NB (n : Nat) (L : List UInt8) (i l : Nat) : Prop :=
  i ≤ L.length ∧ (∀ j, j < i → ∀ q, q < n → mt L (pat q) j = false) ∧ (i < L.length → ∃ q, q < n ∧ mt L (pat q) i = true ∧ l = (pat q).length) ∧ (i = L.length → l = 0)

theorem mt_iff (L p : List UInt8) (i : Nat) : mt L p i = true ↔ (L.drop i).take p.length = p := by unfold mt; exact beq_iff_eq

/-- p stands at i where all its bytes do. -/
theorem mt_of (L p : List UInt8) (i : Nat) (h : ∀ t, t < p.length → L[i + t]? = p[t]?) : mt L p i = true := by
  rw [mt_iff]
  apply List.ext_getElem?
  intro t
  rw [List.getElem?_take]
  split
  · rw [List.getElem?_drop]; exact h t ‹_›
  · rw [List.getElem?_eq_none (by omega)]

theorem mt_get (L p : List UInt8) (i t : Nat) (h : mt L p i = true) (ht : t < p.length) : L[i + t]? = p[t]? := by
  rw [mt_iff] at h
  rw [← List.getElem?_drop]
  conv => rhs; rw [← h]
  rw [List.getElem?_take, if_pos ht]

theorem mt_no (L p : List UInt8) (i t : Nat) (ht : t < p.length) (h : L[i + t]? ≠ p[t]?) : mt L p i = false := by
  cases e : mt L p i
  · rfl
  · exact absurd (mt_get L p i t e ht) h

theorem mt_short (L p : List UInt8) (i : Nat) (hp : 0 < p.length) (h : L.length < i + p.length) : mt L p i = false := by
  refine mt_no L p i (p.length - 1) (by omega) ?_
  rw [List.getElem?_eq_none (by omega), List.getElem?_eq_getElem (by omega)]
  simp

theorem pat_cons (q : Nat) : ∃ a r, pat q = a :: r := by
  match q with
  | 0 => exact ⟨_, _, rfl⟩
  | 1 => exact ⟨_, _, rfl⟩
  | 2 => exact ⟨_, _, rfl⟩
  | 3 => exact ⟨_, _, rfl⟩
  | n + 4 => exact ⟨_, _, rfl⟩

theorem pat_pos (q : Nat) : 0 < (pat q).length := by
  obtain ⟨a, r, e⟩ := pat_cons q
  rw [e]; simp

/-- Two breaks at one place are of one length. -/
theorem len_one (L : List UInt8) (i q r : Nat) (hq : q < 5) (hr : r < 5) (h1 : mt L (pat q) i = true) (h2 : mt L (pat r) i = true) : (pat q).length = (pat r).length := by
  have a := mt_get L (pat q) i 0 h1 (pat_pos q)
  have b := mt_get L (pat r) i 0 h2 (pat_pos r)
  have c : (pat q)[0]? = (pat r)[0]? := a.symm.trans b
  clear a b h1 h2
  have hq' : q = 0 ∨ q = 1 ∨ q = 2 ∨ q = 3 ∨ q = 4 := by omega
  have hr' : r = 0 ∨ r = 1 ∨ r = 2 ∨ r = 3 ∨ r = 4 := by omega
  rcases hq' with rfl | rfl | rfl | rfl | rfl <;> rcases hr' with rfl | rfl | rfl | rfl | rfl <;> first | rfl | (exact absurd c (by decide))

theorem NB_one (L : List UInt8) (i l i' l' : Nat) (h : NB 5 L i l) (h' : NB 5 L i' l') : i = i' ∧ l = l' := by
  obtain ⟨a1, a2, a3, a4⟩ := h
  obtain ⟨b1, b2, b3, b4⟩ := h'
  have e : i = i' := by
    rcases Nat.lt_trichotomy i i' with c | c | c
    · obtain ⟨q, hq, hm, _⟩ := a3 (by omega)
      rw [b2 i c q hq] at hm; exact absurd hm (by simp)
    · exact c
    · obtain ⟨q, hq, hm, _⟩ := b3 (by omega)
      rw [a2 i' c q hq] at hm; exact absurd hm (by simp)
  subst e
  refine ⟨rfl, ?_⟩
  by_cases hl : i < L.length
  · obtain ⟨q, hq, hm, rfl⟩ := a3 hl
    obtain ⟨r, hr, hm', rfl⟩ := b3 hl
    exact len_one L i q r hq hr hm hm'
  · rw [a4 (by omega), b4 (by omega)]

theorem NB_zero (L : List UInt8) : NB 0 L L.length 0 := ⟨Nat.le_refl _, fun _ _ q hq => absurd hq (by omega), fun h => absurd h (by omega), fun _ => rfl⟩

/-- One pattern more, found earlier. -/
theorem NB_less (n : Nat) (L : List UInt8) (i l f : Nat) (h : NB n L i l) (hf : FI L (pat n) f) (hlt : f < i) : NB (n + 1) L f (pat n).length := by
  obtain ⟨a1, a2, a3, a4⟩ := h
  refine ⟨hf.1, fun j hj q hq => ?_, fun hl => ⟨n, by omega, hf.2.2 hl, rfl⟩, fun e => by omega⟩
  by_cases e : q = n
  · subst e; exact hf.2.1 j hj
  · exact a2 j (by omega) q (by omega)

/-- One pattern more, not found earlier. -/
theorem NB_more (n : Nat) (L : List UInt8) (i l f : Nat) (h : NB n L i l) (hf : FI L (pat n) f) (hle : i ≤ f) : NB (n + 1) L i l := by
  obtain ⟨a1, a2, a3, a4⟩ := h
  refine ⟨a1, fun j hj q hq => ?_, fun hl => ?_, a4⟩
  · by_cases e : q = n
    · subst e; exact hf.2.1 j (by omega)
    · exact a2 j hj q (by omega)
  · obtain ⟨q, hq, hm, e⟩ := a3 hl
    exact ⟨q, by omega, hm, e⟩
end Go.Proofs.Qxb6600431a.BrkP
