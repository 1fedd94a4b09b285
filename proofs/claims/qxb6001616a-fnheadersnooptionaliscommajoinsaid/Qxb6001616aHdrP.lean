import Derived.Lib.Join
import Derived.Lib.UnsafeStr
set_option linter.unusedVariables false
namespace Go.Proofs.Qxb6001616a.HdrP

def bl (S : Nat → ByteArray) (k : Nat) : List UInt8 := (S k).data.toList

/-- The first n columns joined by commas. -/
def J (S : Nat → ByteArray) : Nat → List UInt8
  | 0 => []
  | 1 => bl S 0
  | n + 2 => J S (n + 1) ++ [44] ++ bl S (n + 1)

/-- What lies there before column k is written. -/
def pre (S : Nat → ByteArray) : Nat → List UInt8
  | 0 => []
  | n + 1 => J S (n + 1) ++ [44]

theorem J_succ (S : Nat → ByteArray) (k : Nat) : J S (k + 1) = pre S k ++ bl S k := by
  cases k <;> simp [J, pre]

theorem pre_pos (S : Nat → ByteArray) (k : Nat) (h : k ≠ 0) : pre S k = J S k ++ [44] := by
  cases k with
  | zero => exact absurd rfl h
  | succ n => rfl

theorem J_len (S : Nat → ByteArray) (n : Nat) (h : ∀ k, k < n → (bl S k).length ≤ 1048576) : (J S n).length ≤ n * 1048577 := by
  induction n with
  | zero => simp [J]
  | succ n ih =>
    have h1 := ih (fun k hk => h k (by omega))
    have h2 := h n (by omega)
    rw [J_succ]
    cases n with
    | zero => simp [pre]; omega
    | succ n => simp [pre]; omega

def cols (S : Nat → ByteArray) (n : Nat) : List ByteArray := (List.range n).map S

theorem cols_len (S : Nat → ByteArray) (n : Nat) : (cols S n).length = n := by simp [cols]
theorem cols_at (S : Nat → ByteArray) (n j : Nat) (x : ByteArray) (h : (cols S n)[j]? = some x) : j < n ∧ x = S j := by
  have hj : j < n := by
    rcases Nat.lt_or_ge j n with h1 | h1
    · exact h1
    · rw [List.getElem?_eq_none (by rw [cols_len]; exact h1)] at h; simp at h
  refine ⟨hj, ?_⟩
  simp [cols, hj] at h
  exact h.symm

theorem join_snoc (L : List (List UInt8)) (x sep : List UInt8) (h : L ≠ []) : Lib.join (L ++ [x]) sep = Lib.join L sep ++ sep ++ x := by
  cases L with
  | nil => exact absurd rfl h
  | cons a r =>
    rw [List.cons_append, Lib.join_cons, Lib.join_cons]
    simp [Lib.joinTail, List.append_assoc]

theorem join_cols (S : Nat → ByteArray) (n : Nat) : Lib.join ((cols S n).map (·.data.toList)) [44] = J S n := by
  induction n with
  | zero => rfl
  | succ n ih =>
    have e : (cols S (n + 1)).map (·.data.toList) = (cols S n).map (·.data.toList) ++ [bl S n] := by
      simp [cols, List.range_succ, bl]
    rw [e]
    cases n with
    | zero => simp [cols, Lib.join_one, J]
    | succ m =>
      rw [join_snoc _ _ _ (by simp [cols]), ih, J]

/-! ### The whole list of headers -/

/-- The headers of n columns, the last k of them left out one by one, longest first: as the list 'all' holds them. -/
def hd (S : Nat → ByteArray) (n j : Nat) : ByteArray := ⟨(J S (n - j)).toArray⟩

/-- What headers answers. -/
def H (S : Nat → ByteArray) (n opt : Nat) : List UInt8 := Lib.join ((cols (hd S n) (opt + 1)).map (·.data.toList)) [32, 111, 114, 32]

theorem H_zero (S : Nat → ByteArray) (n : Nat) : H S n 0 = J S n := by
  simp [H, cols, hd, Lib.join_one]

theorem H_peel (S : Nat → ByteArray) (n opt : Nat) (h : 1 ≤ opt) (hn : 1 ≤ n) : H S n opt = J S n ++ [32, 111, 114, 32] ++ H S (n - 1) (opt - 1) := by
  obtain ⟨m, rfl⟩ : ∃ m, opt = m + 1 := ⟨opt - 1, by omega⟩
  unfold H
  have e : (cols (hd S n) (m + 1 + 1)).map (·.data.toList) = J S n :: (cols (hd S (n - 1)) (m + 1)).map (·.data.toList) := by
    unfold cols
    rw [List.range_succ_eq_map]
    simp only [List.map_cons, List.map_map]
    congr 1
    exact List.map_congr_left fun k _ => by
      simp only [Function.comp, hd]
      rw [show n - (k.succ) = n - 1 - k by omega]
  rw [e]
  have e2 : (cols (hd S (n - 1)) (m + 1)).map (·.data.toList) = J S (n - 1) :: ((List.range m).map (fun k => (hd S (n - 1) (k + 1)).data.toList)) := by
    unfold cols
    rw [List.range_succ_eq_map]
    simp [List.map_map, hd, Function.comp_def]
  rw [show m + 1 - 1 = m by omega, e2, Lib.join_cons, Lib.join_cons]
  simp [Lib.joinTail, List.append_assoc]

theorem hd_len (S : Nat → ByteArray) (n j : Nat) (h : ∀ k, k < n → (bl S k).length ≤ 1048576) (hn : n ≤ 512) : (hd S n j).size ≤ 536871424 := by
  have := J_len S (n - j) (fun k hk => h k (by omega))
  have e : (hd S n j).size = (J S (n - j)).length := by simp [hd, ByteArray.size]
  rw [e]; omega

theorem lens_le (L : List (List UInt8)) (b : Nat) (h : ∀ x ∈ L, x.length ≤ b) : Lib.lens L ≤ L.length * b := by
  induction L with
  | nil => simp [Lib.lens]
  | cons a r ih =>
    have h1 := ih (fun x hx => h x (List.mem_cons_of_mem _ hx))
    have h2 := h a (by simp)
    simp only [Lib.lens, List.map_cons, List.sum_cons, List.length_cons] at *
    rw [Nat.add_mul]; omega

theorem join_le (L : List (List UInt8)) (sep : List UInt8) (b : Nat) (h : ∀ x ∈ L, x.length ≤ b) : (Lib.join L sep).length ≤ sep.length * L.length + L.length * b := by
  cases L with
  | nil => simp [Lib.join_nil]
  | cons a r =>
    rw [Lib.join_length]
    have := lens_le (a :: r) b h
    have e : sep.length * r.length ≤ sep.length * (a :: r).length := Nat.mul_le_mul_left _ (by simp)
    omega
end Go.Proofs.Qxb6001616a.HdrP
