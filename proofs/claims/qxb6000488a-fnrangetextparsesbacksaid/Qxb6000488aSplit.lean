import Derived.Test.Qxb6000488aSpaces
import Derived.Lib.Strings
set_option linter.unusedVariables false
namespace Go.Proofs.Qxb6000488a.RangeW

def splitL : List UInt8 → List UInt8 → List (List UInt8)
  | cur, [] => [cur]
  | cur, c :: r => if c = 32 then cur :: splitL [] r else splitL (cur ++ [c]) r

theorem ext_list (s : ByteArray) (a k : Nat) : (s.extract a k).data.toList = (s.data.toList.take k).drop a := by
  rw [Lib.extract_data, List.drop_take]

theorem split_inv (s : ByteArray) : ∀ k, k ≤ s.size → (pcs s k).map (fun p => p.data.toList) ++ splitL ((s.data.toList.take k).drop (st s k)) (s.data.toList.drop k) = splitL [] s.data.toList := by
  intro k
  induction k with
  | zero => intro _; simp [pcs, st]
  | succ k ih =>
    intro hk
    have hlt : k < s.size := by omega
    have hl : k < s.data.toList.length := by simpa using hlt
    have ek : s.data.toList[k] = s[k] := by
      have := at_k s k hlt
      rw [List.getElem?_eq_getElem hl] at this
      exact Option.some.inj this
    rw [← ih (by omega), List.drop_eq_getElem_cons hl, ek]
    by_cases e : s[k] = 32
    · rw [st_yes s k hlt e, pcs_yes s k hlt e]
      have e1 : (s.data.toList.take (k + 1)).drop (k + 1) = [] := by simp
      rw [e1, splitL, if_pos e]
      simp [List.drop_take]
    · rw [st_no s k hlt e, pcs_no s k hlt e]
      have hst := st_le s k
      have e1 : (s.data.toList.take (k + 1)).drop (st s k) = (s.data.toList.take k).drop (st s k) ++ [s[k]] := by
        rw [List.take_succ_eq_append_getElem hl, ek, List.drop_append_of_le_length (by rw [List.length_take]; omega)]
      rw [e1]
      conv => rhs; rw [splitL, if_neg e]

theorem allP_split (s : ByteArray) : (allP s).map (fun p => p.data.toList) = splitL [] s.data.toList := by
  rw [← split_inv s s.size (Nat.le_refl _)]
  have h1 : s.data.toList.take s.size = s.data.toList := List.take_of_length_le (by simp)
  have h2 : s.data.toList.drop s.size = [] := List.drop_of_length_le (by simp)
  unfold allP
  rw [h1, h2, splitL]
  simp only [List.map_append, List.map_cons, List.map_nil, ext_list, h1]

theorem split_sp (x r : List UInt8) (h : ¬ (32 : UInt8) ∈ x) : ∀ cur, splitL cur (x ++ 32 :: r) = (cur ++ x) :: splitL [] r := by
  induction x with
  | nil => intro cur; simp [splitL]
  | cons c x ih =>
    intro cur
    have hc : c ≠ 32 := fun e => h (by simp [e])
    rw [List.cons_append, splitL, if_neg hc, ih (fun e => h (List.mem_cons_of_mem _ e))]
    simp

theorem split_end (x : List UInt8) (h : ¬ (32 : UInt8) ∈ x) : ∀ cur, splitL cur x = [cur ++ x] := by
  induction x with
  | nil => intro cur; simp [splitL]
  | cons c x ih =>
    intro cur
    have hc : c ≠ 32 := fun e => h (by simp [e])
    rw [splitL, if_neg hc, ih (fun e => h (List.mem_cons_of_mem _ e))]
    simp

theorem split_from (a : List UInt8) (h : ¬ (32 : UInt8) ∈ a) : splitL [] ([32, 102, 114, 111, 109, 32] ++ a ++ [32, 111, 110]) = [[], [102, 114, 111, 109], a, [111, 110]] := by
  have e : ([32, 102, 114, 111, 109, 32] ++ a ++ [32, 111, 110] : List UInt8) = [] ++ 32 :: ([102, 114, 111, 109] ++ 32 :: (a ++ 32 :: [111, 110])) := by simp
  rw [e, split_sp _ _ (by decide), split_sp _ _ (by decide), split_sp _ _ h, split_end _ (by decide)]
  simp

theorem split_upto (b : List UInt8) (h : ¬ (32 : UInt8) ∈ b) : splitL [] ([32, 117, 112, 32, 116, 111, 32] ++ b) = [[], [117, 112], [116, 111], b] := by
  have e : ([32, 117, 112, 32, 116, 111, 32] ++ b : List UInt8) = [] ++ 32 :: ([117, 112] ++ 32 :: ([116, 111] ++ 32 :: b)) := by simp
  rw [e, split_sp _ _ (by decide), split_sp _ _ (by decide), split_sp _ _ (by decide), split_end _ h]
  simp

theorem split_both (a b : List UInt8) (ha : ¬ (32 : UInt8) ∈ a) (hb : ¬ (32 : UInt8) ∈ b) : splitL [] ([32, 102, 114, 111, 109, 32] ++ a ++ [32, 116, 111, 32] ++ b) = [[], [102, 114, 111, 109], a, [116, 111], b] := by
  have e : ([32, 102, 114, 111, 109, 32] ++ a ++ [32, 116, 111, 32] ++ b : List UInt8) = [] ++ 32 :: ([102, 114, 111, 109] ++ 32 :: (a ++ 32 :: ([116, 111] ++ 32 :: b))) := by simp
  rw [e, split_sp _ _ (by decide), split_sp _ _ (by decide), split_sp _ _ ha, split_sp _ _ (by decide), split_end _ hb]
  simp

/-- A list of byte strings is known by what its members spell. -/
theorem bytes_map {l : List ByteArray} {m : List (List UInt8)} (h : l.map (fun p => p.data.toList) = m) : l = m.map (fun x => (⟨x.toArray⟩ : ByteArray)) := by
  subst h
  rw [List.map_map]
  conv => lhs; rw [← List.map_id l]
  exact List.map_congr_left fun x _ => by cases x; simp
end Go.Proofs.Qxb6000488a.RangeW
