import Derived.Test.Qxb6001616aHdrA
import Derived.Deep.OwnRows
import Derived.Laws.CopyOwn
set_option linter.unusedVariables false
namespace Go.Proofs.Qxb6001616a.HdrW
open Go.ChangeShapes Go.WideShapes Go.ChangeAt Go.RowKit

theorem info9 : (Try.prog.info? 9).map (fun i => (i.zero, i.size, i.bytes)) = some (some (.string ByteArray.empty), 1, 16) := by kernel_rfl
theorem size9 : (Try.prog.info? 9).map (·.size) = some 1 := by kernel_rfl
theorem info5 : (Try.prog.info? 5).map (fun i => (i.zero, i.size, i.bytes)) = some (some (.int .u8 0), 1, 1) := by kernel_rfl

def strsOf (len : Nat) (S : Nat → ByteArray) : List Value := (List.range len).map (fun k => .string (S k))
theorem strsOf_len (len : Nat) (S : Nat → ByteArray) : (strsOf len S).length = len := by simp [strsOf]
theorem strsOf_at (len : Nat) (S : Nat → ByteArray) (j : Nat) (v : Value) (h : (strsOf len S)[j]? = some v) : j < len ∧ v = .string (S j) := by
  have hj : j < len := by
    rcases Nat.lt_or_ge j len with h1 | h1
    · exact h1
    · rw [List.getElem?_eq_none (by rw [strsOf_len]; exact h1)] at h; simp at h
  refine ⟨hj, ?_⟩
  simp [strsOf, hj] at h
  exact h.symm

theorem row_of_strs {w : World} {g len : Nat} {S : Nat → ByteArray} (h : w.heap[g]? = some (.cells (strsOf len S).toArray 9 (0, 0))) : w.rowIs g 9 len (fun k => .string (S k)) :=
  ⟨_, h, by simp [strsOf_len], fun i hi => by simp [strsOf, hi]⟩

/-- 'copy(c, h)' into the row that 'make' has just laid. -/
theorem copied (b off len cap : Nat) (S : Nat → ByteArray) (w : World) (M : Array Value) (hM : M.size = len)
    (hc : ∀ k, k < len → w.cell? ⟨b, off + k, none⟩ = some (.string (S k))) :
    ∃ w2, (Builtin.copy_ #[22, 22] 3 #[.slice (some ⟨w.heap.size, 0, none⟩) len len, .slice (some ⟨b, off, none⟩) len cap]).run Try.prog (w.alloc (.cells M 9)) = .ok (goInt len) w2 ∧
      w2.rowIs w.heap.size 9 len (fun k => .string (S k)) ∧ Below w.heap.size w w2 := by
  have hblk : (w.alloc (.cells M 9)).heap[w.heap.size]? = some (.cells M 9 (0, 0)) := heap_alloc_new w (.cells M 9)
  have hrun := run_copy_row (P := Try.prog) (w.alloc (.cells M 9)) 22 22 3 9 w.heap.size 0 len len ⟨b, off, none⟩ len cap M 9 (strsOf len S) Try.underlying22 size9 hblk
    (by rw [strsOf_len]; simp) (fun j v h => by
      obtain ⟨hj, rfl⟩ := strsOf_at len S j v h
      have hcj := hc j hj
      have hlt : b < w.heap.size := World.block_lt_of_cell? _ _ hcj
      rw [Go.WideShapes.add_plain]
      exact (((Below.refl w.heap.size w).alloc (Nat.le_refl _) (.cells M 9)).cell (p := ⟨b, off + j, none⟩) hlt).trans hcj) (by rw [strsOf_len]; omega) (fun v hv => by
      simp [strsOf] at hv
      obtain ⟨k, _, rfl⟩ := hv
      rfl)
  rw [strsOf_len] at hrun
  have e : (M.toList.take 0 ++ strsOf len S ++ M.toList.drop (0 + len)).toArray = (strsOf len S).toArray := by
    rw [List.drop_of_length_le (by simp; omega)]; simp
  rw [e] at hrun
  exact ⟨_, hrun, row_of_strs (setRow_heap _ _ _ _ _ _ hblk), below_setRow ((Below.refl _ _).alloc (Nat.le_refl _) _) (Nat.le_refl _) _⟩

set_option maxHeartbeats 400000 in
theorem copy7_some (b off len cap : Nat) (S : Nat → ByteArray) (w : World) (hl : len ≤ 1048576) (hb : b < w.heap.size)
    (hc : ∀ k, k < len → w.cell? ⟨b, off + k, none⟩ = some (.string (S k))) :
    Calls Try.prog 7 #[.slice (some ⟨b, off, none⟩) len cap] w fun e w' => e = .returned (.slice (some ⟨w.heap.size, 0, none⟩) len len) ∧ w'.rowIs w.heap.size 9 len (fun k => .string (S k)) ∧ Below w.heap.size w w' := by
  have hmk := run_make_row' (P := Try.prog) 22 9 (.string ByteArray.empty) 16 Try.underlying22 info9 rfl .i64 .i64 len (by omega) (by omega)
  have hnil := fun w => Lib.run_eql_slice_nil (P := Try.prog) w 22 9 (some ⟨b, off, none⟩) len cap 0 0 Try.underlying22
  obtain ⟨M, hM⟩ : ∃ M, M = madeCells #[Value.string ByteArray.empty] len := ⟨_, rfl⟩
  obtain ⟨w2, hcp, hr, hB⟩ := copied b off len cap S w M (by rw [hM]; simp [size_madeCells]) hc
  rw [← hM] at hmk
  have HR : Hid (w2.rowIs w.heap.size 9 len (fun k => .string (S k)) ∧ Below w.heap.size w w2) := ⟨hr, hB⟩
  clear hM hc hr hB
  go_enter Try.func7, Try.ntmps7
  go_wp2
  go_ret
  exact ⟨rfl, HR.out.1, HR.out.2⟩

set_option maxHeartbeats 400000 in
theorem copy7_empty (a : Addr) (cap : Nat) (w : World) :
    Calls Try.prog 7 #[.slice (some a) 0 cap] w fun e w' => e = .returned (.slice (some ⟨w.heap.size, 0, none⟩) 0 0) ∧ w.heap.size < w'.heap.size ∧ Below w.heap.size w w' := by
  have hmk : ∀ w : World, (Instr.makeSlice 22 (.int .i64 0) (.int .i64 0)).run Try.prog w = .ok (.slice (some ⟨w.heap.size, 0, none⟩) 0 0) (w.alloc (.cells (madeCells #[.string ByteArray.empty] 0) 9)) :=
    run_make_row' (P := Try.prog) 22 9 (.string ByteArray.empty) 16 Try.underlying22 info9 rfl .i64 .i64 0 (by omega) (by omega)
  have hnil := fun w => Lib.run_eql_slice_nil (P := Try.prog) w 22 9 (some a) 0 cap 0 0 Try.underlying22
  have hcp := fun W => run_copy_none (P := Try.prog) W 22 22 3 9 (some ⟨w.heap.size, 0, none⟩) (some a) 0 0 0 cap Try.underlying22 size9 rfl
  go_enter Try.func7, Try.ntmps7
  go_wp2
  go_ret
  exact ⟨rfl, by simp, (Below.refl _ _).alloc (Nat.le_refl _) _⟩

theorem copy7_nil (w : World) :
    Calls Try.prog 7 #[.slice none 0 0] w fun e w' => e = .returned (.slice none 0 0) ∧ w' = w := by
  have hnil := fun w => Lib.run_eql_slice_nil (P := Try.prog) w 22 9 none 0 0 0 0 Try.underlying22
  go_enter Try.func7, Try.ntmps7
  go_wp2
  go_ret
  exact ⟨rfl, rfl⟩

/-- The header as the copy has laid it: nil, or a row of the call's own. -/
def Own (w : World) (oa : Option Addr) (n oc : Nat) (S : Nat → ByteArray) : Prop :=
  (oa = none ∧ n = 0 ∧ oc = 0) ∨ ∃ g, oa = some ⟨g, 0, none⟩ ∧ n ≤ oc ∧ g < w.heap.size ∧ ∀ k, k < n → w.cell? ⟨g, k, none⟩ = some (.string (S k))

theorem copy7 (ao : Option Addr) (len cap : Nat) (S : Nat → ByteArray) (w : World) (hl : len ≤ 1048576) (hi : InS w ao len cap S) :
    Calls Try.prog 7 #[.slice ao len cap] w fun e w' => ∃ oa, e = .returned (.slice oa len len) ∧ Own w' oa len len S ∧ Below w.heap.size w w' := by
  rcases hi with ⟨rfl, rfl, rfl⟩ | ⟨a, rfl, rfl⟩ | ⟨b, off, rfl, hb, hc⟩
  · refine (copy7_nil w).mono ?_
    rintro e w' ⟨rfl, rfl⟩
    exact ⟨_, rfl, Or.inl ⟨rfl, rfl, rfl⟩, Below.refl _ _⟩
  · refine (copy7_empty a cap w).mono ?_
    rintro e w' ⟨rfl, hs, hb⟩
    exact ⟨_, rfl, Or.inr ⟨_, rfl, Nat.le_refl _, hs, fun k hk => absurd hk (by omega)⟩, hb⟩
  · refine (copy7_some b off len cap S w hl hb hc).mono ?_
    rintro e w' ⟨rfl, hr, hb⟩
    exact ⟨_, rfl, Or.inr ⟨_, rfl, Nat.le_refl _, hr.lt, fun k hk => hr.cell hk⟩, hb⟩

/-- What the call owns still reads so behind new memory. -/
theorem Own.later {w w' : World} {oa : Option Addr} {n oc : Nat} {S : Nat → ByteArray} (h : Own w oa n oc S) (hb : Below w.heap.size w w') : Own w' oa n oc S := by
  rcases h with h | ⟨g, rfl, h0, hlt, hc⟩
  · exact Or.inl h
  · exact Or.inr ⟨g, rfl, h0, by have := hb.size; omega, fun k hk => (hb.cell (p := ⟨g, k, none⟩) hlt).trans (hc k hk)⟩
end Go.Proofs.Qxb6001616a.HdrW
