import Derived.Test.Qxb6000488aPlainA
import Derived.Deep.OwnRows
set_option linter.unusedVariables false
namespace Go.Proofs.Qxb6000488a.PlainW
open Go.ChangeShapes Go.WideShapes Go.ChangeAt Go.RowKit

theorem info5 : (Try.prog.info? 5).map (fun i => (i.zero, i.size, i.bytes)) = some (some (.int .u8 0), 1, 1) := by kernel_rfl
theorem info9 : (Try.prog.info? 9).map (fun i => (i.zero, i.size, i.bytes)) = some (some (.string ByteArray.empty), 1, 16) := by kernel_rfl

theorem row_step {w : World} {B t n k : Nat} {S : Nat → Value} {z : Value} (h : w.rowIs B t n (fun j => if j < k then S j else z)) :
    (w.setCell ⟨B, k, none⟩ (S k)).rowIs B t n (fun j => if j < k + 1 then S j else z) := by
  refine (h.set k (S k)).congr fun i hi => ?_
  by_cases e : i = k
  · subst e; simp
  · by_cases e2 : i < k
    · simp [e, e2, show i < k + 1 by omega]
    · simp [e, e2, show ¬ i < k + 1 by omega]

theorem row_all {w : World} {B t n k : Nat} {S : Nat → Value} {z : Value} (h : w.rowIs B t n (fun j => if j < k then S j else z)) (hk : n ≤ k) : w.rowIs B t n S :=
  h.congr fun i hi => by simp [show i < k by omega]

set_option maxHeartbeats 400000 in
theorem copy15_some (b off len cap : Nat) (Z : Nat → Int) (w : World) (hl : len ≤ 1048576) (hb : b < w.heap.size)
    (hc : ∀ k, k < len → w.cell? ⟨b, off + k, none⟩ = some (.int .u8 (Z k))) :
    Calls Try.prog 15 #[.slice (some ⟨b, off, none⟩) len cap] w fun e w' => e = .returned (.slice (some ⟨w.heap.size, 0, none⟩) len len) ∧ w'.rowIs w.heap.size 5 len (fun k => .int .u8 (Z k)) ∧ Below w.heap.size w w' := by
  have hmk := run_make_row' (P := Try.prog) 32 5 (.int .u8 0) 1 Try.underlying32 info5 rfl .i64 .i64 len (by omega) (by omega)
  have hnil := fun w => Lib.run_eql_slice_nil (P := Try.prog) w 32 5 (some ⟨b, off, none⟩) len cap 0 0 Try.underlying32
  have HC : Hid (∀ k, k < len → w.cell? ⟨b, off + k, none⟩ = some (.int .u8 (Z k))) := hc
  clear hc
  have hmade := World.rowIs_made w (.int .u8 0) len 5
  go_enter Try.func15, Try.ntmps15
  go_wp2
  go_loopw [4] (fun i wr => ∃ k : Nat, k ≤ len ∧ i = .int .i64 k ∧ wr.rowIs w.heap.size 5 len (fun j => if j < k then .int .u8 (Z j) else .int .u8 0) ∧ Below w.heap.size w wr) (fun i _ => len - (intOf i).toNat)
  case atStart => exact ⟨0, Nat.zero_le _, rfl, hmade.congr (fun i hi => by simp), (Below.refl _ _).alloc (Nat.le_refl _) _⟩
  case round =>
    obtain ⟨k, hk, rfl, hrow, hnx⟩ := hrel
    clear hmk hnil hmade
    by_cases hlt : k < len
    · have hcx := (hnx.cell (p := ⟨b, off + k, none⟩) hb).trans (HC.out k hlt)
      have hd := hrow.cell hlt
      simp only [Nat.lt_irrefl, if_false] at hd
      have hf := hrow.frozen k
      have R := row_step (S := fun j => .int .u8 (Z j)) hrow
      have HR : Hid ((wr.setCell ⟨w.heap.size, k, none⟩ (.int .u8 (Z k))).rowIs w.heap.size 5 len (fun j => if j < k + 1 then .int .u8 (Z j) else .int .u8 0)) := R
      clear R hrow
      generalize Z k = z at hcx HR
      go_wp2
      go_roundw
      case rel => exact ⟨k + 1, by omega, by go_num, HR.out, hnx.setCell (Nat.le_refl _) _⟩
      case measure => simp [intOf]; omega
    · have HR : Hid (wr.rowIs w.heap.size 5 len (fun k => .int .u8 (Z k))) := row_all (S := fun j => .int .u8 (Z j)) hrow (by omega)
      clear hrow
      go_wp2
      go_ret
      exact ⟨rfl, HR.out, hnx⟩

set_option maxHeartbeats 400000 in
theorem copy15_empty (a : Addr) (cap : Nat) (w : World) :
    Calls Try.prog 15 #[.slice (some a) 0 cap] w fun e w' => e = .returned (.slice (some ⟨w.heap.size, 0, none⟩) 0 0) ∧ w'.heap.size = w.heap.size + 1 ∧ Below w.heap.size w w' := by
  have hmk : ∀ w : World, (Instr.makeSlice 32 (.int .i64 0) (.int .i64 0)).run Try.prog w = .ok (.slice (some ⟨w.heap.size, 0, none⟩) 0 0) (w.alloc (.cells (madeCells #[.int .u8 0] 0) 5)) :=
    run_make_row' (P := Try.prog) 32 5 (.int .u8 0) 1 Try.underlying32 info5 rfl .i64 .i64 0 (by omega) (by omega)
  have hnil := fun w => Lib.run_eql_slice_nil (P := Try.prog) w 32 5 (some a) 0 cap 0 0 Try.underlying32
  go_enter Try.func15, Try.ntmps15
  go_wp2
  go_loop [4] (fun i => i = .int .i64 0) (fun _ => 0)
  case atStart => rfl
  case round =>
    subst hrel
    go_wp2
    go_ret
    exact ⟨rfl, by simp, (Below.refl _ _).alloc (Nat.le_refl _) _⟩

theorem copy15_nil (w : World) :
    Calls Try.prog 15 #[.slice none 0 0] w fun e w' => e = .returned (.slice none 0 0) ∧ w' = w := by
  have hnil := fun w => Lib.run_eql_slice_nil (P := Try.prog) w 32 5 none 0 0 0 0 Try.underlying32
  go_enter Try.func15, Try.ntmps15
  go_wp2
  go_ret
  exact ⟨rfl, rfl⟩

set_option maxHeartbeats 400000 in
theorem copy16_some (b off len cap : Nat) (Z : Nat → ByteArray) (w : World) (hl : len ≤ 1048576) (hb : b < w.heap.size)
    (hc : ∀ k, k < len → w.cell? ⟨b, off + k, none⟩ = some (.string (Z k))) :
    Calls Try.prog 16 #[.slice (some ⟨b, off, none⟩) len cap] w fun e w' => e = .returned (.slice (some ⟨w.heap.size, 0, none⟩) len len) ∧ w'.rowIs w.heap.size 9 len (fun k => .string (Z k)) ∧ Below w.heap.size w w' := by
  have hmk := run_make_row' (P := Try.prog) 33 9 (.string ByteArray.empty) 16 Try.underlying33 info9 rfl .i64 .i64 len (by omega) (by omega)
  have hnil := fun w => Lib.run_eql_slice_nil (P := Try.prog) w 33 9 (some ⟨b, off, none⟩) len cap 0 0 Try.underlying33
  have HC : Hid (∀ k, k < len → w.cell? ⟨b, off + k, none⟩ = some (.string (Z k))) := hc
  clear hc
  have hmade := World.rowIs_made w (.string ByteArray.empty) len 9
  go_enter Try.func16, Try.ntmps16
  go_wp2
  go_loopw [4] (fun i wr => ∃ k : Nat, k ≤ len ∧ i = .int .i64 k ∧ wr.rowIs w.heap.size 9 len (fun j => if j < k then .string (Z j) else .string ByteArray.empty) ∧ Below w.heap.size w wr) (fun i _ => len - (intOf i).toNat)
  case atStart => exact ⟨0, Nat.zero_le _, rfl, hmade.congr (fun i hi => by simp), (Below.refl _ _).alloc (Nat.le_refl _) _⟩
  case round =>
    obtain ⟨k, hk, rfl, hrow, hnx⟩ := hrel
    clear hmk hnil hmade
    by_cases hlt : k < len
    · have hcx := (hnx.cell (p := ⟨b, off + k, none⟩) hb).trans (HC.out k hlt)
      have hd := hrow.cell hlt
      simp only [Nat.lt_irrefl, if_false] at hd
      have hf := hrow.frozen k
      have R := row_step (S := fun j => .string (Z j)) hrow
      have HR : Hid ((wr.setCell ⟨w.heap.size, k, none⟩ (.string (Z k))).rowIs w.heap.size 9 len (fun j => if j < k + 1 then .string (Z j) else .string ByteArray.empty)) := R
      clear R hrow
      generalize Z k = z at hcx HR
      go_wp2
      go_roundw
      case rel => exact ⟨k + 1, by omega, by go_num, HR.out, hnx.setCell (Nat.le_refl _) _⟩
      case measure => simp [intOf]; omega
    · have HR : Hid (wr.rowIs w.heap.size 9 len (fun k => .string (Z k))) := row_all (S := fun j => .string (Z j)) hrow (by omega)
      clear hrow
      go_wp2
      go_ret
      exact ⟨rfl, HR.out, hnx⟩

set_option maxHeartbeats 400000 in
theorem copy16_empty (a : Addr) (cap : Nat) (w : World) :
    Calls Try.prog 16 #[.slice (some a) 0 cap] w fun e w' => e = .returned (.slice (some ⟨w.heap.size, 0, none⟩) 0 0) ∧ w'.heap.size = w.heap.size + 1 ∧ Below w.heap.size w w' := by
  have hmk : ∀ w : World, (Instr.makeSlice 33 (.int .i64 0) (.int .i64 0)).run Try.prog w = .ok (.slice (some ⟨w.heap.size, 0, none⟩) 0 0) (w.alloc (.cells (madeCells #[.string ByteArray.empty] 0) 9)) :=
    run_make_row' (P := Try.prog) 33 9 (.string ByteArray.empty) 16 Try.underlying33 info9 rfl .i64 .i64 0 (by omega) (by omega)
  have hnil := fun w => Lib.run_eql_slice_nil (P := Try.prog) w 33 9 (some a) 0 cap 0 0 Try.underlying33
  go_enter Try.func16, Try.ntmps16
  go_wp2
  go_loop [4] (fun i => i = .int .i64 0) (fun _ => 0)
  case atStart => rfl
  case round =>
    subst hrel
    go_wp2
    go_ret
    exact ⟨rfl, by simp, (Below.refl _ _).alloc (Nat.le_refl _) _⟩

theorem copy16_nil (w : World) :
    Calls Try.prog 16 #[.slice none 0 0] w fun e w' => e = .returned (.slice none 0 0) ∧ w' = w := by
  have hnil := fun w => Lib.run_eql_slice_nil (P := Try.prog) w 33 9 none 0 0 0 0 Try.underlying33
  go_enter Try.func16, Try.ntmps16
  go_wp2
  go_ret
  exact ⟨rfl, rfl⟩

end Go.Proofs.Qxb6000488a.PlainW
