import Derived.Test.Qxb6001616aHdrC
import Derived.Test.Qxb6001616aShelf
set_option linter.unusedVariables false
namespace Go.Proofs.Qxb6001616a.HdrW
open Go.ChangeShapes Go.WideShapes Go.ChangeAt Go.RowKit

theorem row_step {w : World} {B t n k : Nat} {S : Nat → Value} {z : Value} (h : w.rowIs B t n (fun j => if j < k then S j else z)) :
    (w.setCell ⟨B, k, none⟩ (S k)).rowIs B t n (fun j => if j < k + 1 then S j else z) := by
  refine (h.set k (S k)).congr fun i hi => ?_
  by_cases e : i = k
  · subst e; simp
  · by_cases e2 : i < k
    · simp [e, e2, show i < k + 1 by omega]
    · simp [e, e2, show ¬ i < k + 1 by omega]

theorem row_all {w : World} {B t n k : Nat} {S : Nat → Value} {z : Value} (h : w.rowIs B t n (fun j => if j < k then S j else z)) (hk : n ≤ k) : w.rowIs B t n S :=
  h.congr fun i hi => by simp [show i < k by omega]

/-- strings.Join of the first m columns. -/
theorem joinC (g c m : Nat) (S : Nat → ByteArray) (w : World) (hm : m ≤ 512) (hmc : m ≤ c) (hg : g < w.heap.size)
    (hS : ∀ k, k < m → (S k).size ≤ 1048576) (hc : ∀ k, k < m → w.cell? ⟨g, k, none⟩ = some (.string (S k))) :
    Calls Try.prog 12 #[.slice (some ⟨g, 0, none⟩) m c, .string ⟨#[44]⟩] w fun e w' => e = .returned (.string ⟨(HdrP.J S m).toArray⟩) ∧ Below w.heap.size w w' := by
  have hl := HdrP.cols_len S m
  have hj := HdrP.join_cols S m
  have hle := HdrP.J_len S m (fun k hk => by have := hS k hk; simpa [HdrP.bl] using this)
  have c := Try.strings_Join g 0 c (HdrP.cols S m) ⟨#[44]⟩ w (fun j x h => by
    obtain ⟨h1, rfl⟩ := HdrP.cols_at S m j x h
    rw [Nat.zero_add]; exact hc j h1) hg (by rw [hl]; omega) (by rw [hl]; exact hmc) (by
      show (Lib.join _ [44]).length ≤ _
      rw [hj]; omega)
  rw [hl] at c
  refine c.mono ?_
  rintro e w' ⟨rfl, hb⟩
  refine ⟨?_, hb⟩
  show Ending.returned (.string ⟨(Lib.join _ [44]).toArray⟩) = _
  rw [hj]

theorem H_le (n opt : Nat) (S : Nat → ByteArray) (hn : n ≤ 512) (ho : opt ≤ 512) (hS : ∀ k, k < n → (S k).size ≤ 1048576) : (HdrP.H S n opt).length ≤ 140737488355328 := by
  have hl := HdrP.cols_len (HdrP.hd S n) (opt + 1)
  have h := HdrP.join_le ((HdrP.cols (HdrP.hd S n) (opt + 1)).map (·.data.toList)) [32, 111, 114, 32] 536871424 (fun x hx => by
    simp only [HdrP.cols, List.map_map, List.mem_map, List.mem_range] at hx
    obtain ⟨k, _, rfl⟩ := hx
    have := HdrP.hd_len S n k (fun k hk => by have := hS k hk; simpa [HdrP.bl] using this) hn
    simpa using this)
  rw [List.length_map, hl] at h
  have h4 : ([32, 111, 114, 32] : List UInt8).length = 4 := rfl
  rw [h4] at h
  show (Lib.join _ _).length ≤ _
  omega

/-- strings.Join of the whole list of headers. -/
theorem joinH (g n opt : Nat) (S : Nat → ByteArray) (w : World) (hn : n ≤ 512) (ho : opt ≤ 512) (hg : g < w.heap.size)
    (hS : ∀ k, k < n → (S k).size ≤ 1048576) (hc : ∀ k, k < opt + 1 → w.cell? ⟨g, k, none⟩ = some (.string (HdrP.hd S n k))) :
    Calls Try.prog 12 #[.slice (some ⟨g, 0, none⟩) (opt + 1) (opt + 1), .string ⟨#[32, 111, 114, 32]⟩] w fun e w' => e = .returned (.string ⟨(HdrP.H S n opt).toArray⟩) ∧ Below w.heap.size w w' := by
  have hl := HdrP.cols_len (HdrP.hd S n) (opt + 1)
  have hle := H_le n opt S hn ho hS
  have c := Try.strings_Join g 0 (opt + 1) (HdrP.cols (HdrP.hd S n) (opt + 1)) ⟨#[32, 111, 114, 32]⟩ w (fun j x h => by
    obtain ⟨h1, rfl⟩ := HdrP.cols_at (HdrP.hd S n) (opt + 1) j x h
    rw [Nat.zero_add]; exact hc j h1) hg (by rw [hl]; omega) (by rw [hl]; exact Nat.le_refl _) hle
  rw [hl] at c
  exact c

set_option maxHeartbeats 800000 in
theorem headers11_row (g n oc opt : Nat) (S : Nat → ByteArray) (w : World) (hn : n ≤ 512) (ho : opt ≤ n) (hoc : n ≤ oc) (hocm : oc ≤ 512) (hg : g < w.heap.size)
    (hS : ∀ k, k < n → (S k).size ≤ 1048576) (hc : ∀ k, k < n → w.cell? ⟨g, k, none⟩ = some (.string (S k))) :
    Calls Try.prog 11 #[.slice (some ⟨g, 0, none⟩) n oc, .int .i64 opt] w fun e w' => e = .returned (.string ⟨(HdrP.H S n opt).toArray⟩) ∧ Below w.heap.size w w' := by
  have hmk := run_make_row' (P := Try.prog) 22 9 (.string ByteArray.empty) 16 Try.underlying22 info9 rfl .i64 .i64 (opt + 1) (by omega) (by omega)
  have ec : ((opt + 1 : Nat) : Int) = (opt : Int) + 1 := by omega
  rw [ec] at hmk
  clear ec
  have hmade := World.rowIs_made w (.string ByteArray.empty) (opt + 1) 9
  have HC : Hid (∀ k, k < n → w.cell? ⟨g, k, none⟩ = some (.string (S k))) := hc
  have HS : Hid (∀ k, k < n → (S k).size ≤ 1048576) := hS
  clear hc hS
  go_enter Try.func11, Try.ntmps11
  go_wp2_with fail
  go_loopw [12] (fun i wr => ∃ k : Nat, k ≤ opt + 1 ∧ i = .int .i64 k ∧ wr.rowIs w.heap.size 9 (opt + 1) (fun j => if j < k then .string (HdrP.hd S n j) else .string ByteArray.empty) ∧ Below w.heap.size w wr) (fun i _ => opt + 1 - (intOf i).toNat)
  case atStart => exact ⟨0, Nat.zero_le _, rfl, hmade.congr (fun i hi => by simp), (Below.refl _ _).alloc (Nat.le_refl _) _⟩
  case round =>
    obtain ⟨k, hk, rfl, hrow, hnx⟩ := hrel
    clear hmk hmade
    by_cases hlt : k < opt + 1
    · have HR : Hid (wr.rowIs w.heap.size 9 (opt + 1) (fun j => if j < k then .string (HdrP.hd S n j) else .string ByteArray.empty)) := hrow
      have HN : Hid (Below w.heap.size w wr) := hnx
      clear hrow hnx
      go_wp2_with fail
      refine (joinC g oc (n - k) S _ (by omega) (by omega) (by have := HN.out.size; omega) (fun j hj => HS.out j (by omega)) (fun j hj => (HN.out.cell (p := ⟨g, j, none⟩) hg).trans (HC.out j (by omega)))).mono ?_
      rintro e w1 ⟨rfl, hb⟩
      have hrow : w1.rowIs w.heap.size 9 (opt + 1) (fun j => if j < k then .string (HdrP.hd S n j) else .string ByteArray.empty) := HR.out.of_block (hb.block _ HR.out.lt)
      have hbw : Below w.heap.size w w1 := HN.out.trans (hb.mono HN.out.size)
      have hd := hrow.cell hlt
      simp only [Nat.lt_irrefl, if_false] at hd
      have hf := hrow.frozen k
      have HR1 : Hid ((w1.setCell ⟨w.heap.size, k, none⟩ (.string (HdrP.hd S n k))).rowIs w.heap.size 9 (opt + 1) (fun j => if j < k + 1 then .string (HdrP.hd S n j) else .string ByteArray.empty)) := row_step (S := fun j => .string (HdrP.hd S n j)) hrow
      have HB1 : Hid (Below w.heap.size w w1) := hbw
      have hz : (⟨(HdrP.J S (n - k)).toArray⟩ : ByteArray) = HdrP.hd S n k := rfl
      rw [hz]
      clear hb hrow hbw hz HR HN
      generalize HdrP.hd S n k = z at HR1 ⊢
      go_wp2_with fail
      go_roundw
      case rel => exact ⟨k + 1, by omega, by go_num, HR1.out, HB1.out.setCell (Nat.le_refl _) _⟩
      case measure => simp [intOf]; omega
    · have HR : Hid (wr.rowIs w.heap.size 9 (opt + 1) (fun j => .string (HdrP.hd S n j))) := row_all (S := fun j => .string (HdrP.hd S n j)) hrow (by omega)
      have HN : Hid (Below w.heap.size w wr) := hnx
      clear hrow hnx
      go_wp2_with fail
      refine (joinH w.heap.size n opt S _ hn (by omega) HR.out.lt HS.out (fun j hj => HR.out.cell hj)).mono ?_
      rintro e w1 ⟨rfl, hb⟩
      have HB1 : Hid (Below w.heap.size w w1) := HN.out.trans (hb.mono HN.out.size)
      clear hb HR HN
      go_wp2_with fail
      go_ret
      exact ⟨rfl, HB1.out⟩

theorem hd_zero (S : Nat → ByteArray) (j : Nat) : HdrP.hd S 0 j = ByteArray.empty := by
  unfold HdrP.hd
  rw [Nat.zero_sub]
  rfl

set_option maxHeartbeats 800000 in
theorem headers11_nil (S : Nat → ByteArray) (w : World) :
    Calls Try.prog 11 #[.slice none 0 0, .int .i64 0] w fun e w' => e = .returned (.string ⟨(HdrP.H S 0 0).toArray⟩) ∧ Below w.heap.size w w' := by
  have hmk : ∀ w : World, (Instr.makeSlice 22 (.int .i64 1) (.int .i64 1)).run Try.prog w = .ok (.slice (some ⟨w.heap.size, 0, none⟩) 1 1) (w.alloc (.cells (madeCells #[.string ByteArray.empty] 1) 9)) :=
    run_make_row' (P := Try.prog) 22 9 (.string ByteArray.empty) 16 Try.underlying22 info9 rfl .i64 .i64 1 (by omega) (by omega)
  have hmade := World.rowIs_made w (.string ByteArray.empty) 1 9
  obtain ⟨M, hM⟩ : ∃ M, M = madeCells #[Value.string ByteArray.empty] 1 := ⟨_, rfl⟩
  rw [← hM] at hmk hmade
  clear hM
  have HM : Hid ((w.alloc (.cells M 9)).rowIs w.heap.size 9 1 (fun _ => .string ByteArray.empty)) := hmade
  clear hmade
  go_enter Try.func11, Try.ntmps11
  go_wp2_with fail
  go_loopw [12] (fun i wr => (i = .int .i64 0 ∨ i = .int .i64 1) ∧ wr.rowIs w.heap.size 9 1 (fun _ => .string ByteArray.empty) ∧ Below w.heap.size w wr) (fun i _ => 1 - (intOf i).toNat)
  case atStart => exact ⟨Or.inl rfl, HM.out, (Below.refl _ _).alloc (Nat.le_refl _) _⟩
  case round =>
    obtain ⟨hi, hrow, hnx⟩ := hrel
    clear hmk HM
    rcases hi with rfl | rfl
    · have HR : Hid (wr.rowIs w.heap.size 9 1 (fun _ => .string ByteArray.empty)) := hrow
      have HN : Hid (Below w.heap.size w wr) := hnx
      have hd := hrow.cell (i := 0) (by omega)
      have hf := hrow.frozen 0
      have HR1 : Hid ((wr.setCell ⟨w.heap.size, 0, none⟩ (.string ⟨#[]⟩)).rowIs w.heap.size 9 1 (fun _ => .string ByteArray.empty)) := (hrow.set 0 (.string ⟨#[]⟩)).congr (fun i hi => by
        obtain rfl : i = 0 := by omega
        rfl)
      clear hrow hnx
      go_wp2_with fail
      refine (Try.strings_Join_none none 0 _ _).mono ?_
      rintro e w1 ⟨rfl, rfl⟩
      go_wp2_with fail
      go_roundw
      case rel => exact ⟨Or.inr rfl, HR1.out, HN.out.setCell (Nat.le_refl _) _⟩
      case measure => simp [intOf]
    · have HR : Hid (wr.rowIs w.heap.size 9 1 (fun _ => .string ByteArray.empty)) := hrow
      have HN : Hid (Below w.heap.size w wr) := hnx
      clear hrow hnx
      go_wp2_with fail
      refine (joinH w.heap.size 0 0 S _ (by omega) (by omega) HR.out.lt (fun j hj => absurd hj (by omega)) (fun j hj => (HR.out.cell hj).trans (by rw [hd_zero]))).mono ?_
      rintro e w1 ⟨rfl, hb⟩
      have HB1 : Hid (Below w.heap.size w w1) := HN.out.trans (hb.mono HN.out.size)
      clear hb HR HN
      go_wp2_with fail
      go_ret
      exact ⟨rfl, HB1.out⟩

theorem headers11 (oa : Option Addr) (n oc opt : Nat) (z : Int) (S : Nat → ByteArray) (w : World) (hz : z = opt) (hn : n ≤ 512) (ho : opt ≤ n) (hocm : oc ≤ 512)
    (hS : ∀ k, k < n → (S k).size ≤ 1048576) (hown : Own w oa n oc S) :
    Calls Try.prog 11 #[.slice oa n oc, .int .i64 z] w fun e w' => e = .returned (.string ⟨(HdrP.H S n opt).toArray⟩) ∧ Below w.heap.size w w' := by
  rcases hown with ⟨rfl, rfl, rfl⟩ | ⟨g, rfl, hoc, hg, hc⟩
  · obtain rfl : opt = 0 := by omega
    rw [hz]
    exact headers11_nil S w
  · rw [hz]
    exact headers11_row g n oc opt S w hn ho hoc hocm hg hS hc

theorem headers8 (oa : Option Addr) (n oc opt : Nat) (z : Int) (S : Nat → ByteArray) (w : World) (hz : z = opt) (hn : n ≤ 512) (ho : opt ≤ n) (hocm : oc ≤ 512)
    (hS : ∀ k, k < n → (S k).size ≤ 1048576) (hown : Own w oa n oc S) :
    Calls Try.prog 8 #[.slice oa n oc, .int .i64 z] w fun e w' => e = .returned (.string ⟨(HdrP.H S n opt).toArray⟩) ∧ Below w.heap.size w w' := by
  have C : Hid (∀ x, x = w → Calls Try.prog 11 #[.slice oa n oc, .int .i64 z] x fun e w' => e = .returned (.string ⟨(HdrP.H S n opt).toArray⟩) ∧ Below x.heap.size x w') :=
    fun x hx => by rw [hx]; exact headers11 oa n oc opt z S w hz hn ho hocm hS hown
  clear hz hS hown
  go_enter Try.func8, Try.ntmps8
  go_wp2_with fail
  refine (C.out _ rfl).mono ?_
  rintro e w' ⟨rfl, hb⟩
  have HB : Hid (Below w.heap.size w w') := hb
  clear hb
  go_wp2_with fail
  go_ret
  exact ⟨rfl, HB.out⟩
end Go.Proofs.Qxb6001616a.HdrW
