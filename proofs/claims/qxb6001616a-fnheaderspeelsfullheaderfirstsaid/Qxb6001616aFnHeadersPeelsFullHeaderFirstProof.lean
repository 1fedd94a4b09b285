/-
  The frame of 'Rows.FnHeadersPeelsFullHeaderFirstSaid', after the guide's shell for slices of integers, turned for slices of strings.
-/
import Derived.Test.Qxb6001616aRows
import Derived.WalkKit
import Derived.ProofKit
import Derived.OpenShut
import Derived.ShutString
import Derived.ChangeOld
import Derived.Below
import Derived.Test.Qxb6001616aHdrE
namespace Go.Proofs.Qxb6001616a.fnHeadersPeelsFullHeaderFirst
open Go.ChangeShapes Go.WideShapes Go.ChangeAt Go.RowKit
open Go.ChangeMaps (open_string shut_string)
set_option linter.unusedVariables false

theorem own : ownKnob Try.prog.godebug = none := by kernel_rfl
theorem laidOut : laidOutB Try.prog = true := by kernel_rfl

open HdrW (InS law4)

theorem inS_nil (W : World) : ∃ Z, InS W none 0 0 Z ∧ ∀ k, (Z k).size ≤ maxLen := ⟨fun _ => ByteArray.empty, Or.inl ⟨rfl, rfl, rfl⟩, fun _ => by simp⟩

theorem strs_at {w : World} {a : Addr} {ss : List ByteArray} (h : ∀ i, i < ss.length → w.cell? (a.add i) = some (.string (ss.getD i ByteArray.empty))) (hp : 0 < ss.length) :
    ∃ b off, a = ⟨b, off, none⟩ ∧ ∀ j, j < ss.length → w.cell? ⟨b, off + j, none⟩ = some (.string (ss.getD j ByteArray.empty)) := by
  obtain ⟨b, off, spot⟩ := a
  have hspot : spot = none := by simpa [Addr.add] using World.cell?_spot (h 0 hp)
  subst hspot
  exact ⟨b, off, rfl, fun j hj => by rw [← Go.WideShapes.add_plain]; exact h j hj⟩

theorem inS_row (W : World) (x : Addr) (len cap : Nat) (ss : List ByteArray) (hl : len ≤ cap) (hz : ss.length = cap)
    (hcell : ∀ i, i < ss.length → W.cell? (x.add i) = some (.string (ss.getD i ByteArray.empty))) (hs : ∀ s ∈ ss, s.size ≤ maxLen) : ∃ Z, InS W (some x) len cap Z ∧ ∀ k, (Z k).size ≤ maxLen := by
  refine ⟨fun k => ss.getD k ByteArray.empty, ?_, fun k => ?_⟩
  · by_cases h : len = 0
    · exact Or.inr (Or.inl ⟨x, rfl, h⟩)
    · obtain ⟨b, off, rfl, hc⟩ := strs_at hcell (by omega)
      exact Or.inr (Or.inr ⟨b, off, rfl, World.block_lt_of_cell? _ _ (hc 0 (by omega)), fun k hk => hc k (by omega)⟩)
  · by_cases h : k < ss.length
    · simp only [List.getD, List.getElem?_eq_getElem h, Option.getD_some]
      exact hs _ (List.getElem_mem h)
    · simp [List.getD, List.getElem?_eq_none (by omega : ss.length ≤ k)]

/-! ### THE ROW's STEP -/
set_option maxRecDepth 100000 in
theorem lifted (os : Os) (started : os.Started) (H : Type) (enc : TypeId × Value → H) :
    ReturnsInHanded {} Try.checked os 4 .any (Rows.fnHeadersPeelsFullHeaderFirstSpec.pre6 enc Try.prog Try.f4 Rows.fnHeadersPeelsFullHeaderFirstRow.domain false) (Rows.fnHeadersPeelsFullHeaderFirstSpec.post enc Try.prog Try.f4 false true false false) := by
  refine returnsInHanded_of_change (C := Try.checked) own started (by kernel_rfl) Try.func4
    (ChangeSpec.witness6 (enc := enc) (C := Try.checked) false ⟨#[], #[.slice none 0 0, .int .i64 0], []⟩ 8 (by kernel_rfl) (by kernel_rfl) (by kernel_rfl) (by kernel_rfl)) ?_
  intro W base args ds gs before hval0 hW hcnd _
  have hval : ∀ (j : Nat) t v, Try.f4.params[j]? = some t → args[j]? = some v → Value.okWide Try.prog W .any base t v := hval0
  have hW' := hW
  obtain ⟨p, q, hA0, hV, rfl, hfz, hnd⟩ := hW
  have hA : DataW.TrodAll enc Try.prog W 0 (fun _ => true) true Try.f4.params.toList args.toList ds p := hA0
  rw [Try.params4] at hA hval
  obtain ⟨v0, vs0, d0, ds0, p0, q0, hargs, rfl, rfl, h0, r0⟩ := trodAll_cons hA
  obtain ⟨v1, vs1, d1, ds1, p1, q1, rfl, rfl, rfl, h1, r1⟩ := trodAll_cons r0
  obtain ⟨rfl, rfl, rfl⟩ := trodAll_nil r1
  obtain rfl : args = #[v0, v1] := by cases args; simp_all
  obtain ⟨rfl, rfl⟩ := trodVars_none hV
  obtain ⟨a0, len0, cap0, rfl⟩ := okWide_slice Try.underlying22 (hval 0 22 v0 rfl rfl)
  have k0 := h0
  have lt0 : ∀ x ∈ p0, x.block < W.heap.size := by obtain ⟨m, hm⟩ := k0; exact DataW.trod_lt m _ _ _ hm
  obtain ⟨z0, w0, s0, m0⟩ : ∃ Z, InS W a0 len0 cap0 Z ∧ (∀ k, (Z k).size ≤ maxLen) ∧ len0 ≤ maxLen := by
    obtain ⟨fuel, hf⟩ := h0
    rcases open_strings Try.underlying22 Try.underlying9 (by kernel_rfl) hf with ⟨hcs, _⟩ | ⟨x, l, c, zs, hcs, _, hl, hm, hz, _, hcell, hwz⟩
    · simp [Value.cells] at hcs
      obtain ⟨rfl, rfl, rfl⟩ := hcs
      obtain ⟨Z, hZ, hs⟩ := inS_nil W
      exact ⟨Z, hZ, hs, Nat.zero_le _⟩
    · simp [Value.cells] at hcs
      obtain ⟨rfl, rfl, rfl⟩ := hcs
      obtain ⟨Z, hZ, hs⟩ := inS_row W _ _ _ zs hl (by simpa using hz) hcell hwz
      exact ⟨Z, hZ, hs, Nat.le_trans hl hm⟩
  obtain ⟨a1, rfl, rfl, rfl, w1⟩ := open_int Try.underlying3 (hval 1 3 v1 rfl rfl) h1
  clear hA0 hval0
  refine (law4 a0 len0 cap0 a1 z0 W m0 s0 w0).mono fun e W' ⟨he, bel⟩ => ?_
  subst he
  exact ⟨_, rfl, _, _, _, [], _, [], hW', trodAll_mk1 (shut_bool Try.underlying4 _), (trodAll_cons_mk (Below.trod laidOut (by kernel_rfl) (of_decide_eq_true (by kernel_rfl)) k0 bel lt0) (trodAll_cons_mk (shut_int Try.underlying3 w1) trodAll_mk0)), rfl, bel.frame _, fun h => by cases h⟩

theorem over : Rows.fnHeadersPeelsFullHeaderFirstRow.holds Try.pinned (OpenSpec.ofChange Rows.fnHeadersPeelsFullHeaderFirstSpec) :=
  OpenClaim.holds_of_wide 4 Try.f4 rfl rfl rfl rfl rfl rfl rfl ⟨rfl, rfl, rfl, rfl, rfl⟩ rfl rfl rfl rfl rfl (by kernel_rfl) Try.func4 (by kernel_rfl)
    (of_decide_eq_true (by kernel_rfl)) (by unfold Func.isWrapper; first | (rw [if_pos (by decide +kernel)]; kernel_rfl) | (rw [if_neg (by decide +kernel)]; exact ⟨rfl, rfl⟩))
    (fun os started H enc _ => lifted os started H enc)

/-- THE STATEMENT -/
theorem proved : Rows.FnHeadersPeelsFullHeaderFirstSaid := over
#print axioms proved
end Go.Proofs.Qxb6001616a.fnHeadersPeelsFullHeaderFirst
