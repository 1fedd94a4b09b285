import Derived.Test.Qxb6000488aSplit
import Derived.Deep.QuietTactic
import Derived.BigQuiet
import Derived.WalkSmall
set_option linter.unusedVariables false
namespace Go.Proofs.Qxb6000488a.RangeW
open Go.ChangeShapes Go.WideShapes Go.ChangeAt Go.RowKit

/-- What the split hands back: a row of the call's own. -/
def Parts (s : ByteArray) (n : Nat) (ps : List ByteArray) : Prop :=
  ∀ x : World, Calls Try.prog 28 #[.string s] x fun e w' => ∃ g cap, e = .returned (.slice (some ⟨g, 0, none⟩) n cap) ∧ (∀ j, j < n → w'.cell? ⟨g, j, none⟩ = (ps.map Value.string)[j]?) ∧ Below x.heap.size x w'

theorem parts_of (s : ByteArray) (n : Nat) (ps : List ByteArray) (hs : s.size ≤ 2097152) (h : allP s = ps) (hn : ps.length = n) (h0 : 0 < n) : Parts s n ps := by
  intro x
  refine (split28 s x hs).mono ?_
  rintro e w' ⟨v, rfl, hown, hb⟩
  rw [h, hn] at hown
  rcases hown.2 with ⟨_, h2⟩ | ⟨g, cap, cur, rfl, _⟩
  · omega
  · exact ⟨g, cap, rfl, fun j hj => hown.cellAt j (by omega), hb⟩

set_option maxHeartbeats 400000 in
theorem parse_from (s p0 p1 p2 p3 : ByteArray) (w : World) (hs : s.toList.isEmpty = false) (hp : Parts s 4 [p0, p1, p2, p3])
    (t0 : p0.toList.isEmpty = true) (t1 : (p1.toList == [102, 114, 111, 109]) = true) (t3 : (p3.toList == [111, 110]) = true) (t2 : p2.toList.isEmpty = false) :
    Calls Try.prog 23 #[.string s] w fun e w' => e = .returned (.tuple #[.string p2, .string ⟨#[]⟩, .bool true]) ∧ Below w.heap.size w w' := by
  go_enter Try.func23, Try.ntmps23
  go_wp2_with fail
  refine (hp _).mono ?_
  rintro e w1 ⟨g, cap, rfl, hc, hb⟩
  have c0 := hc 0 (by omega)
  have c1 := hc 1 (by omega)
  have c2 := hc 2 (by omega)
  have c3 := hc 3 (by omega)
  simp only [List.map_cons, List.map_nil, List.getElem?_cons_zero, List.getElem?_cons_succ] at c0 c1 c2 c3
  have HB : Hid (Below w.heap.size w w1) := hb
  clear hc hb
  go_wp2
  go_ret3
  exact ⟨rfl, HB.out⟩

set_option maxHeartbeats 400000 in
theorem parse_upto (s p0 p1 p2 p3 : ByteArray) (w : World) (hs : s.toList.isEmpty = false) (hp : Parts s 4 [p0, p1, p2, p3])
    (t0 : p0.toList.isEmpty = true) (t1 : (p1.toList == [102, 114, 111, 109]) = false) (u1 : (p1.toList == [117, 112]) = true) (t2 : (p2.toList == [116, 111]) = true) (t3 : p3.toList.isEmpty = false) :
    Calls Try.prog 23 #[.string s] w fun e w' => e = .returned (.tuple #[.string ⟨#[]⟩, .string p3, .bool true]) ∧ Below w.heap.size w w' := by
  go_enter Try.func23, Try.ntmps23
  go_wp2_with fail
  refine (hp _).mono ?_
  rintro e w1 ⟨g, cap, rfl, hc, hb⟩
  have c0 := hc 0 (by omega)
  have c1 := hc 1 (by omega)
  have c2 := hc 2 (by omega)
  have c3 := hc 3 (by omega)
  simp only [List.map_cons, List.map_nil, List.getElem?_cons_zero, List.getElem?_cons_succ] at c0 c1 c2 c3
  have HB : Hid (Below w.heap.size w w1) := hb
  clear hc hb
  go_wp2
  go_quiet (fail)
  go_wp2
  go_ret3
  exact ⟨rfl, below_drewN HB.out _⟩

set_option maxHeartbeats 400000 in
theorem parse_both (s p0 p1 p2 p3 p4 : ByteArray) (w : World) (hs : s.toList.isEmpty = false) (hp : Parts s 5 [p0, p1, p2, p3, p4])
    (t0 : p0.toList.isEmpty = true) (t1 : (p1.toList == [102, 114, 111, 109]) = true) (t3 : (p3.toList == [116, 111]) = true) (t2 : p2.toList.isEmpty = false) (t4 : p4.toList.isEmpty = false) :
    Calls Try.prog 23 #[.string s] w fun e w' => e = .returned (.tuple #[.string p2, .string p4, .bool true]) ∧ Below w.heap.size w w' := by
  go_enter Try.func23, Try.ntmps23
  go_wp2_with fail
  refine (hp _).mono ?_
  rintro e w1 ⟨g, cap, rfl, hc, hb⟩
  have c0 := hc 0 (by omega)
  have c1 := hc 1 (by omega)
  have c2 := hc 2 (by omega)
  have c3 := hc 3 (by omega)
  have c4 := hc 4 (by omega)
  simp only [List.map_cons, List.map_nil, List.getElem?_cons_zero, List.getElem?_cons_succ] at c0 c1 c2 c3 c4
  have HB : Hid (Below w.heap.size w w1) := hb
  clear hc hb
  go_wp2
  go_quiet (fail)
  go_wp2
  go_ret3
  exact ⟨rfl, below_drewN HB.out _⟩

theorem parse_none (s : ByteArray) (w : World) (hs : s.toList.isEmpty = true) :
    Calls Try.prog 23 #[.string s] w fun e w' => e = .returned (.tuple #[.string ⟨#[]⟩, .string ⟨#[]⟩, .bool true]) ∧ w' = w := by
  go_enter Try.func23, Try.ntmps23
  go_wp2_with fail
  go_ret3
  exact ⟨rfl, rfl⟩

def lit (l : List UInt8) : ByteArray := ⟨l.toArray⟩
theorem lit_list (l : List UInt8) : (lit l).toList = l := by rw [ByteArray.toList_eq]; rfl
theorem lit_back (a : ByteArray) : lit a.data.toList = a := by cases a; simp [lit]

theorem rtB_list (a b : ByteArray) : (rtB a b).data.toList = rt a.data.toList b.data.toList := rfl
theorem isE (a : ByteArray) : a.toList.isEmpty = a.data.toList.isEmpty := by rw [ByteArray.toList_eq]
theorem noSp {a : ByteArray} (h : hasSp a = false) : ¬ (32 : UInt8) ∈ a.data.toList := by
  unfold hasSp at h
  intro hm
  rw [List.contains_iff_mem.2 hm] at h
  exact absurd h (by simp)

/-- The parser reads both ends back. -/
theorem parse23 (a b : ByteArray) (w : World) (hab : a.size + b.size ≤ 1048576) (na : hasSp a = false) (nb : hasSp b = false) :
    Calls Try.prog 23 #[.string (rtB a b)] w fun e w' => e = .returned (.tuple #[.string a, .string b, .bool true]) ∧ Below w.heap.size w w' := by
  have hn1 := noSp na
  have hn2 := noSp nb
  have la : a.size = a.data.toList.length := by simp
  have lb : b.size = b.data.toList.length := by simp
  have hsz : (rtB a b).size ≤ 2097152 := by
    have hr : (rtB a b).size = (rt a.data.toList b.data.toList).length := by simp [rtB, ByteArray.size]
    rw [hr]; unfold rt; rw [la, lb] at hab
    split
    · simp
    · split
      · simp; omega
      · split <;> (simp; omega)
  have hA := bytes_map (allP_split (rtB a b))
  rw [rtB_list] at hA
  cases ea : a.data.toList.isEmpty <;> cases eb : b.data.toList.isEmpty
  · have e : rt a.data.toList b.data.toList = [32, 102, 114, 111, 109, 32] ++ a.data.toList ++ [32, 116, 111, 32] ++ b.data.toList := by simp [rt, ea, eb]
    rw [e, split_both _ _ hn1 hn2] at hA
    refine (parse_both (rtB a b) (lit []) (lit [102, 114, 111, 109]) a (lit [116, 111]) b w (by rw [isE, rtB_list, e]; rfl) (parts_of _ 5 _ hsz (hA.trans (by simp only [List.map_cons, List.map_nil]; exact congr (congrArg _ rfl) (congr (congrArg _ rfl) (congr (congrArg _ (lit_back a)) (congr (congrArg _ rfl) (congr (congrArg _ (lit_back b)) rfl)))))) rfl (by omega))
      (by rw [lit_list]; rfl) (by rw [lit_list]; rfl) (by rw [lit_list]; rfl) (by rw [isE]; exact ea) (by rw [isE]; exact eb))
  · have e : rt a.data.toList b.data.toList = [32, 102, 114, 111, 109, 32] ++ a.data.toList ++ [32, 111, 110] := by simp [rt, ea, eb]
    rw [e, split_from _ hn1] at hA
    have hb0 : b = ⟨#[]⟩ := bytes_inj (by simpa using eb)
    refine (parse_from (rtB a b) (lit []) (lit [102, 114, 111, 109]) a (lit [111, 110]) w (by rw [isE, rtB_list, e]; rfl) (parts_of _ 4 _ hsz (hA.trans (by simp only [List.map_cons, List.map_nil]; exact congr (congrArg _ rfl) (congr (congrArg _ rfl) (congr (congrArg _ (lit_back a)) (congr (congrArg _ rfl) rfl))))) rfl (by omega))
      (by rw [lit_list]; rfl) (by rw [lit_list]; rfl) (by rw [lit_list]; rfl) (by rw [isE]; exact ea)).mono ?_
    rintro e w' ⟨rfl, h⟩
    exact ⟨by rw [← hb0], h⟩
  · have e : rt a.data.toList b.data.toList = [32, 117, 112, 32, 116, 111, 32] ++ b.data.toList := by simp [rt, ea, eb]
    rw [e, split_upto _ hn2] at hA
    have ha0 : a = ⟨#[]⟩ := bytes_inj (by simpa using ea)
    refine (parse_upto (rtB a b) (lit []) (lit [117, 112]) (lit [116, 111]) b w (by rw [isE, rtB_list, e]; rfl) (parts_of _ 4 _ hsz (hA.trans (by simp only [List.map_cons, List.map_nil]; exact congr (congrArg _ rfl) (congr (congrArg _ rfl) (congr (congrArg _ rfl) (congr (congrArg _ (lit_back b)) rfl))))) rfl (by omega))
      (by rw [lit_list]; rfl) (by rw [lit_list]; rfl) (by rw [lit_list]; rfl) (by rw [lit_list]; rfl) (by rw [isE]; exact eb)).mono ?_
    rintro e w' ⟨rfl, h⟩
    exact ⟨by rw [← ha0], h⟩
  · have e : rt a.data.toList b.data.toList = [] := by simp [rt, ea, eb]
    have ha0 : a = ⟨#[]⟩ := bytes_inj (by simpa using ea)
    have hb0 : b = ⟨#[]⟩ := bytes_inj (by simpa using eb)
    refine (parse_none (rtB a b) w (by rw [isE, rtB_list, e]; rfl)).mono ?_
    rintro e w' ⟨rfl, rfl⟩
    exact ⟨by rw [ha0, hb0], Below.refl _ _⟩

set_option maxHeartbeats 800000 in
theorem walk9 (a0 : ByteArray) (a1 : ByteArray) (w0 : a0.size ≤ maxLen) (w1 : a1.size ≤ maxLen) (w : World) :
    Calls Try.prog 9 #[.string a0, .string a1] w fun e w' => e = .returned (.bool true) ∧ Below w.heap.size w w' := by
  by_cases hs : a0.size + a1.size ≤ 1048576
  · have hd : decide (a0.size + a1.size ≤ 1048576) = true := by simp [hs]
    have h0 : a0.size ≤ 1048576 := by omega
    have h1 : a1.size ≤ 1048576 := by omega
    cases n0 : hasSp a0
    · cases n1 : hasSp a1
      · have C : Hid (∀ x, Calls Try.prog 23 #[.string (rtB a0 a1)] x fun e w' => e = .returned (.tuple #[.string a0, .string a1, .bool true]) ∧ Below x.heap.size x w') := fun x => parse23 a0 a1 x hs n0 n1
        go_enter Try.func9, Try.ntmps9
        go_wp2_with fail
        refine (bytes21 a0 a1 _ w0 w1).mono ?_
        rintro e w' ⟨rfl, rfl⟩
        rw [hd]
        go_wp2_with fail
        refine (space22 a0 _ h0).mono ?_
        rintro e w' ⟨rfl, rfl⟩
        rw [n0]
        go_wp2_with fail
        refine (space22 a1 _ h1).mono ?_
        rintro e w' ⟨rfl, rfl⟩
        rw [n1]
        go_wp2_with fail
        refine (range20 a0 a1 _ h0 h1).mono ?_
        rintro e w' ⟨rfl, rfl⟩
        go_wp2_with fail
        refine (C.out _).mono ?_
        rintro e w2 ⟨rfl, hb⟩
        have HB : Hid (Below w'.heap.size w' w2) := hb
        clear hb
        go_wp2_with fail
        go_ret
        exact ⟨rfl, HB.out⟩
      · go_enter Try.func9, Try.ntmps9
        go_wp2_with fail
        refine (bytes21 a0 a1 _ w0 w1).mono ?_
        rintro e w' ⟨rfl, rfl⟩
        rw [hd]
        go_wp2_with fail
        refine (space22 a0 _ h0).mono ?_
        rintro e w' ⟨rfl, rfl⟩
        rw [n0]
        go_wp2_with fail
        refine (space22 a1 _ h1).mono ?_
        rintro e w' ⟨rfl, rfl⟩
        rw [n1]
        go_wp2_with fail
        go_ret
        exact ⟨rfl, Below.refl _ _⟩
    · go_enter Try.func9, Try.ntmps9
      go_wp2_with fail
      refine (bytes21 a0 a1 _ w0 w1).mono ?_
      rintro e w' ⟨rfl, rfl⟩
      rw [hd]
      go_wp2_with fail
      refine (space22 a0 _ h0).mono ?_
      rintro e w' ⟨rfl, rfl⟩
      rw [n0]
      go_wp2_with fail
      go_ret
      exact ⟨rfl, Below.refl _ _⟩
  · have hd : decide (a0.size + a1.size ≤ 1048576) = false := by simp [hs]
    go_enter Try.func9, Try.ntmps9
    go_wp2_with fail
    refine (bytes21 a0 a1 _ w0 w1).mono ?_
    rintro e w' ⟨rfl, rfl⟩
    rw [hd]
    go_wp2_with fail
    go_ret
    exact ⟨rfl, Below.refl _ _⟩
end Go.Proofs.Qxb6000488a.RangeW
