import Derived.Test.Qxb6000488aRows
import Derived.WalkKit
import Derived.ProofKit
import Derived.WalkSpells
import Derived.WalkLawsBesides
import Derived.Outline
set_option linter.unusedVariables false
namespace Go.Proofs.Qxb6000488a.MonthW
open Go.ChangeShapes Go.WideShapes Go.ChangeAt Go.RowKit

set_option maxHeartbeats 400000 in
theorem month24_yes (x d c0 c1 c2 c3 c5 c6 : Int) (w : World)
    (e3 : bits .and .u64 (IntKind.u64.wrap (bits .or .u64 x 36169536663224448 - 13563576248709168)) 36169536663224448 = 36169536663224448)
    (e7 : bits .and .u64 (bits .or .u64 (IntKind.u64.wrap (bits .andNot .u64 x 36169536663224448 + 5063812098665367110)) x) 36169536663224448 = 0)
    (e8 : bits .and .u64 x 1095216660480 = 193273528320)
    (e9 : IntKind.u64.wrap (x - 13563576248709168) = d)
    (f0 : bits .and .u64 d 255 = c0) (f1 : bits .and .u64 (d / 256) 255 = c1) (f2 : bits .and .u64 (d / 65536) 255 = c2) (f3 : bits .and .u64 (d / 16777216) 255 = c3)
    (f5 : bits .and .u64 (d / 1099511627776) 255 = c5) (f6 : bits .and .u64 (d / 281474976710656) 255 = c6)
    (g0 : 0 ≤ c0) (k0 : c0 ≤ 9) (g1 : 0 ≤ c1) (k1 : c1 ≤ 9) (g2 : 0 ≤ c2) (k2 : c2 ≤ 9) (g3 : 0 ≤ c3) (k3 : c3 ≤ 9) (g5 : 0 ≤ c5) (k5 : c5 ≤ 9) (g6 : 0 ≤ c6) (k6 : c6 ≤ 9)
    (hn0 : 1 ≤ c5 * 10 + c6) (hn1 : c5 * 10 + c6 ≤ 12) :
    Calls Try.prog 24 #[.int .u64 x] w fun e w' => e = .returned (.tuple #[.int .i64 ((c0 * 1000 + c1 * 100 + c2 * 10 + c3) * 12 + (c5 * 10 + c6) - 1), .bool true]) ∧ w' = w := by
  go_enter Try.func24, Try.ntmps24
  go_wp2
  go_ret2
  exact ⟨rfl, rfl⟩

set_option maxHeartbeats 400000 in
theorem month24_no (x d c0 c1 c2 c3 c5 c6 : Int) (w : World)
    (e3 : bits .and .u64 (IntKind.u64.wrap (bits .or .u64 x 36169536663224448 - 13563576248709168)) 36169536663224448 = 36169536663224448)
    (e7 : bits .and .u64 (bits .or .u64 (IntKind.u64.wrap (bits .andNot .u64 x 36169536663224448 + 5063812098665367110)) x) 36169536663224448 = 0)
    (e8 : bits .and .u64 x 1095216660480 = 193273528320)
    (e9 : IntKind.u64.wrap (x - 13563576248709168) = d)
    (f0 : bits .and .u64 d 255 = c0) (f1 : bits .and .u64 (d / 256) 255 = c1) (f2 : bits .and .u64 (d / 65536) 255 = c2) (f3 : bits .and .u64 (d / 16777216) 255 = c3)
    (f5 : bits .and .u64 (d / 1099511627776) 255 = c5) (f6 : bits .and .u64 (d / 281474976710656) 255 = c6)
    (g0 : 0 ≤ c0) (k0 : c0 ≤ 9) (g1 : 0 ≤ c1) (k1 : c1 ≤ 9) (g2 : 0 ≤ c2) (k2 : c2 ≤ 9) (g3 : 0 ≤ c3) (k3 : c3 ≤ 9) (g5 : 0 ≤ c5) (k5 : c5 ≤ 9) (g6 : 0 ≤ c6) (k6 : c6 ≤ 9)
    (hn : c5 * 10 + c6 < 1 ∨ 12 < c5 * 10 + c6) :
    Calls Try.prog 24 #[.int .u64 x] w fun e w' => e = .returned (.tuple #[.int .i64 0, .bool false]) ∧ w' = w := by
  rcases hn with hn | hn
  · go_enter Try.func24, Try.ntmps24
    go_wp2
    go_ret2
    exact ⟨rfl, rfl⟩
  · have hn' : 1 ≤ c5 * 10 + c6 := by omega
    go_enter Try.func24, Try.ntmps24
    go_wp2
    go_ret2
    exact ⟨rfl, rfl⟩
end Go.Proofs.Qxb6000488a.MonthW
