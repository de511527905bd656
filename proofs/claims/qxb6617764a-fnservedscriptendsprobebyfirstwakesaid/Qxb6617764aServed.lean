/-
  'ZZServed' with 'served' and 'fail', walked: one call of 'served' on a probe of the call's own.
-/
import Derived.Test.Qxb6617764aRows
import Derived.WalkKit
import Derived.ProofKit
import Derived.WalkLawsBesides
import Derived.WalkSpells
import Derived.Below
import Derived.Deep.QuietTactic
import Derived.BigQuiet
import Derived.RegionTactic
import Derived.Handy
namespace Go.Proofs.Qxb6617764a
open Go.ChangeShapes Go.WideShapes Go.ChangeAt Go.RowKit

theorem hide {p : Prop} (h : p) : Hid p := h

/-- The widened gap. -/
def wd (g : Int) : Int := if 2 * g + 1 ≤ 16383 then 2 * g + 1 else 16383

set_option maxHeartbeats 1000000 in
/-- No probe under way: nothing changes. -/
theorem served_off (g l won : Int) (woke : Bool) (w : World) :
    Calls Try.prog 6 #[.int .u32 g, .int .u32 l, .bool false, .int .i64 won, .bool woke] w fun e w' => e = .returned (.tuple #[.int .u32 g, .int .u32 l, .bool false, .int .i64 won]) ∧ Below w.heap.size w w' := by
  go_enter Try.func6, Try.ntmps6
  go_wp2
  go_quiet (fail)
  go_wp2
  go_returns
  exact ⟨rfl, below_drewN ((Below.refl _ _).alloc (Nat.le_refl _) _) _⟩

set_option maxHeartbeats 1000000 in
/-- A woken call: the probe fails. -/
theorem served_woke (g l won : Int) (w : World) (h0 : 0 ≤ g) (h1 : g ≤ 16383) :
    Calls Try.prog 6 #[.int .u32 g, .int .u32 l, .bool true, .int .i64 won, .bool true] w fun e w' => e = .returned (.tuple #[.int .u32 (wd g), .int .u32 (wd g), .bool false, .int .i64 won]) ∧ Below w.heap.size w w' := by
  by_cases h : 2 * g + 1 ≤ 16383
  · have e := hide (show wd g = 2 * g + 1 from if_pos h)
    go_enter Try.func6, Try.ntmps6
    go_wp2
    all_goals
      go_quiet (fail)
      go_wp2
      go_returns
      rw [e.out]
      exact ⟨by first | rfl | (simp; omega), below_drewN ((Below.refl _ _).alloc (Nat.le_refl _) _) _⟩
  · have e := hide (show wd g = 16383 from if_neg h)
    go_enter Try.func6, Try.ntmps6
    go_wp2
    all_goals
      go_quiet (fail)
      go_wp2
      go_returns
      rw [e.out]
      exact ⟨by first | rfl | (simp; omega), below_drewN ((Below.refl _ _).alloc (Nat.le_refl _) _) _⟩

set_option maxHeartbeats 1000000 in
/-- An unwoken call that is not yet the last. -/
theorem served_more (g l won : Int) (w : World) (h0 : -9223372036854775808 ≤ won) (h1 : won < 15) :
    Calls Try.prog 6 #[.int .u32 g, .int .u32 l, .bool true, .int .i64 won, .bool false] w fun e w' => e = .returned (.tuple #[.int .u32 g, .int .u32 l, .bool true, .int .i64 (won + 1)]) ∧ Below w.heap.size w w' := by
  go_enter Try.func6, Try.ntmps6
  go_wp2
  go_quiet (fail)
  go_wp2
  go_returns
  exact ⟨rfl, below_drewN ((Below.refl _ _).alloc (Nat.le_refl _) _) _⟩

set_option maxHeartbeats 1000000 in
/-- The unwoken call at which the probe wins. -/
theorem served_wins (g l won : Int) (w : World) (h0 : 15 ≤ won) (h1 : won ≤ 4611686018427387904) :
    Calls Try.prog 6 #[.int .u32 g, .int .u32 l, .bool true, .int .i64 won, .bool false] w fun e w' => e = .returned (.tuple #[.int .u32 0, .int .u32 0, .bool false, .int .i64 (won + 1)]) ∧ Below w.heap.size w w' := by
  go_enter Try.func6, Try.ntmps6
  go_wp2
  go_quiet (fail)
  go_wp2
  go_returns
  exact ⟨rfl, below_drewN ((Below.refl _ _).alloc (Nat.le_refl _) _) _⟩
end Go.Proofs.Qxb6617764a
