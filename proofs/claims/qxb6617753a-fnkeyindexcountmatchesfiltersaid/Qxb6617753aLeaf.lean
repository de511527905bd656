/-
  THE LEAVES of 'Rows.FnKeyIndexCountMatchesFilterSaid': the comparisons of strings; 'zzHasPrefix'; 'prefixEnd'.
-/
import Derived.Test.Qxb6617753aRows
import Derived.Test.Qxb6617753aPlain
import Derived.WalkKit
import Derived.ProofKit
import Derived.WalkLawsBesides
import Derived.WalkSpells
import Derived.Below
import Derived.Lib.Strings
import Derived.Lib.Slices
import Derived.Lib.Walk
import Derived.Lib.Bytealg
import Derived.Sort.Walk0
import Derived.Deep.QuietTactic
import Derived.BigQuiet
import Derived.RegionTactic
namespace Go.Proofs.Qxb6617753a
open Go.ChangeShapes Go.WideShapes Go.ChangeAt Go.RowKit
open Go.Proofs.Qxb6617753a.Plain

theorem hide {p : Prop} (h : p) : Hid p := h
theorem ret_bool {a b : Bool} (h : a = b) : Ending.returned (.bool a) = .returned (.bool b) := by rw [h]
theorem ret_int {k : IntKind} {a b : Int} (h : a = b) : Ending.returned (.int k a) = .returned (.int k b) := by rw [h]

/-- internal/bytealg.CompareString -/
theorem compare17 (a b : ByteArray) (w : World) :
    Calls Try.prog 17 #[.string a, .string b] w fun e w' => e = .returned (.int .i64 (Lib.compareBytes a.data.toList b.data.toList)) ∧ w' = w := by
  go_enter Try.func17, Try.ntmps17
  go_wp2
  rw [run_callFunc_extern Try.func19 (by kernel_rfl) (by kernel_rfl) (by kernel_rfl) (e := Extern.BytealgCompare.compare) (by kernel_rfl), Lib.run_compareString]
  simp only [Result.andThen]
  rw [Oper.upon_value]
  go_wp2
  go_ret
  exact ⟨rfl, rfl⟩

/-- strings.Compare -/
theorem compare14 (a b : ByteArray) (w : World) :
    Calls Try.prog 14 #[.string a, .string b] w fun e w' => e = .returned (.int .i64 (Lib.compareBytes a.data.toList b.data.toList)) ∧ w' = w := by
  go_enter Try.func14, Try.ntmps14
  go_wp2_with (go_at_call 17; refine (compare17 _ _ _).mono ?_; rintro e w' ⟨rfl, rfl⟩)
  go_ret
  exact ⟨rfl, rfl⟩

/-- slices.isNaN[string] -/
theorem nan16 (x : ByteArray) (w : World) : Calls Try.prog 16 #[.string x] w fun e w' => e = .returned (.bool false) ∧ w' = w := by
  go_enter Try.func16, Try.ntmps16
  go_wp2
  go_ret
  exact ⟨by simp, rfl⟩
/-- cmp.isNaN[string] -/
theorem nan18 (x : ByteArray) (w : World) : Calls Try.prog 18 #[.string x] w fun e w' => e = .returned (.bool false) ∧ w' = w := by
  go_enter Try.func18, Try.ntmps18
  go_wp2
  go_ret
  exact ⟨by simp, rfl⟩
/-- cmp.Less[string] -/
theorem less15 (x y : ByteArray) (w : World) : Calls Try.prog 15 #[.string x, .string y] w fun e w' => e = .returned (.bool (Op.bytesLess x.toList y.toList)) ∧ w' = w := by
  go_enter Try.func15, Try.ntmps15
  go_wp2_with (go_at_call 18; refine (nan18 _ _).mono ?_; rintro e w' ⟨rfl, rfl⟩)
  go_ret
  exact ⟨rfl, rfl⟩

/-- The closure of runOf: the run's last key against the key. -/
theorem closure13 (b off n c : Nat) (y key : ByteArray) (hn : 0 < n) (hm : n ≤ maxLen) (w : World) (hc : w.cell? ⟨b, off + (n - 1), none⟩ = some (.string y)) :
    Calls Try.prog 13 #[.slice (some ⟨b, off, none⟩) n c, .string key] w fun e w' => e = .returned (.int .i64 (Lib.compareBytes y.data.toList key.data.toList)) ∧ w' = w := by
  unfold maxLen at hm
  obtain ⟨m, rfl⟩ : ∃ m, n = m + 1 := ⟨n - 1, by omega⟩
  simp only [Nat.add_sub_cancel] at hc
  go_enter Try.func13, Try.ntmps13
  go_wp2_with (go_at_call 14; refine (compare14 _ _ _).mono ?_; rintro e w' ⟨rfl, rfl⟩)
  go_ret
  exact ⟨rfl, rfl⟩
end Go.Proofs.Qxb6617753a
