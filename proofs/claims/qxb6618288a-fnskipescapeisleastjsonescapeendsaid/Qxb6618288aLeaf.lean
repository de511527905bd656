/-
  THE LEAVES of 'Rows.FnSkipEscapeIsLeastJSONEscapeEndSaid': the tests on one byte.
-/
import Derived.Test.Qxb6618288aRows
import Derived.WalkKit
import Derived.ProofKit
import Derived.WalkLawsBesides
import Derived.WalkSpells
import Derived.Below
import Derived.Laws.BitsAllLaws
namespace Go.Proofs.Qxb6618288a
open Go.ChangeShapes Go.WideShapes Go.ChangeAt Go.RowKit

theorem hide {p : Prop} (h : p) : Hid p := h
theorem ret_bool {a b : Bool} (h : a = b) : Ending.returned (.bool a) = .returned (.bool b) := by rw [h]
theorem ret_int {k : IntKind} {a b : Int} (h : a = b) : Ending.returned (.int k a) = .returned (.int k b) := by rw [h]

/-- One of the one-byte escape tails. -/
def shortB (c : Int) : Bool := decide (c = 34 ∨ c = 92 ∨ c = 47 ∨ c = 98 ∨ c = 102 ∨ c = 110 ∨ c = 114 ∨ c = 116)
/-- A hexadecimal digit. -/
def hexB (c : Int) : Bool := decide ((48 ≤ c ∧ c ≤ 57) ∨ (97 ≤ c ∧ c ≤ 102) ∨ (65 ≤ c ∧ c ≤ 70))

set_option maxHeartbeats 1000000 in
/-- 'isHex' -/
theorem hex13 (c : Int) (w : World) :
    Calls Try.prog 13 #[.int .u8 c] w fun e w' => e = .returned (.bool (hexB c)) ∧ w = w' := by
  go_enter Try.func13, Try.ntmps13
  go_wp2
  all_goals
    go_ret
    exact ⟨ret_bool (by unfold hexB; rw [Bool.eq_iff_iff]; simp; try omega), rfl⟩

/-- The law's own test of a hexadecimal digit, byte by byte. -/
theorem hex_low : ∀ n : Fin 256, ((((n.val : Int) - 48) % 256 < 10) ∨ (((n.val ||| 32 : Nat) : Int) - 97) % 256 < 6) ↔ ((48 ≤ (n.val : Int) ∧ (n.val : Int) ≤ 57) ∨ (97 ≤ (n.val : Int) ∧ (n.val : Int) ≤ 102) ∨ (65 ≤ (n.val : Int) ∧ (n.val : Int) ≤ 70)) := by decide +kernel
theorem hex_yes {c : Int} (h0 : 0 ≤ c) (h1 : c ≤ 255) (h : (c - 48) % 256 < 10) : hexB c = true := by
  obtain ⟨n, rfl⟩ := Int.eq_ofNat_of_zero_le h0
  unfold hexB
  rw [decide_eq_true_eq]
  exact (hex_low ⟨n, by omega⟩).1 (.inl h)
theorem hex_or {c : Int} (h0 : 0 ≤ c) (h1 : c ≤ 255) (h : 10 ≤ (c - 48) % 256) : decide ((bits BinOp.or IntKind.u8 c 32 - 97) % 256 < 6) = hexB c := by
  obtain ⟨n, rfl⟩ := Int.eq_ofNat_of_zero_le h0
  have e : bits BinOp.or IntKind.u8 (n : Int) 32 = ((n ||| 32 : Nat) : Int) := u8_or_nat n 32 (by omega) (by decide)
  rw [e]
  unfold hexB
  have k := hex_low ⟨n, by omega⟩
  simp only at k
  rw [Bool.eq_iff_iff, decide_eq_true_eq, decide_eq_true_eq, ← k]
  exact ⟨.inr, fun h' => h'.elim (fun h2 => absurd h2 (by omega)) id⟩

/-- 'zzIsHexDigit' -/
theorem hex11 (c : Int) (w : World) (h0 : 0 ≤ c) (h1 : c ≤ 255) :
    Calls Try.prog 11 #[.int .u8 c] w fun e w' => e = .returned (.bool (hexB c)) ∧ w = w' := by
  go_enter Try.func11, Try.ntmps11
  go_wp2
  · go_ret
    exact ⟨ret_bool (hex_yes h0 h1 (by assumption)).symm, rfl⟩
  · go_ret
    exact ⟨ret_bool (hex_or h0 h1 (by assumption)), rfl⟩

/-- The one-byte tails, as the law lists them. -/
abbrev tails : ByteArray := ⟨#[34, 92, 47, 98, 102, 110, 114, 116]⟩
theorem tails_short : ∀ k : Fin 8, shortB ((tails[k.val]'(k.isLt)).toNat : Int) = true := by decide
theorem short_hit {c : Int} {k : Nat} (hk : k < 8) (h : (((tails[k]'hk).toNat : Int) == c) = true) : shortB c = true := by
  have e : ((tails[k]'hk).toNat : Int) = c := by simpa using h
  rw [← e]
  exact tails_short ⟨k, hk⟩
theorem short_none {c : Int} (h : ∀ t (ht : t < 8), t < 8 → (((tails[t]'ht).toNat : Int) == c) = false) : shortB c = false := by
  have k0 := h 0 (by decide) (by decide)
  have k1 := h 1 (by decide) (by decide)
  have k2 := h 2 (by decide) (by decide)
  have k3 := h 3 (by decide) (by decide)
  have k4 := h 4 (by decide) (by decide)
  have k5 := h 5 (by decide) (by decide)
  have k6 := h 6 (by decide) (by decide)
  have k7 := h 7 (by decide) (by decide)
  rw [beq_eq_false_iff_ne] at k0 k1 k2 k3 k4 k5 k6 k7
  unfold shortB
  rw [decide_eq_false_iff_not]
  rintro (rfl | rfl | rfl | rfl | rfl | rfl | rfl | rfl)
  · exact k0 rfl
  · exact k1 rfl
  · exact k2 rfl
  · exact k3 rfl
  · exact k4 rfl
  · exact k5 rfl
  · exact k6 rfl
  · exact k7 rfl

/-- 'zzIsShortTail' -/
theorem short10 (c : Int) (w : World) :
    Calls Try.prog 10 #[.int .u8 c] w fun e w' => e = .returned (.bool (shortB c)) ∧ w = w' := by
  go_enter Try.func10, Try.ntmps10
  go_wp2
  go_loop [3] (fun s => ∃ k : Nat, k ≤ 8 ∧ s = .int .i64 k ∧ Hid (∀ t (ht : t < 8), t < k → (((tails[t]'ht).toNat : Int) == c) = false)) (fun s => 8 - (intOf s).toNat)
  case atStart => exact ⟨0, by omega, rfl, fun t _ h => absurd h (Nat.not_lt_zero _)⟩
  case round =>
    obtain ⟨k, hk, rfl, H⟩ := hrel
    by_cases hlt : k < 8
    · go_wp2
      · go_ret
        exact ⟨ret_bool (short_hit hlt (by assumption)).symm, rfl⟩
      · have hb : (((tails[k]'hlt).toNat : Int) == c) = false := by assumption
        go_round
        case rel =>
          refine ⟨k + 1, by omega, by go_num, fun t ht htk => ?_⟩
          by_cases e : t = k
          · subst e; exact hb
          · exact H.out t ht (by omega)
        case measure => simp [intOf]; omega
    · obtain rfl : k = 8 := by omega
      go_wp2
      go_ret
      exact ⟨ret_bool (short_none H.out).symm, rfl⟩
end Go.Proofs.Qxb6618288a
