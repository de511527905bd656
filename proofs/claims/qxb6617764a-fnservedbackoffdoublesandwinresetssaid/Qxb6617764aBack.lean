/-
  THE PLAIN LAW of 'Rows.FnServedBackoffDoublesAndWinResetsSaid': the gap after a series of probes. No Go text in sight.
-/
import Derived.Test.Qxb6617764aServed
namespace Go.Proofs.Qxb6617764a

/-- The gap after the first k probes ('b i': probe i meets a woken call). -/
def gapAt (g : Int) (b : Nat → Bool) : Nat → Int
  | 0 => g
  | k + 1 => if b k then wd (gapAt g b k) else 0
/-- 'left' after the first k probes. -/
def leftAt (g l : Int) (b : Nat → Bool) : Nat → Int
  | 0 => l
  | k + 1 => gapAt g b (k + 1)
/-- The last win among the first k probes, -1 where there is none. -/
def lastWin (b : Nat → Bool) : Nat → Int
  | 0 => -1
  | k + 1 => if b k then lastWin b k else (k : Int)
/-- How many probes have failed since. -/
def fails (b : Nat → Bool) : Nat → Nat
  | 0 => 0
  | k + 1 => if b k then fails b k + 1 else 0
/-- The gap from which they went. -/
def baseAt (g : Int) (b : Nat → Bool) (k : Nat) : Int := if 0 ≤ lastWin b k then 0 else g

theorem lastWin_bd (b : Nat → Bool) : ∀ k, -1 ≤ lastWin b k ∧ lastWin b k < (k : Int)
  | 0 => by simp [lastWin]
  | k + 1 => by
    have := lastWin_bd b k
    unfold lastWin
    split <;> omega
theorem fails_eq (b : Nat → Bool) : ∀ k, (fails b k : Int) = (k : Int) - 1 - lastWin b k
  | 0 => by simp [fails, lastWin]
  | k + 1 => by
    have := fails_eq b k
    unfold fails lastWin
    split <;> omega
theorem baseAt_bd (g : Int) (b : Nat → Bool) (k : Nat) (h0 : 0 ≤ g) (h1 : g ≤ 16383) : 0 ≤ baseAt g b k ∧ baseAt g b k ≤ 16383 := by
  unfold baseAt; split <;> omega
theorem wd_bd (g : Int) (h0 : 0 ≤ g) : 0 ≤ wd g ∧ wd g ≤ 16383 := by
  unfold wd; split <;> omega
theorem gapAt_bd (g : Int) (b : Nat → Bool) (h0 : 0 ≤ g) (h1 : g ≤ 16383) : ∀ k, 0 ≤ gapAt g b k ∧ gapAt g b k ≤ 16383
  | 0 => ⟨h0, h1⟩
  | k + 1 => by
    have := gapAt_bd g b h0 h1 k
    unfold gapAt
    split
    · exact wd_bd _ this.1
    · omega

/-- The cap. -/
def cap (x : Int) : Int := if 16383 < x then 16383 else x
theorem gap_form (g : Int) (b : Nat → Bool) (h0 : 0 ≤ g) (h1 : g ≤ 16383) : ∀ k, gapAt g b k = cap ((baseAt g b k + 1) * 2 ^ fails b k - 1)
  | 0 => by
    have e : baseAt g b 0 = g := by simp [baseAt, lastWin]
    rw [e]
    unfold gapAt fails cap
    split <;> omega
  | k + 1 => by
    have ih := gap_form g b h0 h1 k
    have hb := baseAt_bd g b k h0 h1
    unfold gapAt
    cases hk : b k
    · have e : baseAt g b (k + 1) = 0 := by
        unfold baseAt lastWin
        rw [hk]
        simp
      rw [e]
      simp [fails, hk, cap]
    · have e : baseAt g b (k + 1) = baseAt g b k := by
        unfold baseAt
        rw [show lastWin b (k + 1) = lastWin b k by simp [lastWin, hk]]
      have ef : fails b (k + 1) = fails b k + 1 := by simp [fails, hk]
      rw [e, ef, if_pos rfl, ih, Int.pow_succ, ← Int.mul_assoc]
      have hp : (0 : Int) < 2 ^ fails b k := Int.pow_pos (by decide)
      have hq : 0 ≤ (baseAt g b k + 1) * 2 ^ fails b k := Int.mul_nonneg (by omega) (by omega)
      generalize (baseAt g b k + 1) * 2 ^ fails b k = x at hq ⊢
      unfold cap wd
      split <;> split <;> (try split) <;> omega

/-- The law's own reckoning of the gap. -/
theorem gap_big (g : Int) (b : Nat → Bool) (k : Nat) (h0 : 0 ≤ g) (h1 : g ≤ 16383) (hm : 14 ≤ fails b k) : gapAt g b k = 16383 := by
  rw [gap_form g b h0 h1 k]
  have hb := baseAt_bd g b k h0 h1
  have h2 : (2 : Int) ^ 14 ≤ 2 ^ fails b k := by
    have := Nat.pow_le_pow_right (n := 2) (by decide) hm
    have e1 : ((2 ^ fails b k : Nat) : Int) = 2 ^ fails b k := by simp
    have e2 : ((2 ^ 14 : Nat) : Int) = 2 ^ 14 := by simp
    rw [← e1, ← e2]
    exact Int.ofNat_le.2 this
  have h3 : 1 * (2 : Int) ^ 14 ≤ (baseAt g b k + 1) * 2 ^ fails b k := Int.mul_le_mul (by omega) h2 (by decide) (by omega)
  generalize (baseAt g b k + 1) * 2 ^ fails b k = x at h3 ⊢
  unfold cap
  split
  · rfl
  · have : (2 : Int) ^ 14 = 16384 := by decide
    omega
/-- Below fourteen failures: the product fits. -/
theorem prod_bd (g : Int) (b : Nat → Bool) (k : Nat) (h0 : 0 ≤ g) (h1 : g ≤ 16383) (hm : fails b k < 14) : 1 ≤ (baseAt g b k + 1) * 2 ^ fails b k ∧ (baseAt g b k + 1) * 2 ^ fails b k ≤ 134217728 := by
  have hb := baseAt_bd g b k h0 h1
  have hp : (1 : Int) ≤ 2 ^ fails b k := by
    have : (0 : Int) < 2 ^ fails b k := Int.pow_pos (by decide)
    omega
  have hq : (2 : Int) ^ fails b k ≤ 8192 := by
    have := Nat.pow_le_pow_right (n := 2) (by decide) (show fails b k ≤ 13 by omega)
    have h2 : ((2 ^ fails b k : Nat) : Int) ≤ ((2 ^ 13 : Nat) : Int) := Int.ofNat_le.2 this
    simpa using h2
  constructor
  · have := Int.mul_le_mul (show (1 : Int) ≤ baseAt g b k + 1 by omega) hp (by decide) (by omega)
    simpa using this
  · have := Int.mul_le_mul (show baseAt g b k + 1 ≤ 16384 by omega) hq (by omega) (by decide)
    simpa using this
end Go.Proofs.Qxb6617764a
