/-
  THE PLAIN LAW of 'Rows.FnKindSetHasIsMembershipSaid': bits of a 16-bit number. No Go text in sight.
-/
import Derived.Laws.ShiftsVar
namespace Go.Proofs.Qxb6617717a.Plain
open Go

/-- Is bit k of s set, k below 16? -/
def hasB (s k : Int) : Bool := decide (k < 16 ∧ s / 2 ^ k.toNat % 2 = 1)
/-- The power of two that 'pow' holds before round n (0 behind the sixteenth doubling). -/
def powN (n : Nat) : Int := ((2 ^ n % 65536 : Nat) : Int)
/-- The set as rebuilt before round n. -/
def lowN (s : Int) (n : Nat) : Int := ((s.toNat % 2 ^ n : Nat) : Int)

theorem hasB_bits (s k : Int) (h0 : 0 ≤ s) (h1 : s < 65536) (hk : 0 ≤ k) :
    (bits BinOp.and IntKind.u16 s (IntKind.u16.wrap (2 ^ min k.toNat 16)) != 0) = hasB s k := by
  have hb : 0 ≤ IntKind.u16.wrap (2 ^ min k.toNat 16) ∧ IntKind.u16.wrap (2 ^ min k.toNat 16) < 65536 := by
    rw [IntKind.wrap_u16]; omega
  rw [u16_and _ _ h0 h1 hb.1 hb.2, IntKind.wrap_u16]
  have h := u16_bit_test_var s k h0 hk
  unfold hasB
  rw [Bool.eq_iff_iff]
  simp only [bne_iff_ne, ne_eq, decide_eq_true_eq]
  rw [h]
  exact Decidable.not_not

theorem hasB_nat (S k : Nat) : hasB (S : Int) (k : Int) = (decide (k < 16) && S.testBit k) := by
  unfold hasB
  rw [Nat.testBit_eq_decide_div_mod_eq, Bool.eq_iff_iff]
  simp only [decide_eq_true_eq, Bool.and_eq_true, Int.toNat_natCast]
  have e : ((S : Int) / 2 ^ k % 2) = ((S / 2 ^ k % 2 : Nat) : Int) := by simp
  rw [e]
  omega

theorem pow_le (n : Nat) (h : n ≤ 15) : 2 ^ n ≤ 32768 := by
  have := Nat.pow_le_pow_right (n := 2) (by decide) h
  simpa using this

theorem powN_eq (n : Nat) (h : n ≤ 15) : powN n = ((2 ^ n : Nat) : Int) := by
  unfold powN
  rw [Nat.mod_eq_of_lt (by have := pow_le n h; omega)]

theorem powN_bd (n : Nat) : 0 ≤ powN n ∧ powN n < 65536 := by
  unfold powN; omega

theorem powN_succ (n : Nat) : IntKind.u16.wrap (powN n + powN n) = powN (n + 1) := by
  rw [IntKind.wrap_u16]; unfold powN
  rw [Nat.pow_succ]; omega

theorem lowN_bd (s : Int) (n : Nat) (h0 : 0 ≤ s) (h1 : s < 65536) : 0 ≤ lowN s n ∧ lowN s n < 65536 := by
  unfold lowN
  have := Nat.mod_le s.toNat (2 ^ n)
  omega

theorem lowN_succ_true (s : Int) (n : Nat) (h0 : 0 ≤ s) (h1 : s < 65536) (hn : n < 16) (h : hasB s (n : Int) = true) :
    IntKind.u16.wrap (lowN s n + powN n) = lowN s (n + 1) := by
  obtain ⟨S, rfl⟩ := Int.eq_ofNat_of_zero_le h0
  rw [hasB_nat] at h
  simp only [Bool.and_eq_true, Nat.testBit_eq_decide_div_mod_eq, decide_eq_true_eq] at h
  rw [IntKind.wrap_u16, powN_eq n (by omega)]
  unfold lowN
  rw [Int.toNat_natCast, Nat.mod_pow_succ, h.2]
  have h3 := Nat.mod_lt S (Nat.two_pow_pos n)
  have h4 := pow_le n (by omega)
  omega

theorem lowN_succ_false (s : Int) (n : Nat) (h0 : 0 ≤ s) (hn : n < 16) (h : hasB s (n : Int) = false) :
    lowN s n = lowN s (n + 1) := by
  obtain ⟨S, rfl⟩ := Int.eq_ofNat_of_zero_le h0
  rw [hasB_nat] at h
  simp only [hn, decide_true, Bool.true_and, Nat.testBit_eq_decide_div_mod_eq, decide_eq_false_iff_not] at h
  unfold lowN
  have h2 : S / 2 ^ n % 2 = 0 := by omega
  rw [Int.toNat_natCast, Nat.mod_pow_succ, h2]
  omega

theorem lowN_all (s : Int) (h0 : 0 ≤ s) (h1 : s < 65536) : lowN s 16 = s := by
  unfold lowN
  rw [Nat.mod_eq_of_lt (by omega)]
  omega

theorem or_bd (s : Int) (k : Nat) (h0 : 0 ≤ s) (h1 : s < 65536) (hk : k < 16) :
    0 ≤ bits .or .u16 s (powN k) ∧ bits .or .u16 s (powN k) < 65536 ∧ hasB (bits .or .u16 s (powN k)) (k : Int) = true := by
  obtain ⟨S, rfl⟩ := Int.eq_ofNat_of_zero_le h0
  have hp := pow_le k (by omega)
  rw [powN_eq k (by omega), u16_or_nat S (2 ^ k) (by omega) (by omega), hasB_nat]
  have hx : S ||| 2 ^ k < 2 ^ 16 := Nat.or_lt_two_pow (by omega) (by omega)
  refine ⟨by omega, by omega, ?_⟩
  simp [hk, Nat.testBit_or, Nat.testBit_two_pow_self]

theorem not_bd (s : Int) (k : Nat) (h0 : 0 ≤ s) (h1 : s < 65536) (hk : k < 16) :
    0 ≤ bits .andNot .u16 s (powN k) ∧ bits .andNot .u16 s (powN k) < 65536 ∧ hasB (bits .andNot .u16 s (powN k)) (k : Int) = false := by
  obtain ⟨S, rfl⟩ := Int.eq_ofNat_of_zero_le h0
  have hp := pow_le k (by omega)
  rw [powN_eq k (by omega), u16_andNot_nat S (2 ^ k) (by omega) (by omega), hasB_nat]
  have hx : S &&& (65535 - 2 ^ k) < 2 ^ 16 := Nat.and_lt_two_pow _ (Nat.lt_of_le_of_lt (Nat.sub_le _ _) (by decide))
  refine ⟨by omega, by omega, ?_⟩
  have e : 65535 - 2 ^ k = 2 ^ 16 - (2 ^ k + 1) := by omega
  rw [Nat.testBit_and, e, Nat.testBit_two_pow_sub_succ (by omega)]
  simp [Nat.testBit_two_pow_self]

theorem hasB_big (s k : Int) (h : 16 ≤ k) : hasB s k = false := by
  unfold hasB
  rw [decide_eq_false_iff_not]
  omega

theorem lowN_zero (s : Int) : lowN s 0 = 0 := by unfold lowN; simp [Nat.mod_one]
theorem powN_zero : powN 0 = 1 := by decide
end Go.Proofs.Qxb6617717a.Plain
