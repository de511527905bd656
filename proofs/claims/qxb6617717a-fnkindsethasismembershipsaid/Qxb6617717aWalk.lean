/-
  THE WALKS of 'Rows.FnKindSetHasIsMembershipSaid': what each Go function on the road computes.
-/
import Derived.Test.Qxb6617717aRows
import Derived.Test.Qxb6617717aPlain
import Derived.WalkKit
import Derived.ProofKit
import Derived.OpenShut
import Derived.ShutString
import Derived.WalkLawsBesides
import Derived.WalkSpells
import Derived.Below
namespace Go.Proofs.Qxb6617717a.fnKindSetHasIsMembership
open Go.ChangeShapes Go.WideShapes Go.ChangeAt Go.RowKit
open Go.Proofs.Qxb6617717a.Plain

theorem ret_bool {a b : Bool} (h : a = b) : Ending.returned (.bool a) = .returned (.bool b) := by rw [h]

/-- '(kindSet).has' -/
theorem has5 (s k : Int) (h0 : 0 ≤ s) (h1 : s < 65536) (hk : 0 ≤ k) (w : World) :
    Calls Try.prog 5 #[.int .u16 s, .int .i64 k] w fun e w' => e = .returned (.bool (hasB s k)) ∧ w' = w := by
  go_enter Try.func5, Try.ntmps5
  go_wp2
  go_ret
  exact ⟨ret_bool (hasB_bits s k h0 h1 hk), rfl⟩

/-- 'ZZKindSetHas' -/
theorem has4 (s k : Int) (h0 : 0 ≤ s) (h1 : s < 65536) (hk : 0 ≤ k) (w : World) :
    Calls Try.prog 4 #[.int .u16 s, .int .i64 k] w fun e w' => e = .returned (.bool (hasB s k)) ∧ w' = w := by
  go_enter Try.func4, Try.ntmps4
  go_wp2_with (go_at_call 5; refine (has5 s k h0 h1 hk _).mono ?_; rintro e w' ⟨rfl, rfl⟩)
  go_ret
  exact ⟨rfl, rfl⟩

theorem law_neg (s k : Int) (hk : k < 0) (w : World) :
    Calls Try.prog 3 #[.int .u16 s, .int .i64 k] w fun e w' => e = .returned (.bool true) ∧ w' = w := by
  go_enter Try.func3, Try.ntmps3
  go_wp2
  go_ret
  exact ⟨rfl, rfl⟩

theorem law_pos (s : Int) (k : Nat) (h0 : 0 ≤ s) (h1 : s < 65536) (hk : (k : Int) ≤ 9223372036854775807) (w : World) :
    Calls Try.prog 3 #[.int .u16 s, .int .i64 (k : Int)] w fun e w' => e = .returned (.bool true) ∧ w' = w := by
  have hk0 : 0 ≤ (k : Int) := by omega
  go_enter Try.func3, Try.ntmps3
  go_wp2
  go_loop [5, 6, 7] (fun r p i => ∃ n : Nat, n ≤ 16 ∧ i = .int .i64 n ∧ r = .int .u16 (lowN s n) ∧ p = .int .u16 (powN n)) (fun _ _ i => 16 - (intOf i).toNat)
  case atStart => exact ⟨0, by omega, rfl, by rw [lowN_zero], by rw [powN_zero]⟩
  case round =>
    obtain ⟨n, hn, rfl, rfl, rfl⟩ := hrel
    by_cases hlt : n < 16
    · have hn0 : 0 ≤ (n : Int) := by omega
      have P : Hid (IntKind.u16.wrap (powN n + powN n) = powN (n + 1)) := powN_succ n
      by_cases hb : hasB s (n : Int) = true
      · have L : Hid (IntKind.u16.wrap (lowN s n + powN n) = lowN s (n + 1)) := lowN_succ_true s n h0 h1 hlt hb
        go_wp2_with (go_at_call 4; refine (has4 s (n : Int) h0 h1 hn0 _).mono ?_; rintro e w' ⟨rfl, rfl⟩)
        go_round
        case rel => exact ⟨n + 1, by omega, by go_num, by rw [← L.out], by rw [← P.out]⟩
        case measure => simp [intOf]; omega
      · have hb' : hasB s (n : Int) = false := by simpa using hb
        clear hb
        have L : Hid (lowN s n = lowN s (n + 1)) := lowN_succ_false s n h0 hlt hb'
        go_wp2_with (go_at_call 4; refine (has4 s (n : Int) h0 h1 hn0 _).mono ?_; rintro e w' ⟨rfl, rfl⟩)
        go_round
        case rel => exact ⟨n + 1, by omega, by go_num, by rw [← L.out], by rw [← P.out]⟩
        case measure => simp [intOf]; omega
    · obtain rfl : n = 16 := by omega
      have L : lowN s 16 = s := lowN_all s h0 h1
      rw [L]
      clear L
      by_cases hk16 : 16 ≤ (k : Int)
      · have hb : hasB s (k : Int) = false := hasB_big s k hk16
        go_wp2_with (go_at_call 4; refine (has4 s (k : Int) h0 h1 hk0 _).mono ?_; rintro e w' ⟨rfl, rfl⟩)
        go_ret
        exact ⟨rfl, rfl⟩
      · have hk' : k < 16 := by omega
        obtain ⟨o1, o2, o3⟩ := or_bd s k h0 h1 hk'
        obtain ⟨n1, n2, n3⟩ := not_bd s k h0 h1 hk'
        have O : Hid (hasB (bits .or .u16 s (powN k)) (k : Int) = true) := o3
        have N : Hid (hasB (bits .andNot .u16 s (powN k)) (k : Int) = false) := n3
        clear o3 n3
        go_wp2
        go_loop [8, 9] (fun p i => ∃ n : Nat, n ≤ k ∧ i = .int .i64 n ∧ p = .int .u16 (powN n)) (fun _ i => k - (intOf i).toNat)
        case atStart => exact ⟨0, by omega, rfl, by rw [powN_zero]⟩
        case round =>
          obtain ⟨n, hn, rfl, rfl⟩ := hrel
          by_cases hlt : n < k
          · have P : Hid (IntKind.u16.wrap (powN n + powN n) = powN (n + 1)) := powN_succ n
            go_wp2
            go_round
            case rel => exact ⟨n + 1, by omega, by go_num, by rw [← P.out]⟩
            case measure => simp [intOf]; omega
          · obtain rfl : n = k := by omega
            go_wp2_with fail
            refine (has4 _ (n : Int) o1 o2 hk0 _).mono ?_
            rintro e w' ⟨rfl, rfl⟩
            rw [O.out]
            go_wp2_with fail
            refine (has4 _ (n : Int) n1 n2 hk0 _).mono ?_
            rintro e w' ⟨rfl, rfl⟩
            rw [N.out]
            go_wp2
            go_ret
            exact ⟨rfl, rfl⟩
end Go.Proofs.Qxb6617717a.fnKindSetHasIsMembership
