/-
  'runOf', 'rank' of 'Rows.FnKeyIndexCountMatchesFilterSaid'.
-/
import Derived.Test.Qxb6617753aSearch
import Derived.Test.Qxb6617753aRank
import Derived.Lib.MinMaxS
namespace Go.Proofs.Qxb6617753a
open Go.ChangeShapes Go.WideShapes Go.ChangeAt Go.RowKit
open Go.Proofs.Qxb6617753a.Plain

/-- THE RUNS IN MEMORY, none empty. -/
def Runs (w : World) (b off : Nat) (R : List (List ByteArray)) (B O C : Nat → Nat) : Prop :=
  (∀ i, i < R.length → w.cell? ⟨b, off + i, none⟩ = some (.slice (some ⟨B i, O i, none⟩) (lenAt R i) (C i))) ∧
  (∀ i j, i < R.length → j < lenAt R i → w.cell? ⟨B i, O i + j, none⟩ = some (.string (strAt R i j)))
/-- THE SIZES. -/
def Small (R : List (List ByteArray)) : Prop := R.length ≤ 1048576 ∧ ∀ i, i < R.length → lenAt R i ≤ 1099511627776

theorem less_kl (a b : ByteArray) : Op.bytesLess a.toList b.toList = decide (kl a < kl b) := by
  rw [bytesLess_eq, Lib.toList_data, Lib.toList_data]; rfl

set_option maxHeartbeats 1000000 in
theorem runOf10 (ib b off c : Nat) (R : List (List ByteArray)) (B O C : Nat → Nat) (x : ByteArray) (w : World) (hne : 0 < R.length)
    (hi : w.cell? ⟨ib, 0, none⟩ = some (.slice (some ⟨b, off, none⟩) R.length c)) (hr : Runs w b off R B O C) (hsm : Small R) (hs : Sorted R.flatten) (hf : Full R) :
    Calls Try.prog 10 #[.pointer (some ⟨ib, 0, none⟩), .string x] w fun e w' => ∃ r : Nat, r < R.length ∧ e = .returned (.int .i64 r) ∧ w = w' ∧
      (∀ t, t < r → kl (lastAt R t) < kl x) ∧ (r + 1 < R.length → ¬ kl (lastAt R r) < kl x) := by
  have K := search12 b off R.length c B O (lenAt R) C (lastAt R) x w (by have := hsm.1; omega) hr.1 (fun i h => ⟨hf i h, by have := hsm.2 i h; unfold maxLen; omega⟩) (fun i h => hr.2 i _ h (by have := hf i h; omega))
    (fun a b' hab hb h => by simp only [less_kl, decide_eq_true_eq] at h ⊢; exact last_mono hs hf x hab hb h)
  have hlen : R.length ≤ 1048576 := hsm.1
  clear hr hsm hs hf
  generalize R.length = n at *
  have K' := hide K
  clear K
  go_enter Try.func10, Try.ntmps10
  go_wp2_with (go_at_call 12; refine K'.out.mono ?_; rintro e w' ⟨r, f, hrn, rfl, rfl, H⟩)
  simp only [Cut, less_kl, decide_eq_true_eq, decide_eq_false_iff_not] at H
  go_ret
  by_cases h : r < n
  · exact ⟨r, h, ret_int (show min (r : Int) ((n : Int) - 1) = (r : Int) by omega), rfl, H.1, fun _ => H.2 r (Nat.le_refl _) h⟩
  · exact ⟨n - 1, by omega, ret_int (show min (r : Int) ((n : Int) - 1) = ((n - 1 : Nat) : Int) by omega), rfl, fun t ht => H.1 t (by omega), fun h' => absurd h' (by omega)⟩

/-- 'rank' where there is no run. -/
theorem rank9_none (ib c : Nat) (a : Option Addr) (x : ByteArray) (w : World) (hi : w.cell? ⟨ib, 0, none⟩ = some (.slice a 0 c)) :
    Calls Try.prog 9 #[.pointer (some ⟨ib, 0, none⟩), .string x] w fun e w' => e = .returned (.int .i64 0) ∧ w = w' := by
  go_enter Try.func9, Try.ntmps9
  go_wp2
  go_ret
  exact ⟨rfl, rfl⟩

set_option maxHeartbeats 1000000 in
/-- 'rank' where there are runs. -/
theorem rank9_some (ib b off c : Nat) (R : List (List ByteArray)) (B O C : Nat → Nat) (x : ByteArray) (w : World) (hne : 0 < R.length)
    (hi : w.cell? ⟨ib, 0, none⟩ = some (.slice (some ⟨b, off, none⟩) R.length c)) (hr : Runs w b off R B O C) (hsm : Small R) (hs : Sorted R.flatten) (hf : Full R) (hcap : R.length ≤ c) :
    Calls Try.prog 9 #[.pointer (some ⟨ib, 0, none⟩), .string x] w fun e w' => e = .returned (.int .i64 (rankOf R.flatten x)) ∧ w = w' := by
  have K := hide (runOf10 ib b off c R B O C x w hne hi hr hsm hs hf)
  have hlen : R.length ≤ 1048576 := hsm.1
  have hn0 : ((R.length : Int) == 0) = false := by simp only [beq_eq_false_iff_ne]; omega
  have HR := hide hr
  have HSM := hide hsm.2
  clear hr
  go_enter Try.func9, Try.ntmps9
  go_wp2_with fail
  refine K.out.mono ?_
  rintro e w' ⟨r, hrn, rfl, rfl, h1, h2⟩
  have H1 := hide h1
  have H2 := hide h2
  clear h1 h2 K
  have cm := HR.out.1 r hrn
  have hl := HSM.out r hrn
  have S := hide (search11 (B r) (O r) (lenAt R r) (C r) (strAt R r) x w (by omega) (fun j hj => HR.out.2 r j hrn hj)
    (fun a b' hab hb h => by simp only [less_kl, decide_eq_true_eq] at h ⊢; exact run_mono hs x hrn hab hb h))
  go_wp2_with fail
  refine S.out.mono ?_
  rintro e w' ⟨i, f, hin, rfl, rfl, h3⟩
  simp only [Cut, less_kl, decide_eq_true_eq, decide_eq_false_iff_not] at h3
  have H3 := hide h3
  clear h3 S
  have P0 := preLen_zero R
  go_wp2
  go_loop [6, 38] (fun s6 s38 => ∃ k : Nat, k ≤ r ∧ s38 = .int .i64 k ∧ s6 = .int .i64 ((i : Int) + (preLen R k : Nat))) (fun _ s38 => r - (intOf s38).toNat)
  case atStart => exact ⟨0, Nat.zero_le _, rfl, by rw [P0]; go_num⟩
  case round =>
    clear P0
    obtain ⟨k, hk, rfl, rfl⟩ := hrel
    have hp := preLen_le HSM.out k (by omega)
    by_cases hlt : k < r
    · have ck := HR.out.1 k (by omega)
      have hlk := HSM.out k (by omega)
      have PS := hide (preLen_succ (show k < R.length by omega))
      go_wp2
      go_round
      case rel => exact ⟨k + 1, by omega, by go_num, by rw [PS.out]; go_num⟩
      case measure => simp [intOf]; omega
    · obtain rfl : k = r := by omega
      have E := hide (rank_split hs x hrn hin H1.out H2.out hf H3.out.1 H3.out.2)
      go_wp2
      go_ret
      exact ⟨ret_int (by rw [E.out]; show (i : Int) + ((preLen R k : Nat) : Int) = ((i + preLen R k : Nat) : Int); omega), rfl⟩
end Go.Proofs.Qxb6617753a
