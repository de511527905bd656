/-
  THE TWO BINARY SEARCHES of 'Rows.FnKeyIndexCountMatchesFilterSaid'.
-/
import Derived.Test.Qxb6617753aLeaf
import Derived.Deep.LoopGhost
namespace Go.Proofs.Qxb6617753a
open Go.ChangeShapes Go.WideShapes Go.ChangeAt Go.RowKit
open Go.Proofs.Qxb6617753a.Plain

/-- WHAT A BINARY SEARCH HAS FOUND OUT: below lo all are less, from hi on none is. -/
def Cut (less : Nat → Bool) (n lo hi : Nat) : Prop := (∀ t, t < lo → less t = true) ∧ (∀ t, hi ≤ t → t < n → less t = false)
/-- What is less is a head. -/
def Mono (less : Nat → Bool) (n : Nat) : Prop := ∀ a b, a ≤ b → b < n → less b = true → less a = true

theorem cut_start (less : Nat → Bool) (n : Nat) : Cut less n 0 n := ⟨fun t h => absurd h (Nat.not_lt_zero _), fun t h1 h2 => absurd h2 (by omega)⟩
theorem cut_up {less : Nat → Bool} {n lo hi m : Nat} (hm : Mono less n) (h : Cut less n lo hi) (hn : m < n) (hl : less m = true) : Cut less n (m + 1) hi :=
  ⟨fun t ht => hm t m (by omega) hn hl, h.2⟩
theorem cut_down {less : Nat → Bool} {n lo hi m : Nat} (hm : Mono less n) (h : Cut less n lo hi) (hl : less m = false) : Cut less n lo m :=
  ⟨h.1, fun t h1 h2 => by
    cases e : less t with
    | false => rfl
    | true => have := hm m t h1 h2 e; rw [hl] at this; cases this⟩

set_option maxHeartbeats 1000000 in
/-- slices.BinarySearch over []string, in a row in which what is less is a head: the head's length. -/
theorem search11 (b off n c : Nat) (S : Nat → ByteArray) (x : ByteArray) (w : World) (hbig : n < 4611686018427387904) (hc : ∀ j, j < n → w.cell? ⟨b, off + j, none⟩ = some (.string (S j)))
    (hmono : Mono (fun t => Op.bytesLess (S t).toList x.toList) n) :
    Calls Try.prog 11 #[.slice (some ⟨b, off, none⟩) n c, .string x] w fun e w' =>
      ∃ (r : Nat) (f : Bool), r ≤ n ∧ e = .returned (.tuple #[.int .i64 r, .bool f]) ∧ w = w' ∧ Cut (fun t => Op.bytesLess (S t).toList x.toList) n r r := by
  have M : Hid (Mono (fun t => Op.bytesLess (S t).toList x.toList) n) := hmono
  clear hmono
  have start := cut_start (fun t => Op.bytesLess (S t).toList x.toList) n
  go_enter Try.func11, Try.ntmps11
  go_wp2
  go_loopg [7, 8] n (fun g s7 s8 wr => ∃ lo hi : Nat, s7 = .int .i64 lo ∧ s8 = .int .i64 hi ∧ lo ≤ hi ∧ hi ≤ n ∧ hi - lo ≤ g ∧ w = wr ∧ Hid (Cut (fun t => Op.bytesLess (S t).toList x.toList) n lo hi))
  case atStart => exact ⟨0, n, rfl, rfl, Nat.zero_le _, Nat.le_refl _, by omega, rfl, start⟩
  case round =>
    clear start
    obtain ⟨lo, hi, rfl, rfl, hlh, hin, hg, rfl, H⟩ := hrel
    by_cases hlt : lo < hi
    · have cm : w.cell? ⟨b, off + (lo + hi) / 2, none⟩ = some (.string (S ((lo + hi) / 2))) := hc _ (by omega)
      clear hc
      have up := fun (h : Op.bytesLess (S ((lo + hi) / 2)).toList x.toList = true) => cut_up M.out H.out (show (lo + hi) / 2 < n by omega) h
      have down := fun (h : Op.bytesLess (S ((lo + hi) / 2)).toList x.toList = false) => cut_down M.out H.out h
      cases hyx : Op.bytesLess (S ((lo + hi) / 2)).toList x.toList
      · have D := hide (down hyx)
        clear up down
        go_wp2_with (first | (go_at_call 15; refine (less15 _ _ _).mono ?_; rintro e w' ⟨rfl, rfl⟩) | (go_at_call 16; refine (nan16 _ _).mono ?_; rintro e w' ⟨rfl, rfl⟩))
        go_roundg ((lo + hi) / 2 - lo)
        case measure => omega
        case rel => exact ⟨lo, (lo + hi) / 2, rfl, by rw [show ((lo : Int) + (hi : Int)) / 2 = (((lo + hi) / 2 : Nat) : Int) by omega], by omega, by omega, Nat.le_refl _, rfl, D.out⟩
      · have U := hide (up hyx)
        clear up down
        go_wp2_with (first | (go_at_call 15; refine (less15 _ _ _).mono ?_; rintro e w' ⟨rfl, rfl⟩) | (go_at_call 16; refine (nan16 _ _).mono ?_; rintro e w' ⟨rfl, rfl⟩))
        go_roundg (hi - ((lo + hi) / 2 + 1))
        case measure => omega
        case rel => exact ⟨(lo + hi) / 2 + 1, hi, by rw [show ((lo : Int) + (hi : Int)) / 2 + 1 = (((lo + hi) / 2 + 1 : Nat) : Int) by omega], rfl, by omega, hin, Nat.le_refl _, rfl, U.out⟩
    · obtain rfl : lo = hi := by omega
      by_cases hn : lo < n
      · have cl : w.cell? ⟨b, off + lo, none⟩ = some (.string (S lo)) := hc _ hn
        clear hc
        by_cases hyx : ((S lo).toList == x.toList) = true
        · go_wp2_with (go_at_call 16; refine (nan16 _ _).mono ?_; rintro e w' ⟨rfl, rfl⟩)
          go_ret2
          exact ⟨lo, _, hin, rfl, rfl, H.out⟩
        · have hyx' : ((S lo).toList == x.toList) = false := by simpa using hyx
          clear hyx
          go_wp2_with (go_at_call 16; refine (nan16 _ _).mono ?_; rintro e w' ⟨rfl, rfl⟩)
          go_ret2
          exact ⟨lo, _, hin, rfl, rfl, H.out⟩
      · clear hc
        go_wp2
        go_ret2
        exact ⟨lo, _, hin, rfl, rfl, H.out⟩

theorem cmp_neg : ∀ (x y : List UInt8), Lib.compareBytes x y < 0 ↔ x < y
  | [], [] => by simp [Lib.compareBytes]
  | [], _ :: _ => by simp [Lib.compareBytes]
  | _ :: _, [] => by simp [Lib.compareBytes]
  | a :: x, b :: y => by
    rw [List.cons_lt_cons_iff, ← cmp_neg x y, show Lib.compareBytes (a :: x) (b :: y) = if a < b then -1 else if b < a then 1 else Lib.compareBytes x y from rfl]
    by_cases h1 : a < b
    · simp [h1]
    · by_cases h2 : b < a
      · have h3 : a ≠ b := by rintro rfl; exact absurd h2 (UInt8.lt_irrefl _)
        simp [h1, h2, h3]
      · have h3 : a = b := UInt8.le_antisymm (UInt8.not_lt.1 h2) (UInt8.not_lt.1 h1)
        simp [h3]
theorem cmp_less (a b : ByteArray) : Op.bytesLess a.toList b.toList = decide (Lib.compareBytes a.data.toList b.data.toList < 0) := by
  rw [bytesLess_eq, Lib.toList_data, Lib.toList_data, Bool.eq_iff_iff, decide_eq_true_eq, decide_eq_true_eq, cmp_neg]

set_option maxHeartbeats 1000000 in
/-- slices.BinarySearchFunc over the runs, by runOf's closure: how many runs' last keys are less, where these are a head. -/
theorem search12 (b off n c : Nat) (B O L C : Nat → Nat) (T : Nat → ByteArray) (x : ByteArray) (w : World) (hbig : n < 4611686018427387904)
    (hc : ∀ i, i < n → w.cell? ⟨b, off + i, none⟩ = some (.slice (some ⟨B i, O i, none⟩) (L i) (C i)))
    (hL : ∀ i, i < n → 0 < L i ∧ L i ≤ maxLen) (hT : ∀ i, i < n → w.cell? ⟨B i, O i + (L i - 1), none⟩ = some (.string (T i)))
    (hmono : Mono (fun t => Op.bytesLess (T t).toList x.toList) n) :
    Calls Try.prog 12 #[.slice (some ⟨b, off, none⟩) n c, .string x, .func (.func 13) #[] #[]] w fun e w' =>
      ∃ (r : Nat) (f : Bool), r ≤ n ∧ e = .returned (.tuple #[.int .i64 r, .bool f]) ∧ w = w' ∧ Cut (fun t => Op.bytesLess (T t).toList x.toList) n r r := by
  have M : Hid (Mono (fun t => Op.bytesLess (T t).toList x.toList) n) := hmono
  have HC := hide (hc)
  have HL := hide (hL)
  have HT := hide (hT)
  clear hmono hc hL hT
  have start := cut_start (fun t => Op.bytesLess (T t).toList x.toList) n
  go_enter Try.func12, Try.ntmps12
  go_wp2
  go_loopg [9, 10] n (fun g s7 s8 wr => ∃ lo hi : Nat, s7 = .int .i64 lo ∧ s8 = .int .i64 hi ∧ lo ≤ hi ∧ hi ≤ n ∧ hi - lo ≤ g ∧ w = wr ∧ Hid (Cut (fun t => Op.bytesLess (T t).toList x.toList) n lo hi))
  case atStart => exact ⟨0, n, rfl, rfl, Nat.zero_le _, Nat.le_refl _, by omega, rfl, start⟩
  case round =>
    clear start
    obtain ⟨lo, hi, rfl, rfl, hlh, hin, hg, rfl, H⟩ := hrel
    by_cases hlt : lo < hi
    · have hmn : (lo + hi) / 2 < n := by omega
      have cm := HC.out ((lo + hi) / 2) hmn
      have K := hide (closure13 (B ((lo + hi) / 2)) (O ((lo + hi) / 2)) (L ((lo + hi) / 2)) (C ((lo + hi) / 2)) (T ((lo + hi) / 2)) x (HL.out _ hmn).1 (HL.out _ hmn).2 w (HT.out _ hmn))
      have up := fun (h : Op.bytesLess (T ((lo + hi) / 2)).toList x.toList = true) => cut_up M.out H.out hmn h
      have down := fun (h : Op.bytesLess (T ((lo + hi) / 2)).toList x.toList = false) => cut_down M.out H.out h
      simp only [cmp_less] at up down
      by_cases hyx : Lib.compareBytes (T ((lo + hi) / 2)).data.toList x.data.toList < 0
      · have U := hide (up (by simpa using hyx))
        clear up down
        go_wp2_with (go_at_call 13; refine K.out.mono ?_; rintro e w' ⟨rfl, rfl⟩)
        go_roundg (hi - ((lo + hi) / 2 + 1))
        case measure => omega
        case rel => exact ⟨(lo + hi) / 2 + 1, hi, by rw [show ((lo : Int) + (hi : Int)) / 2 + 1 = (((lo + hi) / 2 + 1 : Nat) : Int) by omega], rfl, by omega, hin, Nat.le_refl _, rfl, by simp only [cmp_less]; exact U.out⟩
      · have D := hide (down (by simpa using hyx))
        clear up down
        go_wp2_with (go_at_call 13; refine K.out.mono ?_; rintro e w' ⟨rfl, rfl⟩)
        go_roundg ((lo + hi) / 2 - lo)
        case measure => omega
        case rel => exact ⟨lo, (lo + hi) / 2, rfl, by rw [show ((lo : Int) + (hi : Int)) / 2 = (((lo + hi) / 2 : Nat) : Int) by omega], by omega, by omega, Nat.le_refl _, rfl, by simp only [cmp_less]; exact D.out⟩
    · obtain rfl : lo = hi := by omega
      by_cases hn : lo < n
      · have cl := HC.out lo hn
        have K := hide (closure13 (B lo) (O lo) (L lo) (C lo) (T lo) x (HL.out _ hn).1 (HL.out _ hn).2 w (HT.out _ hn))
        go_wp2_with (go_at_call 13; refine K.out.mono ?_; rintro e w' ⟨rfl, rfl⟩)
        go_ret2
        exact ⟨lo, _, hin, rfl, rfl, H.out⟩
      · go_wp2
        go_ret2
        exact ⟨lo, _, hin, rfl, rfl, H.out⟩
end Go.Proofs.Qxb6617753a
