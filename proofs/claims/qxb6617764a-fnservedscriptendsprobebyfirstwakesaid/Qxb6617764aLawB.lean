/-
  THE LAW 'FnServedBackoffDoublesAndWinResets', walked.
-/
import Derived.Test.Qxb6617764aBack
namespace Go.Proofs.Qxb6617764a
open Go.ChangeShapes Go.WideShapes Go.ChangeAt Go.RowKit

/-- What a law answers. -/
def LawPost (w : World) (e : Ending) (w' : World) : Prop := e = .returned (.bool true) ∧ Below w.heap.size w w'
theorem law_same (w : World) : LawPost w (.returned (.bool true)) w := ⟨rfl, Below.refl _ _⟩
/-- A row of bools that came in. -/
def Bools (w : World) (a : Option Addr) (n : Nat) (b : Nat → Bool) : Prop :=
  0 < n → ∃ blk off, a = some ⟨blk, off, none⟩ ∧ ∀ k, k < n → w.cell? ⟨blk, off + k, none⟩ = some (.bool (b k))

theorem cell_below {w w1 : World} (hb : Below w.heap.size w w1) {a : Addr} {v : Value} (h : w.cell? a = some v) : w1.cell? a = some v := by
  rw [hb.cell (World.block_lt_of_cell? _ _ h)]; exact h

theorem bytes8 (g l : Int) (a : Option Addr) (n c : Nat) (w : World) (hn : n ≤ 4096) :
    Calls Try.prog 8 #[.int .u32 g, .int .u32 l, .slice a n c] w fun e w' => e = .returned (.bool true) ∧ w = w' := by
  go_enter Try.func8, Try.ntmps8
  go_wp2
  go_ret
  exact ⟨rfl, rfl⟩
theorem bytes8_any (g l : Int) (a : Option Addr) (n c : Nat) (w : World) (hn : n ≤ maxLen) :
    Calls Try.prog 8 #[.int .u32 g, .int .u32 l, .slice a n c] w fun e w' => (∃ r, e = .returned (.bool r)) ∧ w = w' := by
  unfold maxLen at hn
  go_enter Try.func8, Try.ntmps8
  go_wp2
  all_goals
    go_ret
    exact ⟨⟨_, rfl⟩, rfl⟩

theorem ret_bool {a b : Bool} (h : a = b) : Ending.returned (.bool a) = .returned (.bool b) := by rw [h]
theorem left_woke {g l : Int} {b : Nat → Bool} {m : Nat} : (leftAt g l b (m + 1) == gapAt g b (m + 1)) = true := by simp [leftAt]
theorem left_won {g l : Int} {b : Nat → Bool} {m : Nat} (h : b m = false) : (leftAt g l b (m + 1) == 0) = true := by simp [leftAt, gapAt, h]
/-- The law's own reckoning, in the walk's form, is the gap's. -/
theorem want_form (g : Int) (b : Nat → Bool) (m : Nat) (x : Int) (h0 : 0 ≤ g) (h1 : g ≤ 16383) (hf : fails b (m + 1) < 14) (hx : x = baseAt g b (m + 1) + 1) :
    gapAt g b (m + 1) = cap (IntKind.u64.wrap (IntKind.u64.wrap (x * 2 ^ ((m : Int) - lastWin b (m + 1)).toNat) - 1)) := by
  subst hx
  have fe := fails_eq b (m + 1)
  have e : ((m : Int) - lastWin b (m + 1)).toNat = fails b (m + 1) := by omega
  have hp := prod_bd g b (m + 1) h0 h1 hf
  rw [e, gap_form g b h0 h1 (m + 1)]
  generalize (baseAt g b (m + 1) + 1) * 2 ^ fails b (m + 1) = y at hp ⊢
  congr 1
  rw [IntKind.wrap_u64, IntKind.wrap_u64]
  omega
theorem want_zero (g : Int) (b : Nat → Bool) (m : Nat) (h0 : 0 ≤ g) (h1 : g ≤ 16383) (hf : fails b (m + 1) < 14) (hj : 0 ≤ lastWin b (m + 1)) :
    gapAt g b (m + 1) = cap (IntKind.u64.wrap (IntKind.u64.wrap (2 ^ ((m : Int) - lastWin b (m + 1)).toNat) - 1)) := by
  have h := want_form g b m 1 h0 h1 hf (by unfold baseAt; rw [if_pos hj]; rfl)
  rwa [Int.one_mul] at h
theorem want_more (g : Int) (b : Nat → Bool) (m : Nat) (h0 : 0 ≤ g) (h1 : g ≤ 16383) (hf : fails b (m + 1) < 14) (hj : ¬ 0 ≤ lastWin b (m + 1)) :
    gapAt g b (m + 1) = cap (IntKind.u64.wrap (IntKind.u64.wrap ((g + 1) * 2 ^ ((m : Int) - lastWin b (m + 1)).toNat) - 1)) :=
  want_form g b m (g + 1) h0 h1 hf (by unfold baseAt; rw [if_neg hj])
theorem cap_over {x v : Int} (h : x = cap v) (h1 : 16383 < v) (h2 : (x != 16383) = true) : False := by
  unfold cap at h
  rw [if_pos h1] at h
  simp at h2
  exact h2 h
theorem cap_under {x v : Int} (h : x = cap v) (h1 : v ≤ 16383) (h2 : (x != v) = true) : False := by
  unfold cap at h
  rw [if_neg (by omega)] at h
  simp at h2
  exact h2 h

/-- Where the inner loop stands after q of its sixteen calls. -/
def Inner (G L : Int) (q : Nat) (s7 s8 s10 : Value) : Prop :=
  (q < 16 ∧ s7 = .int .u32 G ∧ s8 = .int .u32 L ∧ s10 = .bool true) ∨ (q = 16 ∧ s7 = .int .u32 0 ∧ s8 = .int .u32 0 ∧ s10 = .bool false)

/-- Too long, or the gap too great: true. -/
theorem lawB_out (g l : Int) (a : Option Addr) (n c : Nat) (w : World) (hn : n ≤ maxLen) (h : 4096 < n ∨ 16383 < g) :
    Calls Try.prog 4 #[.int .u32 g, .int .u32 l, .slice a n c] w fun e w' => LawPost w e w' := by
  have K := hide (bytes8_any g l a n c w hn)
  unfold maxLen at hn
  by_cases h4 : 4096 < n
  · go_enter Try.func4, Try.ntmps4
    go_wp2_with fail
    refine K.out.mono ?_
    rintro e w' ⟨⟨r, rfl⟩, rfl⟩
    cases r
    all_goals
      go_wp2
      go_ret
      exact law_same w
  · have hg : 16383 < g := by omega
    go_enter Try.func4, Try.ntmps4
    go_wp2_with fail
    refine K.out.mono ?_
    rintro e w' ⟨⟨r, rfl⟩, rfl⟩
    cases r
    all_goals
      go_wp2
      go_ret
      exact law_same w

set_option maxHeartbeats 2000000 in
set_option maxRecDepth 100000 in
theorem lawB (g l : Int) (a : Option Addr) (n c : Nat) (b : Nat → Bool) (w : World) (hn : n ≤ 4096) (h0 : 0 ≤ g) (h1 : g ≤ 16383) (hb : Bools w a n b) :
    Calls Try.prog 4 #[.int .u32 g, .int .u32 l, .slice a n c] w fun e w' => LawPost w e w' := by
  have HB := hide hb
  clear hb
  go_enter Try.func4, Try.ntmps4
  go_wp2_with (go_at_call 8; refine (bytes8 g l a n c w hn).mono ?_; rintro e w' ⟨rfl, rfl⟩)
  go_loopw [7, 8, 9] (fun s7 s8 s9 wr => ∃ k : Nat, k ≤ n ∧ s9 = .int .i64 k ∧ s7 = .int .u32 (gapAt g b k) ∧ s8 = .int .u32 (leftAt g l b k) ∧ Hid (Below w.heap.size w wr)) (fun _ _ s9 _ => n - (intOf s9).toNat)
  case atStart => exact ⟨0, Nat.zero_le _, rfl, rfl, rfl, Below.refl _ _⟩
  case round =>
    obtain ⟨k, hk, rfl, rfl, rfl, B⟩ := hrel
    have gb := gapAt_bd g b h0 h1 k
    obtain ⟨gb0, gb1⟩ := gb
    by_cases hlt : k < n
    · obtain ⟨blk, off, rfl, hc⟩ := HB.out (by omega)
      have ck := cell_below B.out (hc k hlt)
      clear hc
      cases hbk : b k
      · rw [hbk] at ck
        have e7 := hide (show gapAt g b (k + 1) = 0 by simp [gapAt, hbk])
        have e8 := hide (show leftAt g l b (k + 1) = 0 by simp [leftAt, gapAt, hbk])
        obtain ⟨wo, hwo⟩ : ∃ wo : World, wo = wr := ⟨_, rfl⟩
        subst hwo
        go_wp2
        go_loopw [7, 8, 10, 11, 12] (fun s7 s8 s10 s11 s12 wr => ∃ q : Nat, q ≤ 16 ∧ s12 = .int .i64 q ∧ s11 = .int .i64 q ∧ Inner (gapAt g b k) (leftAt g l b k) q s7 s8 s10 ∧ Hid (Below w.heap.size w wr)) (fun _ _ _ _ s12 _ => 16 - (intOf s12).toNat)
        case atStart => exact ⟨0, by omega, rfl, rfl, .inl ⟨by omega, rfl, rfl, rfl⟩, B⟩
        case round =>
          clear B ck
          obtain ⟨q, hq, rfl, rfl, hin, B⟩ := hrel
          rcases hin with ⟨hq2, rfl, rfl, rfl⟩ | ⟨rfl, rfl, rfl, rfl⟩
          · by_cases h15 : q < 15
            · go_wp2_with fail
              refine (served_more (gapAt g b k) (leftAt g l b k) (q : Int) _ (by omega) (by omega)).mono ?_
              rintro e w1 ⟨rfl, hb1⟩
              have B1 := hide (B.out.trans (hb1.mono B.out.size))
              clear hb1
              go_wp2
              go_roundw
              case rel => exact ⟨q + 1, by omega, by go_num, by go_num, .inl ⟨by omega, rfl, rfl, rfl⟩, B1⟩
              case measure => simp [intOf]; omega
            · obtain rfl : q = 15 := by omega
              go_wp2_with fail
              refine (served_wins (gapAt g b k) (leftAt g l b k) 15 _ (by omega) (by omega)).mono ?_
              rintro e w1 ⟨rfl, hb1⟩
              have B1 := hide (B.out.trans (hb1.mono B.out.size))
              clear hb1
              go_wp2
              go_roundw
              case rel => exact ⟨16, by omega, by go_num, by go_num, .inr ⟨rfl, rfl, rfl, rfl⟩, B1⟩
              case measure => simp [intOf]
          · go_wp2
            go_roundw
            case rel => exact ⟨k + 1, by omega, by go_num, by rw [e7.out], by rw [e8.out], B⟩
            case measure => simp [intOf]; omega
      · rw [hbk] at ck
        have e7 := hide (show gapAt g b (k + 1) = wd (gapAt g b k) by simp [gapAt, hbk])
        have e8 := hide (show leftAt g l b (k + 1) = wd (gapAt g b k) by simp [leftAt, gapAt, hbk])
        go_wp2_with fail
        refine (served_woke (gapAt g b k) (leftAt g l b k) 0 _ gb0 gb1).mono ?_
        rintro e w1 ⟨rfl, hb1⟩
        have B1 := hide (B.out.trans (hb1.mono B.out.size))
        clear hb1
        go_wp2
        go_roundw
        case rel => exact ⟨k + 1, by omega, by go_num, by rw [e7.out], by rw [e8.out], B1⟩
        case measure => simp [intOf]; omega
    · obtain rfl : k = n := by omega
      by_cases hz : k = 0
      · subst hz
        go_wp2
        go_ret
        exact ⟨by first | rfl | simp [leftAt], B.out⟩
      · have hz' : ((k : Int) == 0) = false := by simp [hz]
        obtain ⟨m, rfl⟩ : ∃ m, k = m + 1 := ⟨k - 1, by omega⟩
        clear hz
        have eL := hide (show leftAt g l b (m + 1) = gapAt g b (m + 1) from rfl)
        obtain ⟨wo, hwo⟩ : ∃ wo : World, wo = wr := ⟨_, rfl⟩
        subst hwo
        obtain ⟨blk, off, rfl, hc⟩ := HB.out (by omega)
        have HC := hide (fun k h => cell_below B.out (hc k h))
        clear hc
        go_wp2
        go_loop [13, 14] (fun s13 s14 => ∃ k : Nat, k ≤ m + 1 ∧ s14 = .int .i64 k ∧ s13 = .int .i64 (lastWin b k)) (fun _ s14 => m + 1 - (intOf s14).toNat)
        case atStart => exact ⟨0, Nat.zero_le _, rfl, rfl⟩
        case round =>
          obtain ⟨k, hk, rfl, rfl⟩ := hrel
          by_cases hlt : k < m + 1
          · have ck := HC.out k hlt
            cases hbk : b k
            · rw [hbk] at ck
              have eW := hide (show lastWin b (k + 1) = (k : Int) by simp [lastWin, hbk])
              go_wp2
              go_round
              case rel => exact ⟨k + 1, by omega, by go_num, by rw [eW.out]⟩
              case measure => simp [intOf]; omega
            · rw [hbk] at ck
              have eW := hide (show lastWin b (k + 1) = lastWin b k by simp [lastWin, hbk])
              go_wp2
              go_round
              case rel => exact ⟨k + 1, by omega, by go_num, by rw [eW.out]⟩
              case measure => simp [intOf]; omega
          · obtain rfl : k = m + 1 := by omega
            have lb := lastWin_bd b (m + 1)
            have fe := fails_eq b (m + 1)
            obtain ⟨lb0, lb1⟩ := lb
            have ck := HC.out m (by omega)
            by_cases hj : 0 ≤ lastWin b (m + 1)
            · by_cases hf : fails b (m + 1) < 14
              · have KV := hide (want_zero g b m h0 h1 hf hj)
                have fh : (m : Int) - lastWin b (m + 1) < 14 := by omega
                clear fe
                go_wp2
                · exact (cap_over KV.out (by assumption) (by assumption)).elim
                · go_ret; exact ⟨ret_bool left_woke, B.out⟩
                · go_ret; exact ⟨ret_bool (left_won (by assumption)), B.out⟩
                · exact (cap_under KV.out (by assumption) (by assumption)).elim
                · go_ret; exact ⟨ret_bool left_woke, B.out⟩
                · go_ret; exact ⟨ret_bool (left_won (by assumption)), B.out⟩
              · have gg : (gapAt g b (m + 1) != 16383) = false := by rw [gap_big g b (m + 1) h0 h1 (by omega)]; rfl
                have fh : ¬ (m : Int) - lastWin b (m + 1) < 14 := by omega
                clear fe
                go_wp2
                · go_ret; exact ⟨ret_bool left_woke, B.out⟩
                · go_ret; exact ⟨ret_bool (left_won (by assumption)), B.out⟩
            · by_cases hf : fails b (m + 1) < 14
              · have KV := hide (want_more g b m h0 h1 hf hj)
                have fh : (m : Int) - lastWin b (m + 1) < 14 := by omega
                clear fe
                go_wp2
                · exact (cap_over KV.out (by assumption) (by assumption)).elim
                · go_ret; exact ⟨ret_bool left_woke, B.out⟩
                · go_ret; exact ⟨ret_bool (left_won (by assumption)), B.out⟩
                · exact (cap_under KV.out (by assumption) (by assumption)).elim
                · go_ret; exact ⟨ret_bool left_woke, B.out⟩
                · go_ret; exact ⟨ret_bool (left_won (by assumption)), B.out⟩
              · have gg : (gapAt g b (m + 1) != 16383) = false := by rw [gap_big g b (m + 1) h0 h1 (by omega)]; rfl
                have fh : ¬ (m : Int) - lastWin b (m + 1) < 14 := by omega
                clear fe
                go_wp2
                · go_ret; exact ⟨ret_bool left_woke, B.out⟩
                · go_ret; exact ⟨ret_bool (left_won (by assumption)), B.out⟩
end Go.Proofs.Qxb6617764a
