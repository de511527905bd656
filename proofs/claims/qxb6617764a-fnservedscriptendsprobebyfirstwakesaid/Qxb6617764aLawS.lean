/-
  THE LAW 'FnServedScriptEndsProbeByFirstWake', walked.
-/
import Derived.Test.Qxb6617764aLawB
namespace Go.Proofs.Qxb6617764a
open Go.ChangeShapes Go.WideShapes Go.ChangeAt Go.RowKit

/-- 'zzWiden' -/
theorem widen7 (g : Int) (w : World) (h0 : 0 ≤ g) (h1 : g ≤ 16383) :
    Calls Try.prog 7 #[.int .u32 g] w fun e w' => e = .returned (.int .u32 (wd g)) ∧ w = w' := by
  by_cases h : 2 * g + 1 ≤ 16383
  · have e := hide (show wd g = 2 * g + 1 from if_pos h)
    have h' : g * 2 + 1 ≤ 16383 := by omega
    go_enter Try.func7, Try.ntmps7
    go_wp2
    all_goals
      go_ret
      rw [e.out]
      exact ⟨by first | rfl | (simp; omega), rfl⟩
  · have e := hide (show wd g = 16383 from if_neg h)
    have h' : ¬ g * 2 + 1 ≤ 16383 := by omega
    go_enter Try.func7, Try.ntmps7
    go_wp2
    all_goals
      go_ret
      rw [e.out]
      exact ⟨by first | rfl | (simp; omega), rfl⟩

/-- THE PROBE AFTER k CALLS OF THE SCRIPT b, one having been under way: still under way; won at its nd-th; failed at its first woken call. -/
def St (b : Nat → Bool) (g l won : Int) (nd k : Nat) (G L : Int) (o : Bool) (W : Int) : Prop :=
  (k < nd ∧ (∀ i, i < k → b i = false) ∧ G = g ∧ L = l ∧ o = true ∧ W = won + k) ∨
  (nd ≤ k ∧ (∀ i, i < nd → b i = false) ∧ G = 0 ∧ L = 0 ∧ o = false ∧ W = won + nd) ∨
  (∃ f, f < k ∧ f < nd ∧ b f = true ∧ (∀ i, i < f → b i = false) ∧ G = wd g ∧ L = wd g ∧ o = false ∧ W = won + f)
/-- What the law says of the first woken call. -/
def First (b : Nat → Bool) (n f : Nat) : Prop := (∀ i, i < f → b i = false) ∧ (f = n ∨ (f < n ∧ b f = true))

theorem none_succ {b : Nat → Bool} {k : Nat} (h : ∀ i, i < k → b i = false) (hk : b k = false) : ∀ i, i < k + 1 → b i = false := fun i hi => by
  by_cases e : i = k
  · rw [e]; exact hk
  · exact h i (by omega)
theorem st_wins {b : Nat → Bool} {g l won : Int} {nd n f : Nat} {G L : Int} {o : Bool} {W : Int} (h : St b g l won nd n G L o W) (hf : First b n f) (hle : nd ≤ f) : G = 0 ∧ L = 0 ∧ o = false ∧ W = won + nd := by
  have hfn : f ≤ n := by rcases hf.2 with h1 | h1 <;> omega
  rcases h with ⟨h1, _⟩ | ⟨_, _, h3⟩ | ⟨f', h1, h2, h3, _⟩
  · omega
  · exact h3
  · rw [hf.1 f' (by omega)] at h3; cases h3
theorem st_fails {b : Nat → Bool} {g l won : Int} {nd n f : Nat} {G L : Int} {o : Bool} {W : Int} (h : St b g l won nd n G L o W) (hf : First b n f) (hlt : f < nd) (hn : f < n) : G = wd g ∧ L = wd g ∧ o = false ∧ W = won + f := by
  have hb : b f = true := by
    rcases hf.2 with h1 | h1
    · omega
    · exact h1.2
  rcases h with ⟨_, h2, _⟩ | ⟨_, h2, _⟩ | ⟨f', h1, h2, h3, h4, h5⟩
  · rw [h2 f hn] at hb; cases hb
  · rw [h2 f hlt] at hb; cases hb
  · have e : f' = f := by
      rcases Nat.lt_trichotomy f' f with h6 | h6 | h6
      · rw [hf.1 f' h6] at h3; cases h3
      · exact h6
      · rw [h4 f h6] at hb; cases hb
    subst e
    exact h5
theorem st_on {b : Nat → Bool} {g l won : Int} {nd n : Nat} {G L : Int} {o : Bool} {W : Int} (h : St b g l won nd n G L o W) (hf : First b n n) (hlt : n < nd) : G = g ∧ L = l ∧ o = true ∧ W = won + n := by
  rcases h with ⟨_, _, h3⟩ | ⟨h1, _⟩ | ⟨f', h1, _, h3, _⟩
  · exact h3
  · omega
  · rw [hf.1 f' h1] at h3; cases h3
theorem first_le {b : Nat → Bool} {n f : Nat} (hf : First b n f) : f ≤ n := by rcases hf.2 with h1 | h1 <;> omega

theorem bytes5_any (g l : Int) (on : Bool) (won : Int) (a : Option Addr) (n c : Nat) (w : World) (hn : n ≤ maxLen) :
    Calls Try.prog 5 #[.int .u32 g, .int .u32 l, .bool on, .int .i64 won, .slice a n c] w fun e w' => (∃ r, e = .returned (.bool r)) ∧ w = w' := by
  unfold maxLen at hn
  go_enter Try.func5, Try.ntmps5
  go_wp2
  all_goals
    go_ret
    exact ⟨⟨_, rfl⟩, rfl⟩
theorem bytes5 (g l : Int) (on : Bool) (won : Int) (a : Option Addr) (n c : Nat) (w : World) (hn : n ≤ 65536) :
    Calls Try.prog 5 #[.int .u32 g, .int .u32 l, .bool on, .int .i64 won, .slice a n c] w fun e w' => e = .returned (.bool true) ∧ w = w' := by
  go_enter Try.func5, Try.ntmps5
  go_wp2
  go_ret
  exact ⟨rfl, rfl⟩

set_option maxRecDepth 100000 in
/-- Outside the law's own bounds: true. -/
theorem lawS_out (g l : Int) (on : Bool) (won : Int) (a : Option Addr) (n c : Nat) (w : World) (hn : n ≤ maxLen) (h : 65536 < n ∨ 16383 < g ∨ won < -1073741824 ∨ 1073741824 < won) :
    Calls Try.prog 3 #[.int .u32 g, .int .u32 l, .bool on, .int .i64 won, .slice a n c] w fun e w' => LawPost w e w' := by
  have K := hide (bytes5_any g l on won a n c w hn)
  unfold maxLen at hn
  by_cases h1 : 65536 < n
  · go_enter Try.func3, Try.ntmps3
    go_wp2_with fail
    refine K.out.mono ?_
    rintro e w' ⟨⟨r, rfl⟩, rfl⟩
    cases r
    all_goals
      go_wp2
      go_ret
      exact law_same w
  by_cases h2 : 16383 < g
  · go_enter Try.func3, Try.ntmps3
    go_wp2_with fail
    refine K.out.mono ?_
    rintro e w' ⟨⟨r, rfl⟩, rfl⟩
    cases r
    all_goals
      go_wp2
      go_ret
      exact law_same w
  by_cases h3 : won < -1073741824
  · go_enter Try.func3, Try.ntmps3
    go_wp2_with fail
    refine K.out.mono ?_
    rintro e w' ⟨⟨r, rfl⟩, rfl⟩
    cases r
    all_goals
      go_wp2
      go_ret
      exact law_same w
  · have h4 : 1073741824 < won := by omega
    go_enter Try.func3, Try.ntmps3
    go_wp2_with fail
    refine K.out.mono ?_
    rintro e w' ⟨⟨r, rfl⟩, rfl⟩
    cases r
    all_goals
      go_wp2
      go_ret
      exact law_same w

set_option maxHeartbeats 2000000 in
set_option maxRecDepth 100000 in
/-- No probe under way: nothing changes. -/
theorem lawS_off (g l won : Int) (a : Option Addr) (n c : Nat) (b : Nat → Bool) (w : World) (hn : n ≤ 65536) (h1 : g ≤ 16383) (h2 : -1073741824 ≤ won) (h3 : won ≤ 1073741824) (hb : Bools w a n b) :
    Calls Try.prog 3 #[.int .u32 g, .int .u32 l, .bool false, .int .i64 won, .slice a n c] w fun e w' => LawPost w e w' := by
  have HB := hide hb
  clear hb
  go_enter Try.func3, Try.ntmps3
  go_wp2_with (go_at_call 5; refine (bytes5 g l false won a n c w hn).mono ?_; rintro e w' ⟨rfl, rfl⟩)
  go_loopw [11, 12, 13, 14, 15] (fun s11 s12 s13 s14 s15 wr => ∃ k : Nat, k ≤ n ∧ s15 = .int .i64 k ∧ s11 = .int .u32 g ∧ s12 = .int .u32 l ∧ s13 = .bool false ∧ s14 = .int .i64 won ∧ Hid (Below w.heap.size w wr)) (fun _ _ _ _ s15 _ => n - (intOf s15).toNat)
  case atStart => exact ⟨0, Nat.zero_le _, rfl, rfl, rfl, rfl, rfl, Below.refl _ _⟩
  case round =>
    obtain ⟨k, hk, rfl, rfl, rfl, rfl, rfl, B⟩ := hrel
    by_cases hlt : k < n
    · obtain ⟨blk, off, rfl, hc⟩ := HB.out (by omega)
      have ck := cell_below B.out (hc k hlt)
      clear hc
      go_wp2_with fail
      refine (served_off g l won (b k) _).mono ?_
      rintro e w1 ⟨rfl, hb1⟩
      have B1 := hide (B.out.trans (hb1.mono B.out.size))
      clear hb1
      go_wp2
      go_roundw
      case rel => exact ⟨k + 1, by omega, by go_num, rfl, rfl, rfl, rfl, B1⟩
      case measure => simp [intOf]; omega
    · go_wp2
      go_ret
      exact ⟨rfl, B.out⟩

set_option maxHeartbeats 4000000 in
set_option maxRecDepth 100000 in
/-- A probe under way. -/
theorem lawS_on (g l won : Int) (a : Option Addr) (n c nd : Nat) (b : Nat → Bool) (w : World) (hn : n ≤ 65536) (h0 : 0 ≤ g) (h1 : g ≤ 16383) (h2 : -1073741824 ≤ won) (h3 : won ≤ 1073741824) (hb : Bools w a n b)
    (hnd : ((nd : Int) = 16 - won ∧ won ≤ 15) ∨ (nd = 1 ∧ 16 ≤ won)) :
    Calls Try.prog 3 #[.int .u32 g, .int .u32 l, .bool true, .int .i64 won, .slice a n c] w fun e w' => LawPost w e w' := by
  have HB := hide hb
  have ND := hide hnd
  have s0 : Hid (St b g l won nd 0 g l true won) := .inl ⟨by omega, fun i hi => absurd hi (Nat.not_lt_zero _), rfl, rfl, rfl, by simp⟩
  clear hb hnd
  go_enter Try.func3, Try.ntmps3
  go_wp2_with (go_at_call 5; refine (bytes5 g l true won a n c w hn).mono ?_; rintro e w' ⟨rfl, rfl⟩)
  go_loopw [11, 12, 13, 14, 15] (fun s11 s12 s13 s14 s15 wr => ∃ (k : Nat) (G L : Int) (o : Bool) (W : Int), k ≤ n ∧ s15 = .int .i64 k ∧ s11 = .int .u32 G ∧ s12 = .int .u32 L ∧ s13 = .bool o ∧ s14 = .int .i64 W ∧ Hid (St b g l won nd k G L o W) ∧ Hid (Below w.heap.size w wr)) (fun _ _ _ _ s15 _ => n - (intOf s15).toNat)
  case atStart => exact ⟨0, g, l, true, won, Nat.zero_le _, rfl, rfl, rfl, rfl, rfl, s0, Below.refl _ _⟩
  case round =>
    clear s0
    obtain ⟨k, G, L, o, W, hk, rfl, rfl, rfl, rfl, rfl, S, B⟩ := hrel
    by_cases hlt : k < n
    · obtain ⟨blk, off, rfl, hc⟩ := HB.out (by omega)
      have ck := cell_below B.out (hc k hlt)
      clear hc
      rcases S.out with ⟨hkn, hno, rfl, rfl, rfl, rfl⟩ | ⟨hkn, hno, rfl, rfl, rfl, rfl⟩ | ⟨f, hfk, hfn, hbf, hno, rfl, rfl, rfl, rfl⟩
      · cases hbk : b k
        · rw [hbk] at ck
          by_cases hw : won + (k : Int) < 15
          · have S1 := hide (show St b G L won nd (k + 1) G L true (won + (k : Int) + 1) from .inl ⟨by have := ND.out; omega, none_succ hno hbk, rfl, rfl, rfl, by omega⟩)
            clear hno S
            go_wp2_with fail
            refine (served_more G L (won + (k : Int)) _ (by omega) hw).mono ?_
            rintro e w1 ⟨rfl, hb1⟩
            have B1 := hide (B.out.trans (hb1.mono B.out.size))
            clear hb1
            go_wp2
            go_roundw
            case rel => exact ⟨k + 1, _, _, _, _, by omega, by go_num, rfl, rfl, rfl, rfl, S1, B1⟩
            case measure => simp [intOf]; omega
          · have S1 := hide (show St b G L won nd (k + 1) 0 0 false (won + (k : Int) + 1) from .inr (.inl ⟨by have := ND.out; omega, fun i hi => none_succ hno hbk i (by have := ND.out; omega), rfl, rfl, rfl, by have := ND.out; omega⟩))
            clear hno S
            go_wp2_with fail
            refine (served_wins G L (won + (k : Int)) _ (by omega) (by omega)).mono ?_
            rintro e w1 ⟨rfl, hb1⟩
            have B1 := hide (B.out.trans (hb1.mono B.out.size))
            clear hb1
            go_wp2
            go_roundw
            case rel => exact ⟨k + 1, _, _, _, _, by omega, by go_num, rfl, rfl, rfl, rfl, S1, B1⟩
            case measure => simp [intOf]; omega
        · rw [hbk] at ck
          have S1 := hide (show St b G L won nd (k + 1) (wd G) (wd G) false (won + (k : Int)) from .inr (.inr ⟨k, by omega, hkn, hbk, hno, rfl, rfl, rfl, rfl⟩))
          clear hno S
          go_wp2_with fail
          refine (served_woke G L (won + (k : Int)) _ h0 h1).mono ?_
          rintro e w1 ⟨rfl, hb1⟩
          have B1 := hide (B.out.trans (hb1.mono B.out.size))
          clear hb1
          go_wp2
          go_roundw
          case rel => exact ⟨k + 1, _, _, _, _, by omega, by go_num, rfl, rfl, rfl, rfl, S1, B1⟩
          case measure => simp [intOf]; omega
      · have S1 := hide (show St b g l won nd (k + 1) 0 0 false (won + (nd : Int)) from .inr (.inl ⟨by omega, hno, rfl, rfl, rfl, rfl⟩))
        clear hno S
        go_wp2_with fail
        refine (served_off 0 0 (won + (nd : Int)) (b k) _).mono ?_
        rintro e w1 ⟨rfl, hb1⟩
        have B1 := hide (B.out.trans (hb1.mono B.out.size))
        clear hb1
        go_wp2
        go_roundw
        case rel => exact ⟨k + 1, _, _, _, _, by omega, by go_num, rfl, rfl, rfl, rfl, S1, B1⟩
        case measure => simp [intOf]; omega
      · have S1 := hide (show St b g l won nd (k + 1) (wd g) (wd g) false (won + (f : Int)) from .inr (.inr ⟨f, by omega, hfn, hbf, hno, rfl, rfl, rfl, rfl⟩))
        clear hno S hbf
        go_wp2_with fail
        refine (served_off (wd g) (wd g) (won + (f : Int)) (b k) _).mono ?_
        rintro e w1 ⟨rfl, hb1⟩
        have B1 := hide (B.out.trans (hb1.mono B.out.size))
        clear hb1
        go_wp2
        go_roundw
        case rel => exact ⟨k + 1, _, _, _, _, by omega, by go_num, rfl, rfl, rfl, rfl, S1, B1⟩
        case measure => simp [intOf]; omega
    · obtain rfl : k = n := by omega
      obtain ⟨wo, hwo⟩ : ∃ wo : World, wo = wr := ⟨_, rfl⟩
      subst hwo
      have HC : Hid (0 < k → ∃ blk off, a = some ⟨blk, off, none⟩ ∧ ∀ i, i < k → wo.cell? ⟨blk, off + i, none⟩ = some (.bool (b i))) := fun hp => (by
        obtain ⟨blk, off, e, hc⟩ := HB.out hp
        exact ⟨blk, off, e, fun i hi => cell_below B.out (hc i hi)⟩)
      rcases ND.out with ⟨e, hw⟩ | ⟨rfl, hw⟩
      · have E := hide e
        clear e
        go_wp2
        go_loop [17, 18] (fun s17 s18 => ∃ i : Nat, i ≤ k ∧ s18 = .int .i64 i ∧ s17 = .int .i64 k ∧ Hid (∀ t, t < i → b t = false)) (fun _ s18 => k - (intOf s18).toNat)
        case atStart => exact ⟨0, Nat.zero_le _, rfl, rfl, fun t ht => absurd ht (Nat.not_lt_zero _)⟩
        case round =>
          obtain ⟨i, hi, rfl, rfl, HN⟩ := hrel
          by_cases hlt : i < k
          · obtain ⟨blk, off, rfl, hc⟩ := HC.out (by omega)
            have ck := hc i hlt
            clear hc
            cases hbi : b i
            · rw [hbi] at ck
              go_wp2
              go_round
              case rel => exact ⟨i + 1, by omega, by go_num, rfl, none_succ HN.out hbi⟩
              case measure => simp [intOf]; omega
            · rw [hbi] at ck
              by_cases hd : nd ≤ i
              · obtain ⟨rfl, rfl, rfl, rfl⟩ := st_wins S.out (f := i) ⟨HN.out, .inr ⟨hlt, hbi⟩⟩ hd
                have hd' : 16 - won ≤ (i : Int) := by have := E.out; omega
                clear hd
                go_wp2
                go_ret
                exact ⟨ret_bool (by first | rfl | (have := E.out; simp; omega)), B.out⟩
              · obtain ⟨rfl, rfl, rfl, rfl⟩ := st_fails S.out (f := i) ⟨HN.out, .inr ⟨hlt, hbi⟩⟩ (by omega) hlt
                have hd' : ¬ 16 - won ≤ (i : Int) := by have := E.out; omega
                clear hd
                go_wp2_with fail
                refine (widen7 g _ h0 h1).mono ?_
                rintro e w' ⟨rfl, rfl⟩
                go_wp2
                go_ret
                exact ⟨ret_bool (by first | rfl | simp), B.out⟩
          · obtain rfl : i = k := by omega
            by_cases hd : nd ≤ i
            · obtain ⟨rfl, rfl, rfl, rfl⟩ := st_wins S.out (f := i) ⟨HN.out, .inl rfl⟩ hd
              have hd' : 16 - won ≤ (i : Int) := by have := E.out; omega
              clear hd
              go_wp2
              go_ret
              exact ⟨ret_bool (by first | rfl | (have := E.out; simp; omega)), B.out⟩
            · obtain ⟨rfl, rfl, rfl, rfl⟩ := st_on S.out ⟨HN.out, .inl rfl⟩ (by omega)
              have hd' : ¬ 16 - won ≤ (i : Int) := by have := E.out; omega
              clear hd
              go_wp2
              go_ret
              exact ⟨ret_bool (by first | rfl | simp), B.out⟩
      · clear ND
        go_wp2
        go_loop [17, 18] (fun s17 s18 => ∃ i : Nat, i ≤ k ∧ s18 = .int .i64 i ∧ s17 = .int .i64 k ∧ Hid (∀ t, t < i → b t = false)) (fun _ s18 => k - (intOf s18).toNat)
        case atStart => exact ⟨0, Nat.zero_le _, rfl, rfl, fun t ht => absurd ht (Nat.not_lt_zero _)⟩
        case round =>
          obtain ⟨i, hi, rfl, rfl, HN⟩ := hrel
          by_cases hlt : i < k
          · obtain ⟨blk, off, rfl, hc⟩ := HC.out (by omega)
            have ck := hc i hlt
            clear hc
            cases hbi : b i
            · rw [hbi] at ck
              go_wp2
              go_round
              case rel => exact ⟨i + 1, by omega, by go_num, rfl, none_succ HN.out hbi⟩
              case measure => simp [intOf]; omega
            · rw [hbi] at ck
              by_cases hd : 1 ≤ i
              · obtain ⟨rfl, rfl, rfl, rfl⟩ := st_wins S.out (f := i) ⟨HN.out, .inr ⟨hlt, hbi⟩⟩ hd
                have hd' : (1 : Int) ≤ (i : Int) := by omega
                clear hd
                go_wp2
                go_ret
                exact ⟨ret_bool (by first | rfl | (simp)), B.out⟩
              · obtain ⟨rfl, rfl, rfl, rfl⟩ := st_fails S.out (f := i) ⟨HN.out, .inr ⟨hlt, hbi⟩⟩ (by omega) hlt
                have hd' : ¬ (1 : Int) ≤ (i : Int) := by omega
                clear hd
                go_wp2_with fail
                refine (widen7 g _ h0 h1).mono ?_
                rintro e w' ⟨rfl, rfl⟩
                go_wp2
                go_ret
                exact ⟨ret_bool (by first | rfl | simp), B.out⟩
          · obtain rfl : i = k := by omega
            by_cases hd : 1 ≤ i
            · obtain ⟨rfl, rfl, rfl, rfl⟩ := st_wins S.out (f := i) ⟨HN.out, .inl rfl⟩ hd
              have hd' : (1 : Int) ≤ (i : Int) := by omega
              clear hd
              go_wp2
              go_ret
              exact ⟨ret_bool (by first | rfl | (simp)), B.out⟩
            · obtain ⟨rfl, rfl, rfl, rfl⟩ := st_on S.out ⟨HN.out, .inl rfl⟩ (by omega)
              have hd' : ¬ (1 : Int) ≤ (i : Int) := by omega
              clear hd
              go_wp2
              go_ret
              exact ⟨ret_bool (by first | rfl | simp), B.out⟩
end Go.Proofs.Qxb6617764a
