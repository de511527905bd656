/-
  THE LAW 'FnSkipEscapeIsLeastJSONEscapeEnd', walked.
-/
import Derived.Test.Qxb6618288aTail
import Derived.OwnWalk
import Derived.Laws.CopyOwn
namespace Go.Proofs.Qxb6618288a
open Go.ChangeShapes Go.WideShapes Go.ChangeAt Go.RowKit

theorem Try.info5 : (Try.prog.info? 5).map (fun i => (i.zero, i.size, i.bytes)) = some (some (.int .u8 0), 1, 1) := by kernel_rfl
theorem Try.size5 : (Try.prog.info? 5).map (·.size) = some 1 := by kernel_rfl

/-- What the law answers. -/
def LawPost (w : World) (e : Ending) (w' : World) : Prop := e = .returned (.bool true) ∧ Below w.heap.size w w'
theorem law_same (w : World) : LawPost w (.returned (.bool true)) w := ⟨rfl, Below.refl _ _⟩

theorem bytes5 (a : Option Addr) (N c : Nat) (i : Int) (w : World) (hN : N ≤ 1048576) :
    Calls Try.prog 5 #[.slice a N c, .int .i64 i] w fun e w' => e = .returned (.bool true) ∧ w = w' := by
  go_enter Try.func5, Try.ntmps5
  go_wp2
  go_ret
  exact ⟨rfl, rfl⟩
theorem bytes5_no (a : Option Addr) (N c : Nat) (i : Int) (w : World) (hm : N ≤ maxLen) (hN : 1048576 < N) :
    Calls Try.prog 5 #[.slice a N c, .int .i64 i] w fun e w' => e = .returned (.bool false) ∧ w = w' := by
  unfold maxLen at hm
  go_enter Try.func5, Try.ntmps5
  go_wp2
  go_ret
  exact ⟨rfl, rfl⟩

/-- Too long, or no index of b: true. -/
theorem law_out (a : Option Addr) (N c : Nat) (i : Int) (w : World) (hm : N ≤ maxLen) (h : 1048576 < N ∨ i < 0 ∨ (N : Int) ≤ i) :
    Calls Try.prog 3 #[.slice a N c, .int .i64 i] w fun e w' => LawPost w e w' := by
  by_cases hN : 1048576 < N
  · have K := hide (bytes5_no a N c i w hm hN)
    unfold maxLen at hm
    go_enter Try.func3, Try.ntmps3
    go_wp2_with (go_at_call 5; refine K.out.mono ?_; rintro e w' ⟨rfl, rfl⟩)
    go_ret
    exact law_same w
  · have K := hide (bytes5 a N c i w (by omega))
    by_cases h0 : i < 0
    · go_enter Try.func3, Try.ntmps3
      go_wp2_with (go_at_call 5; refine K.out.mono ?_; rintro e w' ⟨rfl, rfl⟩)
      go_ret
      exact law_same w
    · have h1 : (N : Int) ≤ i := by omega
      go_enter Try.func3, Try.ntmps3
      go_wp2_with (go_at_call 5; refine K.out.mono ?_; rintro e w' ⟨rfl, rfl⟩)
      go_ret
      exact law_same w

/-- The bytes as the copy's cells. -/
def byteCells (Z : Nat → Int) (N : Nat) : List Value := (List.range N).map fun j => .int .u8 (Z j)
theorem length_byteCells (Z : Nat → Int) (N : Nat) : (byteCells Z N).length = N := by simp [byteCells]
theorem get_byteCells {Z : Nat → Int} {N j : Nat} {v : Value} (h : (byteCells Z N)[j]? = some v) : j < N ∧ v = .int .u8 (Z j) := by
  have hj : j < N := by
    rcases Nat.lt_or_ge j N with h' | h'
    · exact h'
    · rw [List.getElem?_eq_none (by rw [length_byteCells]; exact h')] at h; cases h
  refine ⟨hj, ?_⟩
  simp [byteCells, List.getElem?_range hj] at h
  exact h.symm
theorem made_row {w W0 : World} {N : Nat} {xs : List Value} (h : W0.ownsRow w.heap.size 5 1 (.slice (some ⟨w.heap.size, 0, none⟩) N N) N xs) :
    ∃ cur : List Value, W0.heap[w.heap.size]? = some (.cells cur.toArray 5 (0, 0)) ∧ cur.length = N := by
  obtain ⟨_, h | ⟨g, cap, cur, hv, hb, hh, _, _, hc, _⟩⟩ := h
  · cases h.1
  · cases hv
    exact ⟨cur.toList, by simpa using hh, by simpa using hc⟩
theorem copied {w W2 : World} {N : Nat} {Z : Nat → Int} {cur : List Value} (hz : ∀ j, j < N → 0 ≤ Z j ∧ Z j ≤ 255) (h : W2.heap[w.heap.size]? = some (.cells (splice cur 0 (byteCells Z N)).toArray 5 (0, 0))) : Bytes W2 w.heap.size 0 N Z := by
  intro j hj
  refine ⟨?_, hz j hj⟩
  have e : (splice cur 0 (byteCells Z N))[j]? = some (.int .u8 (Z j)) := by
    unfold splice
    rw [List.take_zero, List.nil_append, List.getElem?_append_left (by rw [length_byteCells]; exact hj)]
    simp [byteCells, List.getElem?_range hj]
  simp [World.cell?, h, e]

/-- What the rounds behind the law have found: no whole tail yet. -/
def Nope (N i : Nat) (Z : Nat → Int) (t : Nat) : Prop := (0 < t → i + 1 < N ∧ shortB (Z (i + 1)) = false) ∧ (t = 5 → ¬ (Z (i + 1) = 117 ∧ hex4 Z (i + 2) = true))
theorem nope_zero (N i : Nat) (Z : Nat → Int) : Nope N i Z 0 := ⟨fun h => absurd h (by omega), fun h => absurd h (by omega)⟩
theorem nope_one {N i : Nat} {Z : Nat → Int} (h : i + 1 < N) (hs : shortB (Z (i + 1)) = false) : Nope N i Z 1 := ⟨fun _ => ⟨h, hs⟩, fun h => absurd h (by omega)⟩
theorem nope_mid {N i : Nat} {Z : Nat → Int} {t : Nat} (h : Nope N i Z t) (h0 : 0 < t) (h4 : t < 4) : Nope N i Z (t + 1) := ⟨fun _ => h.1 h0, fun h => absurd h (by omega)⟩
theorem nope_five {N i : Nat} {Z : Nat → Int} (h : Nope N i Z 4) (hu : ¬ (Z (i + 1) = 117 ∧ hex4 Z (i + 2) = true)) : Nope N i Z 5 := ⟨fun _ => h.1 (by omega), fun _ => hu⟩
theorem skipF_short {N i : Nat} {Z : Nat → Int} (h : i + 1 < N) (hs : shortB (Z (i + 1)) = true) : skipF N Z i = (i : Int) + 2 := by
  unfold skipF
  rw [if_neg (by omega), if_pos hs]
theorem skipF_u {N i : Nat} {Z : Nat → Int} (h : i + 6 ≤ N) (hn : Nope N i Z 4) (hu : Z (i + 1) = 117) (hx : hex4 Z (i + 2) = true) : skipF N Z i = (i : Int) + 6 := by
  unfold skipF uF
  rw [if_neg (by omega), (hn.1 (by omega)).2, if_neg Bool.false_ne_true, if_pos hu, if_neg (by omega), if_pos hx]
theorem skipF_no {N i t : Nat} {Z : Nat → Int} (hi : i < N) (ht : t ≤ 5) (hn : Nope N i Z t) (h : t = 5 ∨ N < i + 2 + t) : skipF N Z i = -1 := by
  unfold skipF uF
  by_cases h1 : i + 1 = N
  · rw [if_pos h1]
  · rw [if_neg h1]
    have h0 : 0 < t := by omega
    rw [(hn.1 h0).2, if_neg Bool.false_ne_true]
    by_cases hu : Z (i + 1) = 117
    · rw [if_pos hu]
      by_cases h6 : N < i + 6
      · rw [if_pos h6]
      · rw [if_neg h6]
        have h5 : t = 5 := by omega
        have hx : hex4 Z (i + 2) = false := by
          cases hx : hex4 Z (i + 2)
          · rfl
          · exact absurd ⟨hu, hx⟩ (hn.2 h5)
        rw [hx, if_neg Bool.false_ne_true]
    · rw [if_neg hu]
/-- The bytes behind the backslash. -/
theorem Bytes.behind {W : World} {g N i n : Nat} {Z : Nat → Int} (h : Bytes W g 0 N Z) (hn : i + 1 + n ≤ N) : Bytes W g (i + 1) n (fun j => Z (i + 1 + j)) := by
  intro j hj
  have := h (i + 1 + j) (by omega)
  rw [Nat.zero_add] at this
  exact this

set_option maxHeartbeats 2000000 in
set_option maxRecDepth 100000 in
theorem lawE (blk off N cap i : Nat) (Z : Nat → Int) (w : World) (hN : N ≤ 1048576) (hi : i < N) (hb : Bytes w blk off N Z) :
    Calls Try.prog 3 #[.slice (some ⟨blk, off, none⟩) N cap, .int .i64 (i : Int)] w fun e w' => LawPost w e w' := by
  have hne := fun W => run_neq_slice_nil_any (P := Try.prog) W 22 5 (some ⟨blk, off, none⟩) N cap 0 0 Try.underlying22
  obtain ⟨i0, hi0, hz0, hz1, hz2⟩ := info_parts Try.info5
  have HB := hide hb
  clear hb
  go_enter Try.func3, Try.ntmps3
  go_wp2_with (first | (go_at_call 5; refine (bytes5 _ N cap i w hN).mono ?_; rintro e w' ⟨rfl, rfl⟩) | (at_make; refine wpList_make_full _ rfl (.tmp 26) (.tmp 26) 22 rfl w.heap.size 5 i0 (.int .u8 0) 1 Try.underlying22 hi0 hz0 hz1 .i64 .i64 _ _ N rfl rfl rfl rfl (by rw [hz2]; omega) (by unfold maxLen; omega) (Nat.le_refl _) ?_))
  intro W0 hown hgrow
  have hb0 := (Below.refl w.heap.size w).grown hgrow (Nat.le_refl _) (fun k hk => by cases hk)
  obtain ⟨cur, hcur, hcl⟩ := made_row hown
  have HC := hide hcur
  have HW := hide hb0
  have hpos : 0 < (byteCells Z N).length → (some ⟨w.heap.size, 0, none⟩ : Option Addr) = some ⟨w.heap.size, 0, none⟩ ∧ ∃ ad, (some ⟨blk, off, none⟩ : Option Addr) = some ad ∧ ∀ j v, (byteCells Z N)[j]? = some v → W0.cell? (ad.add j) = some v := by
    refine fun _ => ⟨rfl, _, rfl, fun j v hv => ?_⟩
    obtain ⟨hj, rfl⟩ := get_byteCells hv
    have hc := (HB.out j hj).1
    rw [← add_plain] at hc
    rw [hb0.cell (World.block_lt_of_cell? _ _ hc)]
    exact hc
  have HP := hide hpos

  have hn1 : (byteCells Z N).length = Nat.min N N := by rw [length_byteCells]; exact (Nat.min_self N).symm
  have hft : 0 + (byteCells Z N).length ≤ cur.length := by rw [length_byteCells, hcl]; omega
  have h1c : ∀ v ∈ byteCells Z N, v.oneCell' = true := by
    intro v hv
    obtain ⟨j, hj⟩ := List.getElem?_of_mem hv
    obtain ⟨_, rfl⟩ := get_byteCells hj
    rfl
  have HF := hide (And.intro hn1 (And.intro hft h1c))
  clear hown hgrow hcur hb0 hne hpos hcl hn1 hft h1c
  go_wp2_with (refine wpList_copy_splice rfl (.tmp 28) (.tmp 29) 22 22 rfl 5 Try.underlying22 Try.size5 (some ⟨w.heap.size, 0, none⟩) (some ⟨blk, off, none⟩) N N N cap rfl rfl w.heap.size 0 cur 5 HC.out (byteCells Z N) HF.out.1 HP.out HF.out.2.1 HF.out.2.2 w.heap.size w HW.out (Nat.le_refl _) ?_)
  intro W2 HG2 hb2
  have BY := hide (copied (fun j hj => (HB.out j hj).2) HG2.out)
  have B2 := hide hb2
  clear HG2 hb2 HP HF HC HW
  go_wp2
  go_loop [6, 7] (fun s6 s7 => ∃ t : Nat, t ≤ 5 ∧ s6 = .int .i64 (-1) ∧ s7 = .int .i64 ((i : Int) + 2 + (t : Int)) ∧ Hid (Nope N i Z t)) (fun _ s7 => (i + 7) - (intOf s7).toNat)
  case atStart => exact ⟨0, by omega, rfl, by go_num, nope_zero N i Z⟩
  case round =>
    obtain ⟨t, ht, rfl, rfl, HN⟩ := hrel
    by_cases hlt : i + 2 + t ≤ N
    · rcases (show t = 0 ∨ t = 1 ∨ t = 2 ∨ t = 3 ∨ t = 4 ∨ t = 5 by omega) with rfl | rfl | rfl | rfl | rfl | rfl
      · have K : Calls Try.prog 6 #[.slice (some ⟨w.heap.size, i + 1, none⟩) 1 (N - (i + 1))] W2 (fun e w' => e = .returned (.bool (shortB (Z (i + 1)))) ∧ W2 = w') := tail_one _ _ _ _ _ (BY.out.behind (by omega))
        cases hs : shortB (Z (i + 1))
        · rw [hs] at K
          have KK := hide K
          have NS := hide (nope_one (N := N) (by omega) hs)
          clear K
          go_wp2_with fail
          refine KK.out.mono ?_
          rintro e w' ⟨rfl, rfl⟩
          go_wp2
          go_round
          case rel => exact ⟨1, by omega, rfl, by go_num, NS⟩
          case measure => simp [intOf]; omega
        · rw [hs] at K
          have KK := hide K
          have K7 := skip7 w.heap.size 0 N N i Z W2 hN (Nat.le_refl _) hi BY.out
          rw [skipF_short (by omega) hs] at K7
          have K8 := hide K7
          clear K K7
          go_wp2_with fail
          refine KK.out.mono ?_
          rintro e w' ⟨rfl, rfl⟩
          go_wp2_with fail
          refine K8.out.mono ?_
          rintro e w' ⟨rfl, rfl⟩
          go_wp2
          go_ret
          exact ⟨by first | rfl | (simp; done) | (simp; omega), B2.out⟩
      · have NS := hide (nope_mid HN.out (by omega) (by omega))
        go_wp2_with fail
        refine (tail_mid w.heap.size (i + 1) 2 _ W2 (by omega) (by omega)).mono ?_
        rintro e w' ⟨rfl, rfl⟩
        go_wp2
        go_round
        case rel => exact ⟨2, by omega, rfl, by go_num, NS⟩
        case measure => simp [intOf]; omega
      · have NS := hide (nope_mid HN.out (by omega) (by omega))
        go_wp2_with fail
        refine (tail_mid w.heap.size (i + 1) 3 _ W2 (by omega) (by omega)).mono ?_
        rintro e w' ⟨rfl, rfl⟩
        go_wp2
        go_round
        case rel => exact ⟨3, by omega, rfl, by go_num, NS⟩
        case measure => simp [intOf]; omega
      · have NS := hide (nope_mid HN.out (by omega) (by omega))
        go_wp2_with fail
        refine (tail_mid w.heap.size (i + 1) 4 _ W2 (by omega) (by omega)).mono ?_
        rintro e w' ⟨rfl, rfl⟩
        go_wp2
        go_round
        case rel => exact ⟨4, by omega, rfl, by go_num, NS⟩
        case measure => simp [intOf]; omega
      · have hb5 := BY.out.behind (i := i) (n := 5) (by omega)
        cases hu : (Z (i + 1) != 117)
        · have hu' : Z (i + 1) = 117 := by simpa using hu
          have K : Calls Try.prog 6 #[.slice (some ⟨w.heap.size, i + 1, none⟩) 5 (N - (i + 1))] W2 (fun e w' => e = .returned (.bool (hex4 Z (i + 2))) ∧ W2 = w') := tail_five _ _ _ _ _ hb5 hu
          cases hx : hex4 Z (i + 2)
          · rw [hx] at K
            have KK := hide K
            have NS := hide (nope_five HN.out (fun h => by rw [hx] at h; exact Bool.false_ne_true h.2))
            clear K hb5 hu'
            go_wp2_with fail
            refine KK.out.mono ?_
            rintro e w' ⟨rfl, rfl⟩
            go_wp2
            go_round
            case rel => exact ⟨5, by omega, rfl, by go_num, NS⟩
            case measure => simp [intOf]; omega
          · rw [hx] at K
            have KK := hide K
            have K7 := skip7 w.heap.size 0 N N i Z W2 hN (Nat.le_refl _) hi BY.out
            rw [skipF_u (by omega) HN.out hu' hx] at K7
            have K8 := hide K7
            clear K K7 hb5 hu'
            go_wp2_with fail
            refine KK.out.mono ?_
            rintro e w' ⟨rfl, rfl⟩
            go_wp2_with fail
            refine K8.out.mono ?_
            rintro e w' ⟨rfl, rfl⟩
            go_wp2
            go_ret
            exact ⟨by first | rfl | (simp; done) | (simp; omega), B2.out⟩
        · have KK := hide (tail_noU w.heap.size (i + 1) (N - (i + 1)) _ W2 hb5 hu)
          have NS := hide (nope_five HN.out (fun h => by rw [h.1] at hu; exact absurd hu (by decide)))
          clear hb5
          go_wp2_with fail
          refine KK.out.mono ?_
          rintro e w' ⟨rfl, rfl⟩
          go_wp2
          go_round
          case rel => exact ⟨5, by omega, rfl, by go_num, NS⟩
          case measure => simp [intOf]; omega
      · have K7 := skip7 w.heap.size 0 N N i Z W2 hN (Nat.le_refl _) hi BY.out
        rw [skipF_no hi (by omega) HN.out (.inl rfl)] at K7
        have K8 := hide K7
        clear K7
        go_wp2_with fail
        refine K8.out.mono ?_
        rintro e w' ⟨rfl, rfl⟩
        go_wp2
        go_ret
        exact ⟨by first | rfl | (simp; done) | (simp; omega), B2.out⟩
    · have K7 := skip7 w.heap.size 0 N N i Z W2 hN (Nat.le_refl _) hi BY.out
      rw [skipF_no hi ht HN.out (.inr (by omega))] at K7
      have K8 := hide K7
      clear K7
      go_wp2_with fail
      refine K8.out.mono ?_
      rintro e w' ⟨rfl, rfl⟩
      go_wp2
      go_ret
      exact ⟨by first | rfl | (simp; done) | (simp; omega), B2.out⟩
end Go.Proofs.Qxb6618288a
