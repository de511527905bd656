/-
  THE LAW ITSELF, walked: 'Rows.FnKeyIndexCountMatchesFilterSaid'.
-/
import Derived.Test.Qxb6617753aCount
import Derived.Test.Qxb6617753aBytes
import Derived.Test.Qxb6617753aPre
import Derived.OwnWalk
import Derived.Deep.Slices
namespace Go.Proofs.Qxb6617753a
open Go.ChangeShapes Go.WideShapes Go.ChangeAt Go.RowKit
open Go.Proofs.Qxb6617753a.Plain

theorem Try.info9 : (Try.prog.info? 9).map (fun i => (i.zero, i.size, i.bytes)) = some (some (.string ByteArray.empty), 1, 16) := by kernel_rfl

/-- What the law answers. -/
def LawPost (w : World) (e : Ending) (w' : World) : Prop := e = .returned (.bool true) ∧ Below w.heap.size w w'
theorem law_same (w : World) : LawPost w (.returned (.bool true)) w := ⟨rfl, Below.refl _ _⟩

theorem less_of {a b : ByteArray} (h : Op.bytesLess a.toList b.toList = true) : kl a < kl b := by
  rw [less_kl, decide_eq_true_eq] at h; exact h

/-- WHAT HOLDS WHILE THE KEYS ARE GATHERED: the new row owns the keys met so far; what was there is as it was. -/
def FlatInv (w wr : World) (R : List (List ByteArray)) (i j : Nat) : Prop :=
  wr.ownsRow w.heap.size 9 1 (.slice (some ⟨w.heap.size, 0, none⟩) (preLen R i + j) (preLen R R.length)) (preLen R i + j) ((flatTo R i j).map Value.string) ∧ Below w.heap.size w wr ∧ w.heap.size < wr.heap.size

theorem flat_start {w wr : World} {R : List (List ByteArray)} (h : wr.ownsRow w.heap.size 9 1 (.slice (some ⟨w.heap.size, 0, none⟩) 0 (preLen R R.length)) 0 []) (hg : w.grownBy wr none) : FlatInv w wr R 0 0 := by
  unfold FlatInv
  rw [flatTo_zero, preLen_zero]
  refine ⟨h, (Below.refl _ _).grown hg (Nat.le_refl _) (fun k hk => by cases hk), ?_⟩
  obtain ⟨_, h | ⟨g, cap, cur, hv, hb, hh, _⟩⟩ := h
  · cases h.1
  · cases hv
    exact (Array.getElem?_eq_some_iff.1 hh).1
theorem flat_step {w wr w1 : World} {R : List (List ByteArray)} {i j : Nat} {o : Obj} (hj : j < lenAt R i) (h : FlatInv w wr R i j)
    (ho : w1.ownsRow w.heap.size 9 1 (.slice (some ⟨w.heap.size, 0, none⟩) (preLen R i + j + 1) (preLen R R.length)) (preLen R i + j + 1) ((flatTo R i j).map Value.string ++ [.string (strAt R i j)])) (hg : (wr.alloc o).grownBy w1 (some w.heap.size)) : FlatInv w w1 R i (j + 1) := by
  unfold FlatInv
  rw [flatTo_succ hj, List.map_append]
  refine ⟨ho, (h.2.1.alloc (Nat.le_of_lt h.2.2) o).grown hg (by have := h.2.2; simp; omega) (fun k hk => by cases hk; exact Nat.le_refl _), ?_⟩
  have h1 := hg.size
  have h2 := h.2.2
  simp at h1
  omega
theorem flat_next {w wr : World} {R : List (List ByteArray)} {i : Nat} (hi : i < R.length) (h : FlatInv w wr R i (lenAt R i)) : FlatInv w wr R (i + 1) 0 := by
  unfold FlatInv at *
  rw [flatTo_next hi, preLen_succ hi]
  exact h

theorem preLen_mono {R : List (List ByteArray)} {i : Nat} : ∀ d, i + d ≤ R.length → preLen R i ≤ preLen R (i + d)
  | 0, _ => Nat.le_refl _
  | d + 1, h => by
    have h1 := preLen_mono (R := R) (i := i) d (by omega)
    have h2 := preLen_succ (R := R) (r := i + d) (by omega)
    rw [show i + (d + 1) = i + d + 1 by omega, h2]
    omega
theorem preLen_top {R : List (List ByteArray)} {i : Nat} (hi : i < R.length) : preLen R i + lenAt R i ≤ preLen R R.length := by
  rw [← preLen_succ hi]
  have := preLen_mono (R := R) (i := i + 1) (R.length - (i + 1)) (by omega)
  rwa [show i + 1 + (R.length - (i + 1)) = R.length by omega] at this

/-- From the runs as they came in to the runs that the index wants. -/
theorem runsV_of {w : World} {a : Option Addr} {c : Nat} {R : List (List ByteArray)} (hg : RowsG w a R) (hf : Full R) (hcap : R.length ≤ c) : RunsV w (.slice a R.length c) R := by
  refine ⟨a, c, rfl, fun hn => ⟨hcap, ?_⟩⟩
  obtain ⟨b, off, rfl, hrow⟩ := hg hn
  have h : ∀ i, i < R.length → ∃ t : Nat × Nat × Nat, w.cell? ⟨b, off + i, none⟩ = some (.slice (some ⟨t.1, t.2.1, none⟩) (lenAt R i) t.2.2) ∧ ∀ j, j < lenAt R i → w.cell? ⟨t.1, t.2.1 + j, none⟩ = some (.string (strAt R i j)) := by
    intro i hi
    obtain ⟨ai, ci, ck, hrw⟩ := hrow i hi
    obtain ⟨b', o', rfl, hcs⟩ := hrw (hf i hi)
    exact ⟨(b', o', ci), ck, hcs⟩
  obtain ⟨f, hf'⟩ := Deep.choose_lt h
  exact ⟨b, off, fun i => (f i).1, fun i => (f i).2.1, fun i => (f i).2.2, rfl, fun i hi => (hf' i hi).1, fun i j hi hj => (hf' i hi).2 j hj⟩

/-- The keys lie in a row from the head of block g on. -/
def FlatCells (W : World) (g : Nat) (F : List ByteArray) : Prop := ∀ k, k < F.length → W.cell? ⟨g, k, none⟩ = some (.string (F.getD k ByteArray.empty))
theorem flat_cells {w wr : World} {R : List (List ByteArray)} (h : FlatInv w wr R R.length 0) : FlatCells wr w.heap.size R.flatten := by
  intro k hk
  have hl : preLen R R.length + 0 = R.flatten.length := preLen_all R
  have h1 := h.1.cellAt k (by omega)
  rw [h1, flatTo_all, List.getElem?_map, List.getElem?_eq_getElem hk]
  simp [List.getElem?_eq_getElem hk]
theorem FlatCells.below {W W1 : World} {g : Nat} {F : List ByteArray} (h : FlatCells W g F) (hb : Below W.heap.size W W1) : FlatCells W1 g F := fun k hk => cell_below hb (h k hk)

/-- All keys in one run. -/
theorem single_runs {W : World} {g m : Nat} {F : List ByteArray} (h : FlatCells W g F) (hm : m = F.length) :
    RunsV (W.alloc (.cells #[.slice (some ⟨g, 0, none⟩) m m] 24)) (.slice (some ⟨W.heap.size, 0, none⟩) 1 1) [F] := by
  subst hm
  have hb : Below W.heap.size W (W.alloc (.cells #[.slice (some ⟨g, 0, none⟩) F.length F.length] 24)) := (Below.refl _ _).alloc (Nat.le_refl _) _
  refine ⟨_, _, rfl, fun _ => ⟨Nat.le_refl _, W.heap.size, 0, fun _ => g, fun _ => 0, fun _ => F.length, rfl, fun i hi => ?_, fun i j hi hj => ?_⟩⟩
  · obtain rfl : i = 0 := by simpa using hi
    rw [World.cell?_alloc_at _ _ _ _ (by simp)]
    rfl
  · obtain rfl : i = 0 := by simpa using hi
    have h1 := h.below hb j hj
    rw [Nat.zero_add]
    exact h1
theorem single_small {F : List ByteArray} (h : F.length ≤ 1099511627776) : Small [F] := ⟨by simp, fun i hi => (by
  obtain rfl : i = 0 := by simpa using hi
  exact h)⟩
theorem single_full {F : List ByteArray} (h : 0 < F.length) : Full [F] := fun i hi => (by
  obtain rfl : i = 0 := by simpa using hi
  exact h)
theorem single_flat (F : List ByteArray) : [F].flatten = F := by simp
theorem after_alloc {w W2 W4 : World} {g : Nat} {F : List ByteArray} {o : Obj} (h : FlatCells W2 g F) (hb : Below w.heap.size w W2) (h4 : Below (W2.alloc o).heap.size (W2.alloc o) W4) : FlatCells W4 g F ∧ Below w.heap.size w W4 := by
  have hb2 : Below W2.heap.size W2 (W2.alloc o) := (Below.refl _ _).alloc (Nat.le_refl _) _
  refine ⟨(h.below hb2).below h4, (hb.alloc hb.size o).trans (h4.mono ?_)⟩
  have := hb.size
  simp
  omega
theorem after_none {w W2 W4 : World} {g : Nat} {F : List ByteArray} (h : FlatCells W2 g F) (hb : Below w.heap.size w W2) (h4 : Below W2.heap.size W2 W4) : FlatCells W4 g F ∧ Below w.heap.size w W4 :=
  ⟨h.below h4, hb.trans (h4.mono hb.size)⟩
theorem flat_nil {F : List ByteArray} {m : Nat} (hm : m = F.length) (h : ¬ 0 < m) : F = [] := List.length_eq_zero_iff.1 (by omega)
theorem none_runs (W : World) : RunsV W (.slice none 0 0) [] := ⟨_, _, rfl, fun h => absurd h (by simp)⟩

theorem keys_small {R : List (List ByteArray)} (h : RunsTo R R.length) {k : Nat} (hk : k < R.flatten.length) : (R.flatten.getD k ByteArray.empty).size ≤ 1048576 := by
  have hm : R.flatten.getD k ByteArray.empty ∈ R.flatten := by
    simp only [List.getD_eq_getElem?_getD, List.getElem?_eq_getElem hk, Option.getD_some]
    exact List.getElem_mem hk
  obtain ⟨l, hl, hs⟩ := List.mem_flatten.1 hm
  obtain ⟨i, hi, rfl⟩ := List.getElem_of_mem hl
  obtain ⟨j, hj, e⟩ := List.getElem_of_mem hs
  have hj' : j < lenAt R i := by unfold lenAt; rw [getD_run hi]; exact hj
  obtain ⟨_, e2⟩ := strAt_eq hi hj'
  rw [← e, ← e2]
  exact (h i hi).2 j hj' hj'

/-- How many of the first k keys the law counts. -/
def wantTo (F : List ByteArray) (p a : ByteArray) (k : Nat) : Nat := wantOf (F.take k) p a
/-- Is a key counted? -/
def hitB (p a s : ByteArray) : Bool := (kl p).isPrefixOf (kl s) && decide (kl a < kl s)
theorem wantTo_zero (F : List ByteArray) (p a : ByteArray) : wantTo F p a 0 = 0 := by simp [wantTo, wantOf, wantL]
theorem wantTo_all (F : List ByteArray) (p a : ByteArray) : wantTo F p a F.length = wantOf F p a := by simp [wantTo]
theorem wantTo_succ {F : List ByteArray} {p a : ByteArray} {k : Nat} (hk : k < F.length) : wantTo F p a (k + 1) = wantTo F p a k + if hitB p a (F.getD k ByteArray.empty) then 1 else 0 := by
  have e : F.getD k ByteArray.empty = F[k] := by simp [List.getD_eq_getElem?_getD, List.getElem?_eq_getElem hk]
  unfold wantTo wantOf wantL hitB
  rw [e, List.take_succ_eq_append_getElem hk, List.map_append, List.countP_append]
  simp [List.countP_cons]
theorem hit_yes {p a s : ByteArray} (h : p.data.toList.isPrefixOf s.data.toList = true) (h2 : (!Op.bytesLess s.toList a.toList) = true ∧ (!s.toList == a.toList) = true) : hitB p a s = true := by
  rw [less_kl, Lib.toList_data, Lib.toList_data] at h2
  unfold hitB
  rw [Bool.and_eq_true]
  refine ⟨h, ?_⟩
  rw [decide_eq_true_eq]
  simp only [Bool.not_eq_true', decide_eq_false_iff_not, beq_eq_false_iff_ne] at h2
  rcases lt_tri (kl a) (kl s) with h3 | h3 | h3
  · exact h3
  · exact absurd h3.symm h2.2
  · exact absurd h3 h2.1
theorem hit_no {p a s : ByteArray} (h : p.data.toList.isPrefixOf s.data.toList = false) : hitB p a s = false := by
  unfold hitB
  rw [Bool.and_eq_false_iff]
  exact .inl h
theorem hit_no2 {p a s : ByteArray} (h2 : (!Op.bytesLess s.toList a.toList) = false ∨ (!s.toList == a.toList) = false) : hitB p a s = false := by
  rw [less_kl, Lib.toList_data, Lib.toList_data] at h2
  unfold hitB
  rw [Bool.and_eq_false_iff, decide_eq_false_iff_not]
  refine .inr ?_
  simp only [Bool.not_eq_false', decide_eq_true_eq, beq_iff_eq] at h2
  rcases h2 with h2 | h2
  · exact lt_as h2
  · have e : kl s = kl a := h2
    rw [e]
    exact lt_irr _
theorem wantTo_le (F : List ByteArray) (p a : ByteArray) (k : Nat) : wantTo F p a k ≤ k := by
  unfold wantTo wantOf wantL
  refine Nat.le_trans List.countP_le_length ?_
  simp
  omega

set_option maxHeartbeats 4000000 in
set_option maxRecDepth 100000 in
theorem law3 (a : Option Addr) (c : Nat) (R : List (List ByteArray)) (p q : ByteArray) (w : World) (hR : R.length ≤ maxLen) (hcap : R.length ≤ c) (hg : RowsG w a R) (hL : ∀ i, i < R.length → lenAt R i ≤ maxLen) (hS : ∀ i j, i < R.length → j < lenAt R i → (strAt R i j).size ≤ maxLen) (hp : p.size ≤ maxLen) (hq : q.size ≤ maxLen) :
    Calls Try.prog 3 #[.slice a R.length c, .string p, .string q] w fun e w' => LawPost w e w' := by
  have K4 := hide (bytes4 a c R p q w hR hg hL hS hp hq)
  have HG := hide hg
  clear hR hg hL hS hp hq
  go_enter Try.func3, Try.ntmps3
  go_wp2_with fail
  refine K4.out.mono ?_
  rintro e w' ⟨r, rfl, rfl, h4⟩
  clear K4
  cases r
  · clear h4
    go_wp2
    go_ret
    exact law_same w
  · obtain ⟨hR, hT, hp, hq⟩ := h4 rfl
    clear h4
    have HT := hide hT
    clear hT
    go_wp2
    · go_ret
      exact law_same w
    · go_loop [7, 8] (fun s7 s8 => ∃ (i : Nat) (t : Int), i ≤ R.length ∧ s8 = .int .i64 i ∧ s7 = .int .i64 t ∧ 0 ≤ t ∧ t ≤ 1048576) (fun _ s8 => R.length - (intOf s8).toNat)
      case atStart => exact ⟨0, _, Nat.zero_le _, rfl, rfl, by omega, by omega⟩
      case round =>
        obtain ⟨i, t, hi, rfl, rfl, ht0, ht1⟩ := hrel
        by_cases hlt : i < R.length
        · obtain ⟨b, off, rfl, hrow⟩ := HG.out (by omega)
          obtain ⟨ai, ci, ck, hrw⟩ := hrow i hlt
          have HRW := hide hrw
          have hl1 := (HT.out i hlt).1
          clear hrow hrw
          go_wp2
          · go_ret; exact law_same w
          · go_loop [7, 9] (fun s7 s9 => ∃ (j : Nat) (u : Int), j ≤ lenAt R i ∧ s9 = .int .i64 j ∧ s7 = .int .i64 u ∧ 0 ≤ u ∧ u ≤ 1048576) (fun _ s9 => lenAt R i - (intOf s9).toNat)
            case atStart => exact ⟨0, _, Nat.zero_le _, rfl, rfl, by omega, by omega⟩
            case round =>
              obtain ⟨j, u, hj, rfl, rfl, hu0, hu1⟩ := hrel
              by_cases hjl : j < lenAt R i
              · obtain ⟨b', o', rfl, hcs⟩ := HRW.out (by omega)
                have cj := hcs j hjl
                have hsj := (HT.out i hlt).2 j hjl hjl
                clear hcs
                go_wp2
                · go_ret; exact law_same w
                · go_round
                  case rel => exact ⟨j + 1, _, by omega, by go_num, rfl, by omega, by omega⟩
                  case measure => simp [intOf]; omega
              · go_wp2
                go_round
                case rel => exact ⟨i + 1, _, by omega, by go_num, rfl, by omega, by omega⟩
                case measure => simp [intOf]; omega
        · go_wp2
          have z1 := lastTo_zero R
          have z2 := preLen_zero R
          have z3 : Hid (Sorted (flatTo R 0 0) ∧ FullTo R 0) := ⟨by rw [flatTo_zero]; exact List.Pairwise.nil, fun t h => absurd h (Nat.not_lt_zero _)⟩
          go_loop [10, 11, 12] (fun s10 s11 s12 => ∃ i : Nat, i ≤ R.length ∧ s12 = .int .i64 i ∧ s10 = .int .i64 (preLen R i : Nat) ∧ s11 = .string (lastTo R i 0) ∧ Hid (Sorted (flatTo R i 0) ∧ FullTo R i)) (fun _ _ s12 => R.length - (intOf s12).toNat)
          case atStart => exact ⟨0, Nat.zero_le _, rfl, by rw [z2]; go_num, by rw [z1]; rfl, z3⟩
          case round =>
            clear z1 z2 z3 hlt hi ht0 ht1
            obtain ⟨i, hi, rfl, rfl, rfl, HS⟩ := hrel
            have hpl := preLen_le (R := R) (fun t h => by have := (HT.out t h).1; omega) i hi
            by_cases hlt : i < R.length
            · obtain ⟨b, off, rfl, hrow⟩ := HG.out (by omega)
              obtain ⟨ai, ci, ck, hrw⟩ := hrow i hlt
              have HRW := hide hrw
              have hl1 := (HT.out i hlt).1
              clear hrow hrw
              by_cases hl0 : lenAt R i = 0
              · have hl0' : ((lenAt R i : Int) == 0) = true := by simp [hl0]
                clear hl0
                go_wp2
                go_ret
                exact law_same w
              · have hl0' : ((lenAt R i : Int) == 0) = false := by simp [hl0]
                have hpos : 0 < lenAt R i := by omega
                clear hl0
                obtain ⟨b', o', rfl, hcs⟩ := HRW.out hpos
                have HCS := hide hcs
                clear hcs
                go_wp2
                go_loop [10, 11, 13] (fun s10 s11 s13 => ∃ j : Nat, j ≤ lenAt R i ∧ s13 = .int .i64 j ∧ s10 = .int .i64 ((preLen R i : Int) + (j : Int)) ∧ s11 = .string (lastTo R i j) ∧ Hid (Sorted (flatTo R i j))) (fun _ _ s13 => lenAt R i - (intOf s13).toNat)
                case atStart => exact ⟨0, Nat.zero_le _, rfl, by go_num, rfl, HS.out.1⟩
                case round =>
                  obtain ⟨j, hj, rfl, rfl, rfl, HJ⟩ := hrel
                  by_cases hjl : j < lenAt R i
                  · have cj := HCS.out j hjl
                    have LS := hide (lastTo_succ hjl)
                    have ST := hide (sorted_to HJ.out hjl)
                    go_wp2
                    · go_ret; exact law_same w
                    · have hb : (!Op.bytesLess (lastTo R i j).toList (strAt R i j).toList) = false := by assumption
                      go_round
                      case rel => exact ⟨j + 1, by omega, by go_num, by go_num, by rw [LS.out], ST.out (fun _ => less_of (by simpa using hb))⟩
                      case measure => simp [intOf]; omega
                    · have hb : ¬ (0 : Int) < (preLen R i : Int) + (j : Int) := by assumption
                      go_round
                      case rel => exact ⟨j + 1, by omega, by go_num, by go_num, by rw [LS.out], ST.out (fun h => absurd h (by omega))⟩
                      case measure => simp [intOf]; omega
                  · obtain rfl : j = lenAt R i := by omega
                    have LN := hide (lastTo_next hlt)
                    have PS := hide (preLen_succ hlt)
                    have FN := hide (flatTo_next hlt)
                    go_wp2
                    go_round
                    case rel => exact ⟨i + 1, by omega, by go_num, by rw [PS.out]; go_num, by rw [LN.out], by rw [FN.out]; exact ⟨HJ.out, fullTo_succ HS.out.2 hpos⟩⟩
                    case measure => simp [intOf]; omega
            · obtain rfl : i = R.length := by omega
              rw [flatTo_all] at HS
              have hpl := preLen_le (R := R) (M := 1048576) (fun t h => (HT.out t h).1) R.length (Nat.le_refl _)
              obtain ⟨i0, hi0, hz0, hz1, hz2⟩ := info_parts Try.info9
              go_wp2_with (at_make; refine wpList_make_own _ rfl (.const (.int .i64 0)) (.tmp 118) 24 rfl w.heap.size 9 i0 (.string ByteArray.empty) 1 Try.underlying24 hi0 hz0 hz1 .i64 .i64 _ (preLen R R.length) rfl rfl rfl (by rw [hz2]; omega) (by unfold maxLen; omega) (Nat.le_refl _) ?_)
              intro W0 hown hgrow
              have FI := hide (flat_start hown hgrow)
              clear hown hgrow hz0
              have z2 := preLen_zero R
              go_wp2
              go_loopw [15, 16] (fun s15 s16 wr => ∃ i : Nat, i ≤ R.length ∧ s16 = .int .i64 i ∧ s15 = .slice (some ⟨w.heap.size, 0, none⟩) (preLen R i) (preLen R R.length) ∧ Hid (FlatInv w wr R i 0)) (fun _ s16 _ => R.length - (intOf s16).toNat)
              case atStart => exact ⟨0, Nat.zero_le _, rfl, by rw [z2], FI⟩
              case round =>
                clear z2 FI
                obtain ⟨i, hi, rfl, rfl, FI⟩ := hrel
                by_cases hlt : i < R.length
                · obtain ⟨wo, hwo⟩ : ∃ wo : World, wo = wr := ⟨_, rfl⟩
                  subst hwo
                  obtain ⟨b, off, rfl, hrow⟩ := HG.out (by omega)
                  obtain ⟨ai, ci, ck, hrw⟩ := hrow i hlt
                  have CK := hide ck
                  have hl1 := (HT.out i hlt).1
                  obtain ⟨b', o', rfl, hcs⟩ := hrw (HS.out.2 i hlt)
                  have HCS := hide hcs
                  have hmono : preLen R i + lenAt R i ≤ preLen R R.length := preLen_top hlt
                  clear hrow hrw ck hcs
                  go_wp2
                  go_loopw [15, 17] (fun s15 s17 wr => ∃ j : Nat, j ≤ lenAt R i ∧ s17 = .int .i64 j ∧ s15 = .slice (some ⟨w.heap.size, 0, none⟩) (preLen R i + j) (preLen R R.length) ∧ Hid (FlatInv w wr R i j)) (fun _ s17 _ => lenAt R i - (intOf s17).toNat)
                  case atStart => exact ⟨0, Nat.zero_le _, rfl, rfl, FI⟩
                  case round =>
                    clear FI
                    obtain ⟨j, hj, rfl, rfl, FI⟩ := hrel
                    by_cases hjl : j < lenAt R i
                    · have ck := cell_below FI.out.2.1 CK.out
                      have cj := cell_below FI.out.2.1 (HCS.out j hjl)
                      go_wp2_with (at_builtin; refine wpList_append_fits _ rfl (.tmp 135) (.tmp 143) 24 rfl w.heap.size 9 i0 1 Try.underlying24 hi0 hz1 w.heap.size (preLen R i + j) (preLen R R.length) _ rfl (FI.out.1.alloc _) ⟨wr.heap.size, 0, none⟩ 1 1 [.string (strAt R i j)] rfl rfl ?c1 ?c2 ?c3 ?_)
                      case c1 =>
                        intro j' u hj'
                        match j', hj' with
                        | 0, hj' => simp at hj'; subst hj'; simp [Addr.add]
                      case c2 => intro u hu; simp at hu; subst hu; rfl
                      case c3 => omega
                      intro w1 hown hgrow
                      have FStep := hide (flat_step hjl FI.out hown hgrow)
                      clear hown hgrow ck cj FI
                      go_wp2
                      go_roundw
                      case rel => exact ⟨j + 1, by omega, by go_num, rfl, FStep⟩
                      case measure => simp [intOf]; omega
                    · obtain rfl : j = lenAt R i := by omega
                      have ck := cell_below FI.out.2.1 CK.out
                      have PS := hide (preLen_succ hlt)
                      have FN := hide (flat_next hlt FI.out)
                      go_wp2
                      go_roundw
                      case rel => exact ⟨i + 1, by omega, by go_num, by rw [PS.out], FN⟩
                      case measure => simp [intOf]; omega
                · obtain rfl : i = R.length := by omega
                  have HF := hide (preLen_all R)
                  have K5 := hide (zz5 (.slice a R.length c) R p q wr ((runsV_of HG.out HS.out.2 hcap).below FI.out.2.1) ⟨hR, fun t h => by have := (HT.out t h).1; omega⟩ HS.out.1 HS.out.2 hp hq)
                  have FC := hide (flat_cells FI.out)
                  have HB := hide FI.out.2.1
                  clear FI
                  go_wp2_with fail
                  refine K5.out.mono ?_
                  rintro e W2 ⟨rfl, hb2⟩
                  have FC2 := hide (FC.out.below hb2)
                  have HB2 := hide (HB.out.trans (hb2.mono HB.out.size))
                  clear hb2 FC HB K5
                  by_cases hn : 0 < preLen R R.length
                  · have K5 := hide (zz5 (.slice (some ⟨W2.heap.size, 0, none⟩) 1 1) [R.flatten] p q _ (single_runs FC2.out HF.out) (single_small (by rw [← HF.out]; omega)) (by rw [single_flat]; exact HS.out.1) (single_full (by rw [← HF.out]; exact hn)) hp hq)
                    rw [single_flat] at K5
                    go_wp2_with fail
                    refine K5.out.mono ?_
                    rintro e W4 ⟨rfl, hb4⟩
                    obtain ⟨fc4, hb5⟩ := after_alloc FC2.out HB2.out hb4
                    have FC4 := hide fc4
                    have HB4 := hide hb5
                    clear hb4 fc4 hb5 K5 FC2 HB2
                    have z2 := wantTo_zero R.flatten p q
                    go_wp2
                    go_loopw [21, 22] (fun s21 s22 wr => ∃ k n : Nat, k ≤ preLen R R.length ∧ s22 = .int .i64 k ∧ s21 = .int .i64 (wantTo R.flatten p q k : Nat) ∧ W4.drewN n = wr) (fun _ s22 _ => preLen R R.length - (intOf s22).toNat)
                    case atStart => exact ⟨0, 0, Nat.zero_le _, rfl, by rw [z2]; go_num, rfl⟩
                    case round =>
                      clear z2
                      obtain ⟨k, n, hk, rfl, rfl, rfl⟩ := hrel
                      have hwl := wantTo_le R.flatten p q k
                      by_cases hlt : k < preLen R R.length
                      · have ck := FC4.out k (by rw [← HF.out]; exact hlt)
                        have hz := keys_small HT.out (k := k) (by rw [← HF.out]; exact hlt)
                        have WS := hide (wantTo_succ (p := p) (a := q) (show k < R.flatten.length by rw [← HF.out]; exact hlt))
                        generalize R.flatten.getD k ByteArray.empty = s at ck hz WS
                        go_wp2_with fail
                        refine (pre6 s p hz _).mono ?_
                        rintro e w' ⟨rfl, n2, rfl⟩
                        cases hpf : p.data.toList.isPrefixOf s.data.toList
                        · have E := hide (hit_no (a := q) hpf)
                          go_wp2
                          go_roundw
                          case rel => exact ⟨k + 1, n + n2, by omega, by go_num, by rw [WS.out, E.out]; go_num, rfl⟩
                          case measure => simp [intOf]; omega
                        · go_wp2
                          · have E := hide (hit_yes (a := q) hpf (by assumption))
                            go_roundw
                            case rel => exact ⟨k + 1, n + n2, by omega, by go_num, by rw [WS.out, E.out]; go_num, rfl⟩
                            case measure => simp [intOf]; omega
                          · have E := hide (hit_no2 (p := p) (s := s) (a := q) (by assumption))
                            go_roundw
                            case rel => exact ⟨k + 1, n + n2, by omega, by go_num, by rw [WS.out, E.out]; go_num, rfl⟩
                            case measure => simp [intOf]; omega
                      · obtain rfl : k = preLen R R.length := by omega
                        have WA : wantTo R.flatten p q (preLen R R.length) = wantOf R.flatten p q := by rw [HF.out]; exact wantTo_all _ _ _
                        rw [WA]
                        clear WA hwl
                        go_wp2
                        go_ret
                        exact ⟨rfl, below_drewN HB4.out _⟩
                  · have F0 := hide (flat_nil HF.out hn)
                    have hn' : preLen R R.length = 0 := by omega
                    have K5 := hide (zz5 (.slice none 0 0) [] p q W2 (none_runs _) ⟨by simp, fun t h => absurd h (by simp)⟩ List.Pairwise.nil (fun t h => absurd h (by simp)) hp hq)
                    rw [show ([] : List (List ByteArray)).flatten = R.flatten by rw [F0.out]; rfl] at K5
                    clear hn'
                    go_wp2_with fail
                    refine K5.out.mono ?_
                    rintro e W4 ⟨rfl, hb4⟩
                    obtain ⟨fc4, hb5⟩ := after_none FC2.out HB2.out hb4
                    have FC4 := hide fc4
                    have HB4 := hide hb5
                    clear hb4 fc4 hb5 K5 FC2 HB2
                    have z2 := wantTo_zero R.flatten p q
                    go_wp2
                    go_loopw [21, 22] (fun s21 s22 wr => ∃ k n : Nat, k ≤ preLen R R.length ∧ s22 = .int .i64 k ∧ s21 = .int .i64 (wantTo R.flatten p q k : Nat) ∧ W4.drewN n = wr) (fun _ s22 _ => preLen R R.length - (intOf s22).toNat)
                    case atStart => exact ⟨0, 0, Nat.zero_le _, rfl, by rw [z2]; go_num, rfl⟩
                    case round =>
                      clear z2
                      obtain ⟨k, n, hk, rfl, rfl, rfl⟩ := hrel
                      have hwl := wantTo_le R.flatten p q k
                      by_cases hlt : k < preLen R R.length
                      · exact absurd hlt (by omega)
                      · obtain rfl : k = preLen R R.length := by omega
                        have WA : wantTo R.flatten p q (preLen R R.length) = wantOf R.flatten p q := by rw [HF.out]; exact wantTo_all _ _ _
                        rw [WA]
                        clear WA hwl
                        go_wp2
                        go_ret
                        exact ⟨rfl, below_drewN HB4.out _⟩
end Go.Proofs.Qxb6617753a
