/-
  'count', 'ZZKeyIndexCount' of 'Rows.FnKeyIndexCountMatchesFilterSaid'.
-/
import Derived.Test.Qxb6617753aIdx
import Derived.Test.Qxb6617753aEnd
namespace Go.Proofs.Qxb6617753a
open Go.ChangeShapes Go.WideShapes Go.ChangeAt Go.RowKit
open Go.Proofs.Qxb6617753a.Plain

/-- THE SLICE VALUE v LEADS TO THE RUNS R. -/
def RunsV (w : World) (v : Value) (R : List (List ByteArray)) : Prop :=
  ∃ a c, v = .slice a R.length c ∧ (0 < R.length → R.length ≤ c ∧ ∃ b off B O C, a = some ⟨b, off, none⟩ ∧ Runs w b off R B O C)
/-- THE BOX ib HOLDS A SLICE THAT LEADS TO THE RUNS R. -/
def Idx (w : World) (ib : Nat) (R : List (List ByteArray)) : Prop := ∃ v, w.cell? ⟨ib, 0, none⟩ = some v ∧ RunsV w v R

theorem cell_below {w w1 : World} (hb : Below w.heap.size w w1) {a : Addr} {v : Value} (h : w.cell? a = some v) : w1.cell? a = some v := by
  rw [hb.cell (World.block_lt_of_cell? _ _ h)]; exact h
theorem Runs.below {w w1 : World} {b off : Nat} {R : List (List ByteArray)} {B O C : Nat → Nat} (h : Runs w b off R B O C) (hb : Below w.heap.size w w1) : Runs w1 b off R B O C :=
  ⟨fun i hi => cell_below hb (h.1 i hi), fun i j hi hj => cell_below hb (h.2 i j hi hj)⟩
theorem RunsV.below {w w1 : World} {v : Value} {R : List (List ByteArray)} (h : RunsV w v R) (hb : Below w.heap.size w w1) : RunsV w1 v R := by
  obtain ⟨a, c, e, h⟩ := h
  refine ⟨a, c, e, fun hn => ?_⟩
  obtain ⟨hc, b, off, B, O, C, e1, hr⟩ := h hn
  exact ⟨hc, b, off, B, O, C, e1, hr.below hb⟩
theorem Idx.below {w w1 : World} {ib : Nat} {R : List (List ByteArray)} (h : Idx w ib R) (hb : Below w.heap.size w w1) : Idx w1 ib R := by
  obtain ⟨v, hc, hv⟩ := h
  exact ⟨v, cell_below hb hc, hv.below hb⟩

theorem rank9 (ib : Nat) (R : List (List ByteArray)) (x : ByteArray) (w : World) (hi : Idx w ib R) (hsm : Small R) (hs : Sorted R.flatten) (hf : Full R) :
    Calls Try.prog 9 #[.pointer (some ⟨ib, 0, none⟩), .string x] w fun e w' => e = .returned (.int .i64 (rankOf R.flatten x)) ∧ w = w' := by
  obtain ⟨v, hc, a, c, rfl, h⟩ := hi
  by_cases hn : 0 < R.length
  · obtain ⟨hcap, b, off, B, O, C, rfl, hr⟩ := h hn
    exact rank9_some ib b off c R B O C x w hn hc hr hsm hs hf hcap
  · obtain rfl : R = [] := List.length_eq_zero_iff.1 (by omega)
    refine (rank9_none ib c a x w hc).mono ?_
    rintro e w' ⟨rfl, rfl⟩
    exact ⟨rfl, rfl⟩

/-- The keys that the law counts. -/
def wantOf (F : List ByteArray) (p a : ByteArray) : Nat := wantL (F.map kl) (kl p) (kl a)

theorem maxS_kl (p a : ByteArray) : kl (Lib.maxS p (a ++ ⟨#[0]⟩)) = maxL (kl p) (kl a ++ [0]) := by
  have e : kl (a ++ ⟨#[0]⟩) = kl a ++ [0] := by
    unfold kl
    rw [ByteArray.data_append, Array.toList_append]
  unfold Lib.maxS maxL
  rw [← e]
  unfold kl
  split <;> rfl

theorem count_true {F : List ByteArray} {p a lim : ByteArray} (h : EndOf p lim true) : max (0 : Int) ((rankOf F lim : Int) - (rankOf F (Lib.maxS p (a ++ ⟨#[0]⟩)) : Int)) = (wantOf F p a : Int) := by
  obtain ⟨u, c, t, e1, hc, ht, e2⟩ := h.1 rfl
  unfold wantOf
  rw [rankOf_map, rankOf_map, maxS_kl]
  have e1' : kl p = u ++ c :: t := e1
  have e2' : kl lim = u ++ [c + 1] := e2
  rw [e1', e2', want_lim u c t hc ht]
theorem count_false {F : List ByteArray} {p a lim : ByteArray} (h : EndOf p lim false) : max (0 : Int) ((F.length : Int) - (rankOf F (Lib.maxS p (a ++ ⟨#[0]⟩)) : Int)) = (wantOf F p a : Int) := by
  unfold wantOf
  rw [rankOf_map, maxS_kl, want_ff (kl p) (h.2 rfl), List.length_map]

set_option maxHeartbeats 1000000 in
theorem count7 (ib : Nat) (R : List (List ByteArray)) (p a : ByteArray) (w : World) (hi : Idx w ib R) (hsm : Small R) (hs : Sorted R.flatten) (hf : Full R) (hp : p.size ≤ 1048576) (ha : a.size ≤ 1048576) :
    Calls Try.prog 7 #[.pointer (some ⟨ib, 0, none⟩), .string p, .string a] w fun e w' => e = .returned (.int .i64 (wantOf R.flatten p a)) ∧ Below w.heap.size w w' := by
  have HI := hide hi
  have HS := hide hs
  have HF := hide hf
  have hlen : R.length ≤ 1048576 := hsm.1
  have HSM := hide hsm
  clear hi hs hf hsm
  have hmx := fun W => Lib.run_max_strs (P := Try.prog) W #[9, 9] 9 p (a ++ ⟨#[0]⟩)
  go_enter Try.func7, Try.ntmps7
  go_wp2_with fail
  refine (end8 p hp w).mono ?_
  rintro e w1 ⟨lim, ok, rfl, hlim, h8, hb⟩
  have H8 := hide h8
  have HB := hide hb
  have I1 := hide (HI.out.below hb)
  clear h8 hb
  have rk := fun y => hide (rank9 ib R y w1 I1.out HSM.out HS.out HF.out)
  have r1 := rank_le R.flatten lim
  have r2 := rank_le R.flatten (Lib.maxS p (a ++ ⟨#[0]⟩))
  have r3 := preLen_le HSM.out.2 R.length (Nat.le_refl _)
  rw [preLen_all] at r3
  cases ok
  · obtain ⟨v, hc, a0, c, rfl, h⟩ := I1.out
    have HH := hide h
    clear h
    have P0 := preLen_zero R
    have E := hide (count_false (F := R.flatten) (a := a) H8.out)
    go_wp2
    go_loop [7, 26] (fun s7 s26 => ∃ k : Nat, k ≤ R.length ∧ s26 = .int .i64 k ∧ s7 = .int .i64 (preLen R k : Nat)) (fun _ s26 => R.length - (intOf s26).toNat)
    case atStart => exact ⟨0, Nat.zero_le _, rfl, by rw [P0]; go_num⟩
    case round =>
      clear P0
      obtain ⟨k, hk, rfl, rfl⟩ := hrel
      have hp' := preLen_le HSM.out.2 k hk
      by_cases hlt : k < R.length
      · obtain ⟨_, b, off, B, O, C, rfl, hr⟩ := HH.out (by omega)
        have ck := hr.1 k hlt
        have hlk := HSM.out.2 k hlt
        have PS := hide (preLen_succ hlt)
        clear hr
        go_wp2
        go_round
        case rel => exact ⟨k + 1, by omega, by go_num, by rw [PS.out]; go_num⟩
        case measure => simp [intOf]; omega
      · obtain rfl : k = R.length := by omega
        have PA := hide (preLen_all R)
        go_wp2_with fail
        refine (rk _).out.mono ?_
        rintro e w' ⟨rfl, rfl⟩
        go_wp2
        go_ret
        exact ⟨ret_int (by rw [← E.out, ← PA.out]), HB.out⟩
  · go_wp2_with fail
    refine (rk lim).out.mono ?_
    rintro e w' ⟨rfl, rfl⟩
    go_wp2_with fail
    refine (rk _).out.mono ?_
    rintro e w' ⟨rfl, rfl⟩
    have E := hide (count_true (F := R.flatten) (a := a) H8.out)
    go_wp2
    go_ret
    exact ⟨ret_int E.out, HB.out⟩

/-- 'ZZKeyIndexCount' -/
theorem zz5 (v : Value) (R : List (List ByteArray)) (p a : ByteArray) (w : World) (hv : RunsV w v R) (hsm : Small R) (hs : Sorted R.flatten) (hf : Full R) (hp : p.size ≤ 1048576) (ha : a.size ≤ 1048576) :
    Calls Try.prog 5 #[v, .string p, .string a] w fun e w' => e = .returned (.int .i64 (wantOf R.flatten p a)) ∧ Below w.heap.size w w' := by
  have hb : Below w.heap.size w (w.alloc (.cells #[v] 29)) := (Below.refl _ _).alloc (Nat.le_refl _) _
  have hc : (w.alloc (.cells #[v] 29)).cell? ⟨w.heap.size, 0, none⟩ = some v := by
    rw [World.cell?_alloc_at _ _ _ _ (by simp)]; rfl
  have K := hide (count7 w.heap.size R p a (w.alloc (.cells #[v] 29)) ⟨v, hc, hv.below hb⟩ hsm hs hf hp ha)
  have HB := hide hb
  obtain ⟨a0, c, rfl, _⟩ := hv
  clear hb hc hsm hs hf
  go_enter Try.func5, Try.ntmps5
  go_wp2_with fail
  refine K.out.mono ?_
  rintro e w1 ⟨rfl, h1⟩
  have H1 := hide h1
  clear h1
  go_wp2
  go_ret
  exact ⟨rfl, HB.out.trans (H1.out.mono (by simp))⟩
end Go.Proofs.Qxb6617753a
