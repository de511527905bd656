/-
  THE PROOF of 'Rows.FnKeyIndexCountMatchesFilterSaid': the row's step round the walked law.
-/
import Derived.Test.Qxb6617753aRows
import Derived.Test.Qxb6617753aLaw
import Derived.WalkKit
import Derived.ProofKit
import Derived.OpenShut
import Derived.ShutString
import Derived.ChangeOld
import Derived.Below
import Derived.Deep.Strs
namespace Go.Proofs.Qxb6617753a.fnKeyIndexCountMatchesFilter
open Go.ChangeShapes Go.WideShapes Go.ChangeAt Go.RowKit
open Go.ChangeMaps (open_string shut_string)
open Go.Proofs.Qxb6617753a.Plain
set_option linter.unusedVariables false

theorem own : ownKnob Try.prog.godebug = none := by kernel_rfl
theorem laidOut : laidOutB Try.prog = true := by kernel_rfl
theorem cells24 : Try.prog.cellsOf 24 = 1 := by kernel_rfl
theorem cells9 : Try.prog.cellsOf 9 = 1 := by kernel_rfl

theorem lenAt_map {y : Nat → List ByteArray} {n i : Nat} (hi : i < n) : lenAt ((List.range n).map y) i = (y i).length := by
  simp [lenAt, List.getD, List.getElem?_range hi]
theorem strAt_map {y : Nat → List ByteArray} {n i j : Nat} (hi : i < n) : strAt ((List.range n).map y) i j = (y i).getD j ByteArray.empty := by
  simp [strAt, List.getD, List.getElem?_range hi]

/-- ONE RUN, OPENED. -/
theorem view_row {H : Type} {enc : TypeId × Value → H} {W : World} {fuel : Nat} {v : Value} {x : DataW H × List MemPlace} (h : DataW.trod enc Try.prog W 0 (fun _ => true) true fuel 24 [v] = some x) :
    ∃ (l : List ByteArray) (ai : Option Addr) (ci : Nat), v = .slice ai l.length ci ∧ l.length ≤ maxLen ∧ (∀ j, j < l.length → (l.getD j ByteArray.empty).size ≤ maxLen) ∧
      (0 < l.length → ∃ b' o', ai = some ⟨b', o', none⟩ ∧ ∀ j, j < l.length → W.cell? ⟨b', o' + j, none⟩ = some (.string (l.getD j ByteArray.empty))) := by
  rcases Deep.open_strs Try.underlying24 Try.underlying9 cells9 h with ⟨hcs, _⟩ | ⟨a, len, cap, m, S, hcs, _, hl, hm, hmm, _, hx⟩
  · refine ⟨[], none, 0, by simpa using hcs, by simp, fun j hj => absurd hj (by simp), fun hj => absurd hj (by simp)⟩
  · simp only [if_true] at hmm
    subst hmm
    have e : ∀ j, j < len → ((List.range len).map S).getD j ByteArray.empty = S j := fun j hj => by simp [List.getD, List.getElem?_range hj]
    refine ⟨(List.range len).map S, some a, m, by simpa using hcs, by simp; omega, fun j hj => ?_, fun hpos => ?_⟩
    · have hj' : j < len := by simpa using hj
      rw [e j hj']
      exact (hx j (by omega)).2
    · have hlen : 0 < len := by simpa using hpos
      obtain ⟨b, off, spot⟩ := a
      have hspot : spot = none := by simpa [Addr.add] using World.cell?_spot (hx 0 (by omega)).1
      subst hspot
      refine ⟨b, off, rfl, fun j hj => ?_⟩
      have hj' : j < len := by simpa using hj
      rw [e j hj', ← add_plain]
      exact (hx j (by omega)).1

/-- THE RUNS, OPENED. -/
theorem view {H : Type} {enc : TypeId × Value → H} {W : World} {fuel : Nat} {a0 : Option Addr} {len0 cap0 : Nat} {x : DataW H × List MemPlace} (h : DataW.trod enc Try.prog W 0 (fun _ => true) true fuel 22 [.slice a0 len0 cap0] = some x) :
    ∃ R : List (List ByteArray), len0 = R.length ∧ R.length ≤ cap0 ∧ R.length ≤ maxLen ∧ RowsG W a0 R ∧ (∀ i, i < R.length → lenAt R i ≤ maxLen) ∧ (∀ i j, i < R.length → j < lenAt R i → (strAt R i j).size ≤ maxLen) := by
  rcases Deep.open_slice1 Try.underlying22 cells24 h with ⟨hcs, _⟩ | ⟨a, len, cap, m, n, V, D, Pl, hcs, _, hl, hm, hmm, _, hx⟩
  · simp at hcs
    obtain ⟨rfl, rfl, rfl⟩ := hcs
    exact ⟨[], rfl, by simp, by simp, fun hj => absurd hj (by simp), fun i hi => absurd hi (by simp), fun i j hi => absurd hi (by simp)⟩
  · simp at hcs
    obtain ⟨rfl, rfl, rfl⟩ := hcs
    simp only [if_true] at hmm
    subst hmm
    have h1 : ∀ i, i < len0 → ∃ l : List ByteArray, ∃ (ai : Option Addr) (ci : Nat), V i = .slice ai l.length ci ∧ l.length ≤ maxLen ∧ (∀ j, j < l.length → (l.getD j ByteArray.empty).size ≤ maxLen) ∧
      (0 < l.length → ∃ b' o', ai = some ⟨b', o', none⟩ ∧ ∀ j, j < l.length → W.cell? ⟨b', o' + j, none⟩ = some (.string (l.getD j ByteArray.empty))) :=
      fun i hi => view_row (hx i (by omega)).2
    obtain ⟨y, hy⟩ := Deep.choose_lt h1
    refine ⟨(List.range len0).map y, by simp, by simp; omega, by simp; omega, fun hn => ?_, fun i hi => ?_, fun i j hi hj => ?_⟩
    · have hn' : 0 < len0 := by simpa using hn
      obtain ⟨b, off, spot⟩ := a
      have hspot : spot = none := by simpa [Addr.add] using World.cell?_spot (hx 0 (by omega)).1
      subst hspot
      refine ⟨b, off, rfl, fun i hi => ?_⟩
      have hi' : i < len0 := by simpa using hi
      obtain ⟨ai, ci, hv, _, _, hr⟩ := hy i hi'
      refine ⟨ai, ci, ?_, ?_⟩
      · rw [lenAt_map hi', ← add_plain, (hx i (by omega)).1, hv]
      · intro hp
        rw [lenAt_map hi'] at hp
        obtain ⟨b', o', e, hc⟩ := hr hp
        refine ⟨b', o', e, fun j hj => ?_⟩
        rw [lenAt_map hi'] at hj
        rw [strAt_map hi']
        exact hc j hj
    · have hi' : i < len0 := by simpa using hi
      rw [lenAt_map hi']
      obtain ⟨_, _, _, h2, _⟩ := hy i hi'
      exact h2
    · have hi' : i < len0 := by simpa using hi
      rw [lenAt_map hi'] at hj
      rw [strAt_map hi']
      obtain ⟨_, _, _, _, h3, _⟩ := hy i hi'
      exact h3 j hj

set_option maxRecDepth 100000 in
theorem lifted (os : Os) (started : os.Started) (H : Type) (enc : TypeId × Value → H) :
    ReturnsInHanded {} Try.checked os 3 .any (Rows.fnKeyIndexCountMatchesFilterSpec.pre6 enc Try.prog Try.f3 Rows.fnKeyIndexCountMatchesFilterRow.domain false) (Rows.fnKeyIndexCountMatchesFilterSpec.post enc Try.prog Try.f3 false true false false) := by
  refine returnsInHanded_of_change (C := Try.checked) own started (by kernel_rfl) Try.func3
    (ChangeSpec.witness6 (enc := enc) (C := Try.checked) false ⟨#[], #[.slice none 0 0, .string ByteArray.empty, .string ByteArray.empty], []⟩ 8 (by kernel_rfl) (by kernel_rfl) (by kernel_rfl) (by kernel_rfl)) ?_
  intro W base args ds gs before hval0 hW hcnd _
  have hval : ∀ (j : Nat) t v, Try.f3.params[j]? = some t → args[j]? = some v → Value.okWide Try.prog W .any base t v := hval0
  have hW' := hW
  obtain ⟨p, q, hA0, hV, rfl, hfz, hnd⟩ := hW
  have hA : DataW.TrodAll enc Try.prog W 0 (fun _ => true) true Try.f3.params.toList args.toList ds p := hA0
  rw [Try.params3] at hA hval
  obtain ⟨v0, vs0, d0, ds0, p0, q0, hargs, rfl, rfl, h0, r0⟩ := trodAll_cons hA
  obtain ⟨v1, vs1, d1, ds1, p1, q1, rfl, rfl, rfl, h1, r1⟩ := trodAll_cons r0
  obtain ⟨v2, vs2, d2, ds2, p2, q2, rfl, rfl, rfl, h2, r2⟩ := trodAll_cons r1
  obtain ⟨rfl, rfl, rfl⟩ := trodAll_nil r2
  obtain rfl : args = #[v0, v1, v2] := by cases args; simp_all
  obtain ⟨rfl, rfl⟩ := trodVars_none hV
  obtain ⟨a0, len0, cap0, rfl⟩ := okWide_slice Try.underlying22 (hval 0 22 v0 rfl rfl)
  have k0 := h0
  have lt0 : ∀ x ∈ p0, x.block < W.heap.size := by obtain ⟨m, hm⟩ := k0; exact DataW.trod_lt m _ _ _ hm
  obtain ⟨R, rfl, hcap, hR, hg, hL, hS⟩ : ∃ R : List (List ByteArray), len0 = R.length ∧ R.length ≤ cap0 ∧ R.length ≤ maxLen ∧ RowsG W a0 R ∧ (∀ i, i < R.length → lenAt R i ≤ maxLen) ∧ (∀ i j, i < R.length → j < lenAt R i → (strAt R i j).size ≤ maxLen) := by
    obtain ⟨fuel, hf⟩ := h0
    exact view (by simpa [Value.cells] using hf)
  obtain ⟨s1, rfl, rfl, rfl, hs1⟩ := open_string Try.underlying9 (hval 1 9 v1 rfl rfl) h1
  obtain ⟨s2, rfl, rfl, rfl, hs2⟩ := open_string Try.underlying9 (hval 2 9 v2 rfl rfl) h2
  clear hA0 hval0
  refine (law3 a0 cap0 R s1 s2 W hR hcap hg hL hS hs1 hs2).mono fun e W' ⟨he, bel⟩ => ?_
  subst he
  exact ⟨_, rfl, _, _, _, [], _, [], hW', trodAll_mk1 (shut_bool Try.underlying4 _), (trodAll_cons_mk (Below.trod laidOut (by kernel_rfl) (of_decide_eq_true (by kernel_rfl)) k0 bel lt0) (trodAll_cons_mk (shut_string Try.underlying9 hs1) (trodAll_cons_mk (shut_string Try.underlying9 hs2) trodAll_mk0))), rfl, bel.frame _, fun h => by cases h⟩

theorem over : Rows.fnKeyIndexCountMatchesFilterRow.holds Try.pinned (OpenSpec.ofChange Rows.fnKeyIndexCountMatchesFilterSpec) :=
  OpenClaim.holds_of_wide 3 Try.f3 rfl rfl rfl rfl rfl rfl rfl ⟨rfl, rfl, rfl, rfl, rfl⟩ rfl rfl rfl rfl rfl (by kernel_rfl) Try.func3 (by kernel_rfl)
    (of_decide_eq_true (by kernel_rfl)) (by unfold Func.isWrapper; first | (rw [if_pos (by decide +kernel)]; kernel_rfl) | (rw [if_neg (by decide +kernel)]; exact ⟨rfl, rfl⟩))
    (fun os started H enc _ => lifted os started H enc)
end Go.Proofs.Qxb6617753a.fnKeyIndexCountMatchesFilter
namespace Go.Proofs.Qxb6617753a
/-- THE STATEMENT. -/
theorem fnKeyIndexCountMatchesFilter_holds : Rows.FnKeyIndexCountMatchesFilterSaid := fnKeyIndexCountMatchesFilter.over
end Go.Proofs.Qxb6617753a
