/-
  THE PROOF of 'Rows.FnServedBackoffDoublesAndWinResetsSaid': the row's step round the walked law.
-/
import Derived.Test.Qxb6617764aRows
import Derived.Test.Qxb6617764aLawB
import Derived.WalkKit
import Derived.ProofKit
import Derived.OpenShut
import Derived.ShutString
import Derived.ChangeOld
import Derived.Below
import Derived.Deep.Grids
namespace Go.Proofs.Qxb6617764a.fnServedBackoffDoublesAndWinResets
open Go.ChangeShapes Go.WideShapes Go.ChangeAt Go.RowKit
set_option linter.unusedVariables false

theorem own : ownKnob Try.prog.godebug = none := by kernel_rfl
theorem laidOut : laidOutB Try.prog = true := by kernel_rfl
theorem cells4 : Try.prog.cellsOf 4 = 1 := by kernel_rfl

/-- THE BOOLS, OPENED. -/
theorem view {H : Type} {enc : TypeId × Value → H} {W : World} {fuel : Nat} {a0 : Option Addr} {len0 cap0 : Nat} {x : DataW H × List MemPlace} (h : DataW.trod enc Try.prog W 0 (fun _ => true) true fuel 23 [.slice a0 len0 cap0] = some x) :
    ∃ b : Nat → Bool, len0 ≤ maxLen ∧ Bools W a0 len0 b := by
  rcases Deep.open_bools Try.underlying23 Try.underlying4 cells4 h with ⟨hcs, _⟩ | ⟨a, len, cap, B, hcs, _, hl, hm, _, hcell⟩
  · simp at hcs
    obtain ⟨rfl, rfl, rfl⟩ := hcs
    exact ⟨fun _ => false, by simp, fun hj => absurd hj (by simp)⟩
  · simp at hcs
    obtain ⟨rfl, rfl, rfl⟩ := hcs
    refine ⟨B, by omega, fun hn => ?_⟩
    obtain ⟨b, off, spot⟩ := a
    have hspot : spot = none := by simpa [Addr.add] using World.cell?_spot (hcell 0 (by omega))
    subst hspot
    refine ⟨b, off, rfl, fun k hk => ?_⟩
    rw [← add_plain]
    exact hcell k (by omega)

theorem walk (a0 a1 : Int) (a2 : Option Addr) (len2 cap2 : Nat) (b : Nat → Bool) (w : World) (w0 : (Lit.int .u32 a0).wf = true) (hl : len2 ≤ maxLen) (hb : Bools w a2 len2 b) :
    Calls Try.prog 4 #[.int .u32 a0, .int .u32 a1, .slice a2 len2 cap2] w fun e w' => LawPost w e w' := by
  have b0 := bounds_u32 w0
  by_cases h : 4096 < len2 ∨ 16383 < a0
  · exact lawB_out a0 a1 a2 len2 cap2 w hl h
  · exact lawB a0 a1 a2 len2 cap2 b w (by omega) (by omega) (by omega) hb

set_option maxRecDepth 100000 in
theorem lifted (os : Os) (started : os.Started) (H : Type) (enc : TypeId × Value → H) :
    ReturnsInHanded {} Try.checked os 4 .any (Rows.fnServedBackoffDoublesAndWinResetsSpec.pre6 enc Try.prog Try.f4 Rows.fnServedBackoffDoublesAndWinResetsRow.domain false) (Rows.fnServedBackoffDoublesAndWinResetsSpec.post enc Try.prog Try.f4 false true false false) := by
  refine returnsInHanded_of_change (C := Try.checked) own started (by kernel_rfl) Try.func4
    (ChangeSpec.witness6 (enc := enc) (C := Try.checked) false ⟨#[], #[.int .u32 0, .int .u32 0, .slice none 0 0], []⟩ 8 (by kernel_rfl) (by kernel_rfl) (by kernel_rfl) (by kernel_rfl)) ?_
  intro W base args ds gs before hval0 hW hcnd _
  have hval : ∀ (j : Nat) t v, Try.f4.params[j]? = some t → args[j]? = some v → Value.okWide Try.prog W .any base t v := hval0
  have hW' := hW
  obtain ⟨p, q, hA0, hV, rfl, hfz, hnd⟩ := hW
  have hA : DataW.TrodAll enc Try.prog W 0 (fun _ => true) true Try.f4.params.toList args.toList ds p := hA0
  rw [Try.params4] at hA hval
  obtain ⟨v0, vs0, d0, ds0, p0, q0, hargs, rfl, rfl, h0, r0⟩ := trodAll_cons hA
  obtain ⟨v1, vs1, d1, ds1, p1, q1, rfl, rfl, rfl, h1, r1⟩ := trodAll_cons r0
  obtain ⟨v2, vs2, d2, ds2, p2, q2, rfl, rfl, rfl, h2, r2⟩ := trodAll_cons r1
  obtain ⟨rfl, rfl, rfl⟩ := trodAll_nil r2
  obtain rfl : args = #[v0, v1, v2] := by cases args; simp_all
  obtain ⟨rfl, rfl⟩ := trodVars_none hV
  obtain ⟨a0, rfl, rfl, rfl, w0⟩ := open_int Try.underlying22 (hval 0 22 v0 rfl rfl) h0
  obtain ⟨a1, rfl, rfl, rfl, w1⟩ := open_int Try.underlying22 (hval 1 22 v1 rfl rfl) h1
  obtain ⟨a2, len2, cap2, rfl⟩ := okWide_slice Try.underlying23 (hval 2 23 v2 rfl rfl)
  have k2 := h2
  have lt2 : ∀ x ∈ p2, x.block < W.heap.size := by obtain ⟨m, hm⟩ := k2; exact DataW.trod_lt m _ _ _ hm
  obtain ⟨b, hl, hb⟩ : ∃ b : Nat → Bool, len2 ≤ maxLen ∧ Bools W a2 len2 b := by
    obtain ⟨fuel, hf⟩ := h2
    exact view (by simpa [Value.cells] using hf)
  clear hA0 hval0
  refine (walk a0 a1 a2 len2 cap2 b W w0 hl hb).mono fun e W' ⟨he, bel⟩ => ?_
  subst he
  exact ⟨_, rfl, _, _, _, [], _, [], hW', trodAll_mk1 (shut_bool Try.underlying4 _), (trodAll_cons_mk (shut_int Try.underlying22 w0) (trodAll_cons_mk (shut_int Try.underlying22 w1) (trodAll_cons_mk (Below.trod laidOut (by kernel_rfl) (of_decide_eq_true (by kernel_rfl)) k2 bel lt2) trodAll_mk0))), rfl, bel.frame _, fun h => by cases h⟩

theorem over : Rows.fnServedBackoffDoublesAndWinResetsRow.holds Try.pinned (OpenSpec.ofChange Rows.fnServedBackoffDoublesAndWinResetsSpec) :=
  OpenClaim.holds_of_wide 4 Try.f4 rfl rfl rfl rfl rfl rfl rfl ⟨rfl, rfl, rfl, rfl, rfl⟩ rfl rfl rfl rfl rfl (by kernel_rfl) Try.func4 (by kernel_rfl)
    (of_decide_eq_true (by kernel_rfl)) (by unfold Func.isWrapper; first | (rw [if_pos (by decide +kernel)]; kernel_rfl) | (rw [if_neg (by decide +kernel)]; exact ⟨rfl, rfl⟩))
    (fun os started H enc _ => lifted os started H enc)
end Go.Proofs.Qxb6617764a.fnServedBackoffDoublesAndWinResets
namespace Go.Proofs.Qxb6617764a
/-- THE STATEMENT. -/
theorem fnServedBackoffDoublesAndWinResets_holds : Rows.FnServedBackoffDoublesAndWinResetsSaid := fnServedBackoffDoublesAndWinResets.over
end Go.Proofs.Qxb6617764a
