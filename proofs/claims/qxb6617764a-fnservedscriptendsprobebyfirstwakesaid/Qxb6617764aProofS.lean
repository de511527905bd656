/-
  THE PROOF of 'Rows.FnServedScriptEndsProbeByFirstWakeSaid': the row's step round the walked law.
-/
import Derived.Test.Qxb6617764aRows
import Derived.Test.Qxb6617764aLawS
import Derived.WalkKit
import Derived.ProofKit
import Derived.OpenShut
import Derived.ShutString
import Derived.ChangeOld
import Derived.Below
import Derived.Deep.Grids
namespace Go.Proofs.Qxb6617764a.fnServedScriptEndsProbeByFirstWake
open Go.ChangeShapes Go.WideShapes Go.ChangeAt Go.RowKit
set_option linter.unusedVariables false

theorem own : ownKnob Try.prog.godebug = none := by kernel_rfl
theorem laidOut : laidOutB Try.prog = true := by kernel_rfl
theorem cells4 : Try.prog.cellsOf 4 = 1 := by kernel_rfl

/-- THE BOOLS, OPENED. -/
theorem view {H : Type} {enc : TypeId × Value → H} {W : World} {fuel : Nat} {a0 : Option Addr} {len0 cap0 : Nat} {x : DataW H × List MemPlace} (h : DataW.trod enc Try.prog W 0 (fun _ => true) true fuel 23 [.slice a0 len0 cap0] = some x) :
    ∃ b : Nat → Bool, len0 ≤ maxLen ∧ Bools W a0 len0 b := by
  rcases Deep.open_bools Try.underlying23 Try.underlying4 cells4 h with ⟨hcs, _⟩ | ⟨a, len, cap, B, hcs, _, hl, hm, _, hcell⟩
  · simp at hcs
    obtain ⟨rfl, rfl, rfl⟩ := hcs
    exact ⟨fun _ => false, by simp, fun hj => absurd hj (by simp)⟩
  · simp at hcs
    obtain ⟨rfl, rfl, rfl⟩ := hcs
    refine ⟨B, by omega, fun hn => ?_⟩
    obtain ⟨b, off, spot⟩ := a
    have hspot : spot = none := by simpa [Addr.add] using World.cell?_spot (hcell 0 (by omega))
    subst hspot
    refine ⟨b, off, rfl, fun k hk => ?_⟩
    rw [← add_plain]
    exact hcell k (by omega)

theorem walk (a0 a1 : Int) (a2 : Bool) (a3 : Int) (a4 : Option Addr) (len4 cap4 : Nat) (b : Nat → Bool) (w : World) (w0 : (Lit.int .u32 a0).wf = true) (hl : len4 ≤ maxLen) (hb : Bools w a4 len4 b) :
    Calls Try.prog 3 #[.int .u32 a0, .int .u32 a1, .bool a2, .int .i64 a3, .slice a4 len4 cap4] w fun e w' => LawPost w e w' := by
  have b0 := bounds_u32 w0
  by_cases h : 65536 < len4 ∨ 16383 < a0 ∨ a3 < -1073741824 ∨ 1073741824 < a3
  · exact lawS_out a0 a1 a2 a3 a4 len4 cap4 w hl h
  · cases a2
    · exact lawS_off a0 a1 a3 a4 len4 cap4 b w (by omega) (by omega) (by omega) (by omega) hb
    · by_cases h16 : 16 ≤ a3
      · exact lawS_on a0 a1 a3 a4 len4 cap4 1 b w (by omega) (by omega) (by omega) (by omega) (by omega) hb (.inr ⟨rfl, h16⟩)
      · exact lawS_on a0 a1 a3 a4 len4 cap4 (16 - a3).toNat b w (by omega) (by omega) (by omega) (by omega) (by omega) hb (.inl ⟨by omega, by omega⟩)

set_option maxRecDepth 100000 in
theorem lifted (os : Os) (started : os.Started) (H : Type) (enc : TypeId × Value → H) :
    ReturnsInHanded {} Try.checked os 3 .any (Rows.fnServedScriptEndsProbeByFirstWakeSpec.pre6 enc Try.prog Try.f3 Rows.fnServedScriptEndsProbeByFirstWakeRow.domain false) (Rows.fnServedScriptEndsProbeByFirstWakeSpec.post enc Try.prog Try.f3 false true false false) := by
  refine returnsInHanded_of_change (C := Try.checked) own started (by kernel_rfl) Try.func3
    (ChangeSpec.witness6 (enc := enc) (C := Try.checked) false ⟨#[], #[.int .u32 0, .int .u32 0, .bool false, .int .i64 0, .slice none 0 0], []⟩ 8 (by kernel_rfl) (by kernel_rfl) (by kernel_rfl) (by kernel_rfl)) ?_
  intro W base args ds gs before hval0 hW hcnd _
  have hval : ∀ (j : Nat) t v, Try.f3.params[j]? = some t → args[j]? = some v → Value.okWide Try.prog W .any base t v := hval0
  have hW' := hW
  obtain ⟨p, q, hA0, hV, rfl, hfz, hnd⟩ := hW
  have hA : DataW.TrodAll enc Try.prog W 0 (fun _ => true) true Try.f3.params.toList args.toList ds p := hA0
  rw [Try.params3] at hA hval
  obtain ⟨v0, vs0, d0, ds0, p0, q0, hargs, rfl, rfl, h0, r0⟩ := trodAll_cons hA
  obtain ⟨v1, vs1, d1, ds1, p1, q1, rfl, rfl, rfl, h1, r1⟩ := trodAll_cons r0
  obtain ⟨v2, vs2, d2, ds2, p2, q2, rfl, rfl, rfl, h2, r2⟩ := trodAll_cons r1
  obtain ⟨v3, vs3, d3, ds3, p3, q3, rfl, rfl, rfl, h3, r3⟩ := trodAll_cons r2
  obtain ⟨v4, vs4, d4, ds4, p4, q4, rfl, rfl, rfl, h4, r4⟩ := trodAll_cons r3
  obtain ⟨rfl, rfl, rfl⟩ := trodAll_nil r4
  obtain rfl : args = #[v0, v1, v2, v3, v4] := by cases args; simp_all
  obtain ⟨rfl, rfl⟩ := trodVars_none hV
  obtain ⟨a0, rfl, rfl, rfl, w0⟩ := open_int Try.underlying22 (hval 0 22 v0 rfl rfl) h0
  obtain ⟨a1, rfl, rfl, rfl, w1⟩ := open_int Try.underlying22 (hval 1 22 v1 rfl rfl) h1
  obtain ⟨a2, rfl, rfl, rfl⟩ := open_bool Try.underlying4 (hval 2 4 v2 rfl rfl) h2
  obtain ⟨a3, rfl, rfl, rfl, w3⟩ := open_int Try.underlying3 (hval 3 3 v3 rfl rfl) h3
  obtain ⟨a4, len4, cap4, rfl⟩ := okWide_slice Try.underlying23 (hval 4 23 v4 rfl rfl)
  have k4 := h4
  have lt4 : ∀ x ∈ p4, x.block < W.heap.size := by obtain ⟨m, hm⟩ := k4; exact DataW.trod_lt m _ _ _ hm
  obtain ⟨b, hl, hb⟩ : ∃ b : Nat → Bool, len4 ≤ maxLen ∧ Bools W a4 len4 b := by
    obtain ⟨fuel, hf⟩ := h4
    exact view (by simpa [Value.cells] using hf)
  clear hA0 hval0
  refine (walk a0 a1 a2 a3 a4 len4 cap4 b W w0 hl hb).mono fun e W' ⟨he, bel⟩ => ?_
  subst he
  exact ⟨_, rfl, _, _, _, [], _, [], hW', trodAll_mk1 (shut_bool Try.underlying4 _), (trodAll_cons_mk (shut_int Try.underlying22 w0) (trodAll_cons_mk (shut_int Try.underlying22 w1) (trodAll_cons_mk (shut_bool Try.underlying4 _) (trodAll_cons_mk (shut_int Try.underlying3 w3) (trodAll_cons_mk (Below.trod laidOut (by kernel_rfl) (of_decide_eq_true (by kernel_rfl)) k4 bel lt4) trodAll_mk0))))), rfl, bel.frame _, fun h => by cases h⟩

theorem over : Rows.fnServedScriptEndsProbeByFirstWakeRow.holds Try.pinned (OpenSpec.ofChange Rows.fnServedScriptEndsProbeByFirstWakeSpec) :=
  OpenClaim.holds_of_wide 3 Try.f3 rfl rfl rfl rfl rfl rfl rfl ⟨rfl, rfl, rfl, rfl, rfl⟩ rfl rfl rfl rfl rfl (by kernel_rfl) Try.func3 (by kernel_rfl)
    (of_decide_eq_true (by kernel_rfl)) (by unfold Func.isWrapper; first | (rw [if_pos (by decide +kernel)]; kernel_rfl) | (rw [if_neg (by decide +kernel)]; exact ⟨rfl, rfl⟩))
    (fun os started H enc _ => lifted os started H enc)
end Go.Proofs.Qxb6617764a.fnServedScriptEndsProbeByFirstWake
namespace Go.Proofs.Qxb6617764a
/-- THE STATEMENT. -/
theorem fnServedScriptEndsProbeByFirstWake_holds : Rows.FnServedScriptEndsProbeByFirstWakeSaid := fnServedScriptEndsProbeByFirstWake.over
end Go.Proofs.Qxb6617764a
