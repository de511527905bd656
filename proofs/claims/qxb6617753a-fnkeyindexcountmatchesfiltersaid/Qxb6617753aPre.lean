/-
  'zzHasPrefix' of 'Rows.FnKeyIndexCountMatchesFilterSaid'.
-/
import Derived.Test.Qxb6617753aLeaf
namespace Go.Proofs.Qxb6617753a
open Go.ChangeShapes Go.WideShapes Go.ChangeAt Go.RowKit
open Go.Proofs.Qxb6617753a.Plain

theorem byte_list (s : ByteArray) (t : Nat) (h : t < s.size) : s.data.toList[t]'(by simpa using h) = s[t] := rfl
theorem pre_short {s p : ByteArray} (h : s.size < p.size) : p.data.toList.isPrefixOf s.data.toList = false := by
  rw [Bool.eq_false_iff, ne_eq, List.isPrefixOf_iff_prefix]
  intro hp
  have := hp.length_le
  simp only [Array.length_toList] at this
  have h1 : p.data.size = p.size := rfl
  have h2 : s.data.size = s.size := rfl
  omega
theorem pre_no {s p : ByteArray} {t : Nat} (h1 : t < s.size) (h2 : t < p.size) (h : ((s[t].toNat : Int) != (p[t].toNat : Int)) = true) : p.data.toList.isPrefixOf s.data.toList = false := by
  rw [Bool.eq_false_iff, ne_eq, List.isPrefixOf_iff_prefix]
  rintro ⟨r, hr⟩
  have e1 : s.data.toList[t]'(by simpa using h1) = p.data.toList[t]'(by simpa using h2) := by
    simp only [← hr]
    rw [List.getElem_append_left]
  rw [byte_list s t h1, byte_list p t h2] at e1
  rw [e1] at h
  simp at h
theorem pre_yes {s p : ByteArray} (h : ¬ s.size < p.size) (H : ∀ t (h1 : t < s.size) (h2 : t < p.size), t < p.size → s[t] = p[t]) : p.data.toList.isPrefixOf s.data.toList = true := by
  rw [List.isPrefixOf_iff_prefix, List.prefix_iff_eq_take]
  have h1 : p.data.size = p.size := rfl
  have h2 : s.data.size = s.size := rfl
  apply List.ext_getElem
  · simp; omega
  · intro i hi1 hi2
    simp only [Array.length_toList] at hi1
    rw [List.getElem_take]
    have := H i (by omega) (by omega) (by omega)
    rw [byte_list p i (by omega), byte_list s i (by omega), this]
theorem byte_eq {a b : UInt8} (h : ((a.toNat : Int) != (b.toNat : Int)) = false) : a = b := by
  simp at h
  exact UInt8.toNat_inj.1 (by omega)

set_option maxHeartbeats 400000 in
theorem pre6 (s p : ByteArray) (hs : s.size ≤ 1048576) (w : World) :
    Calls Try.prog 6 #[.string s, .string p] w fun e w' => e = .returned (.bool (p.data.toList.isPrefixOf s.data.toList)) ∧ ∃ q, w' = w.drewN q := by
  by_cases hlen : s.size < p.size
  · go_enter Try.func6, Try.ntmps6
    go_wp2
    go_ret
    exact ⟨ret_bool (pre_short hlen).symm, 0, rfl⟩
  · go_enter Try.func6, Try.ntmps6
    go_wp2
    go_loopw [5] (fun i wr => ∃ k q : Nat, k ≤ p.size ∧ i = .int .i64 k ∧ wr = w.drewN q ∧ Hid (∀ t (h1 : t < s.size) (h2 : t < p.size), t < k → s[t] = p[t])) (fun i _ => p.size - (intOf i).toNat)
    case atStart => exact ⟨0, 0, Nat.zero_le _, rfl, rfl, fun t _ _ h => absurd h (Nat.not_lt_zero _)⟩
    case round =>
      obtain ⟨k, q, hk, rfl, rfl, H⟩ := hrel
      by_cases hlt : k < p.size
      · have h1 : (k : Int) < (p.size : Int) := by omega
        have h2 : (k : Int) < (s.size : Int) := by omega
        go_wp2
        go_quiet (fail)
        go_wp2
        · go_ret
          exact ⟨ret_bool (pre_no (by omega) hlt (by assumption)).symm, q + nq, World.drewN_drewN _ _ _⟩
        · have hb : ((s[k].toNat : Int) != (p[k].toNat : Int)) = false := by assumption
          go_roundw
          case rel =>
            refine ⟨k + 1, q + nq, by omega, by go_num, rfl, fun t h3 h4 h5 => ?_⟩
            by_cases e : t = k
            · subst e; exact byte_eq hb
            · exact H.out t h3 h4 (by omega)
          case measure => simp [intOf]; omega
      · obtain rfl : k = p.size := by omega
        go_wp2
        go_ret
        exact ⟨ret_bool (pre_yes hlen H.out).symm, q, rfl⟩
end Go.Proofs.Qxb6617753a
