/-
  'zzBytes_FnKeyIndexCountMatchesFilter' of 'Rows.FnKeyIndexCountMatchesFilterSaid'.
-/
import Derived.Test.Qxb6617753aLeaf
import Derived.Test.Qxb6617753aRank
namespace Go.Proofs.Qxb6617753a
open Go.ChangeShapes Go.WideShapes Go.ChangeAt Go.RowKit
open Go.Proofs.Qxb6617753a.Plain

/-- ONE RUN IN MEMORY, empty or not. -/
def RowAt (w : World) (R : List (List ByteArray)) (i : Nat) (ai : Option Addr) : Prop :=
  0 < lenAt R i → ∃ b' o', ai = some ⟨b', o', none⟩ ∧ ∀ j, j < lenAt R i → w.cell? ⟨b', o' + j, none⟩ = some (.string (strAt R i j))
/-- THE RUNS IN MEMORY, empty ones among them. -/
def RowsG (w : World) (a : Option Addr) (R : List (List ByteArray)) : Prop :=
  0 < R.length → ∃ b off, a = some ⟨b, off, none⟩ ∧ ∀ i, i < R.length → ∃ ai ci, w.cell? ⟨b, off + i, none⟩ = some (.slice ai (lenAt R i) ci) ∧ RowAt w R i ai

/-- What the bound says of run i's keys below j. -/
def KeysTo (R : List (List ByteArray)) (i j : Nat) : Prop := ∀ t, t < j → t < lenAt R i → (strAt R i t).size ≤ 1048576
/-- What the bound says of the runs below i. -/
def RunsTo (R : List (List ByteArray)) (i : Nat) : Prop := ∀ t, t < i → lenAt R t ≤ 1048576 ∧ KeysTo R t (lenAt R t)

theorem keys_zero (R : List (List ByteArray)) (i : Nat) : KeysTo R i 0 := fun _ h => absurd h (Nat.not_lt_zero _)
theorem runs_zero (R : List (List ByteArray)) : RunsTo R 0 := fun _ h => absurd h (Nat.not_lt_zero _)
theorem keys_succ {R : List (List ByteArray)} {i j : Nat} (h : KeysTo R i j) (hj : (strAt R i j).size ≤ 1048576) : KeysTo R i (j + 1) := fun t h1 h2 => by
  by_cases e : t = j
  · rw [e]; exact hj
  · exact h t (by omega) h2
theorem runs_succ {R : List (List ByteArray)} {i : Nat} (h : RunsTo R i) (hl : lenAt R i ≤ 1048576) (hk : KeysTo R i (lenAt R i)) : RunsTo R (i + 1) := fun t h1 => by
  by_cases e : t = i
  · rw [e]; exact ⟨hl, hk⟩
  · exact h t (by omega)

/-- What 'zzBytes' answers. -/
def BytesPost (R : List (List ByteArray)) (p q : ByteArray) (w : World) (e : Ending) (w' : World) : Prop :=
  ∃ r : Bool, e = .returned (.bool r) ∧ w = w' ∧ (r = true → R.length ≤ 1048576 ∧ RunsTo R R.length ∧ p.size ≤ 1048576 ∧ q.size ≤ 1048576)
theorem post_no (R : List (List ByteArray)) (p q : ByteArray) (w : World) : BytesPost R p q w (.returned (.bool false)) w := ⟨false, rfl, rfl, fun h => (Bool.false_ne_true h).elim⟩
theorem post_yes {R : List (List ByteArray)} {p q : ByteArray} (w : World) (h : R.length ≤ 1048576) (h2 : RunsTo R R.length) (h3 : p.size ≤ 1048576) (h4 : q.size ≤ 1048576) : BytesPost R p q w (.returned (.bool true)) w := ⟨true, rfl, rfl, fun _ => ⟨h, h2, h3, h4⟩⟩

set_option maxHeartbeats 1000000 in
theorem bytes4 (a : Option Addr) (c : Nat) (R : List (List ByteArray)) (p q : ByteArray) (w : World) (hR : R.length ≤ maxLen) (hg : RowsG w a R) (hL : ∀ i, i < R.length → lenAt R i ≤ maxLen) (hS : ∀ i j, i < R.length → j < lenAt R i → (strAt R i j).size ≤ maxLen) (hp : p.size ≤ maxLen) (hq : q.size ≤ maxLen) :
    Calls Try.prog 4 #[.slice a R.length c, .string p, .string q] w fun e w' => BytesPost R p q w e w' := by
  have HG := hide hg
  have HL := hide hL
  have HS := hide hS
  clear hg hL hS
  unfold maxLen at *
  by_cases hR2 : R.length ≤ 1048576
  · go_enter Try.func4, Try.ntmps4
    go_wp2
    go_loop [7, 8] (fun s7 s8 => ∃ (i : Nat) (t : Int), i ≤ R.length ∧ s8 = .int .i64 i ∧ s7 = .int .i64 t ∧ 0 ≤ t ∧ t ≤ 1048576 ∧ Hid (RunsTo R i)) (fun _ s8 => R.length - (intOf s8).toNat)
    case atStart => exact ⟨0, _, Nat.zero_le _, rfl, rfl, by omega, by omega, runs_zero R⟩
    case round =>
      obtain ⟨i, t, hi, rfl, rfl, ht0, ht1, HT⟩ := hrel
      by_cases hlt : i < R.length
      · obtain ⟨b, off, rfl, hrow⟩ := HG.out (by omega)
        obtain ⟨ai, ci, ck, hrw⟩ := hrow i hlt
        have HRW := hide hrw
        have hll := HL.out i hlt
        clear hrow hrw
        go_wp2
        · go_ret; exact post_no _ _ _ _
        · go_ret; exact post_no _ _ _ _
        · have hl1 : lenAt R i ≤ 1048576 := by omega
          go_loop [7, 9] (fun s7 s9 => ∃ (j : Nat) (u : Int), j ≤ lenAt R i ∧ s9 = .int .i64 j ∧ s7 = .int .i64 u ∧ 0 ≤ u ∧ u ≤ 1048576 ∧ Hid (KeysTo R i j)) (fun _ s9 => lenAt R i - (intOf s9).toNat)
          case atStart => exact ⟨0, _, Nat.zero_le _, rfl, rfl, by omega, by omega, keys_zero R i⟩
          case round =>
            obtain ⟨j, u, hj, rfl, rfl, hu0, hu1, HK⟩ := hrel
            by_cases hjl : j < lenAt R i
            · obtain ⟨b', o', rfl, hcs⟩ := HRW.out (by omega)
              have cj := hcs j hjl
              have hsj := HS.out i j hlt hjl
              clear hcs
              go_wp2
              · go_ret; exact post_no _ _ _ _
              · go_ret; exact post_no _ _ _ _
              · have hz : (strAt R i j).size ≤ 1048576 := by omega
                go_round
                case rel => exact ⟨j + 1, _, by omega, by go_num, rfl, by omega, by omega, keys_succ HK.out hz⟩
                case measure => simp [intOf]; omega
            · obtain rfl : j = lenAt R i := by omega
              go_wp2
              go_round
              case rel => exact ⟨i + 1, _, by omega, by go_num, rfl, by omega, by omega, runs_succ HT.out hl1 HK.out⟩
              case measure => simp [intOf]; omega
      · obtain rfl : i = R.length := by omega
        go_wp2
        · go_ret; exact post_no _ _ _ _
        · go_ret; exact post_no _ _ _ _
        · go_ret; exact post_no _ _ _ _
        · go_ret; exact post_no _ _ _ _
        · go_ret; exact post_yes _ hR2 HT.out (by omega) (by omega)
  · go_enter Try.func4, Try.ntmps4
    go_wp2
    go_ret
    exact post_no _ _ _ _
end Go.Proofs.Qxb6617753a
