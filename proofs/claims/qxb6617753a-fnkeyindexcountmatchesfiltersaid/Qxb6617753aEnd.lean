/-
  'prefixEnd' of 'Rows.FnKeyIndexCountMatchesFilterSaid'.
-/
import Derived.Test.Qxb6617753aLeaf
import Derived.Laws.IdiomStrings
namespace Go.Proofs.Qxb6617753a
open Go.ChangeShapes Go.WideShapes Go.ChangeAt Go.RowKit
open Go.Proofs.Qxb6617753a.Plain

theorem conv_one (w : World) (x : UInt8) (n : Int) (h : n = (x.toNat : Int)) :
    (convert 34 9 (.slice (some ⟨w.heap.size, 0, none⟩) 1 1)).run Try.prog ((w.alloc (.cells #[.int .u8 n] 5)).drew) = .ok (.string ⟨#[x]⟩) ((w.alloc (.cells #[.int .u8 n] 5)).drew) := by
  have := run_convert_bytes_back (P := Try.prog) ((w.alloc (.cells #[.int .u8 n] 5)).drew) 34 9 5 ⟨w.heap.size, 0, none⟩ 1 [x] Try.underlying34 Try.underlying5 Try.underlying9 (by
    intro j hj
    match j, hj with
    | 0, _ => subst h; simp [Addr.add])
  exact this
theorem succ_byte (x : UInt8) : ((x.toNat : Int) + 1) % 256 = ((x + 1).toNat : Int) := by
  rw [UInt8.toNat_add]
  show _ = (((x.toNat + 1) % 256 : Nat) : Int)
  omega

/-- What 'prefixEnd' answers: the end's bytes, or that every byte is 255. -/
def EndOf (p lim : ByteArray) (ok : Bool) : Prop :=
  (ok = true → ∃ (a : List UInt8) (c : UInt8) (t : List UInt8), p.data.toList = a ++ c :: t ∧ c ≠ 255 ∧ (∀ x ∈ t, x = 255) ∧ lim.data.toList = a ++ [c + 1]) ∧ (ok = false → ∀ x ∈ p.data.toList, x = 255)

theorem endOf_true (p : ByteArray) (m : Nat) (hm : m < p.size) (hc : (((p[m].toNat : Nat) : Int) != 255) = true) (H : ∀ t (h1 : t < p.size), m + 1 ≤ t → p[t] = 255) :
    EndOf p (p.extract 0 m ++ ⟨#[p[m] + 1]⟩) true := by
  refine ⟨fun _ => ⟨p.data.toList.take m, p[m], p.data.toList.drop (m + 1), ?_, ?_, ?_, ?_⟩, fun h => by cases h⟩
  · have h := List.drop_eq_getElem_cons (l := p.data.toList) (i := m) (by simpa using hm)
    rw [show p[m] = p.data.toList[m]'(by simpa using hm) from rfl, ← h, List.take_append_drop]
  · intro h
    rw [h] at hc
    exact absurd hc (by decide)
  · intro x hx
    obtain ⟨i, hi, rfl⟩ := List.getElem_of_mem hx
    simp only [List.length_drop, Array.length_toList] at hi
    rw [List.getElem_drop]
    have h1 : p.data.size = p.size := rfl
    exact H (m + 1 + i) (by omega) (by omega)
  · rw [ByteArray.data_append, Array.toList_append]
    congr 1
    rw [Lib.extract_data]
    simp

theorem endOf_false (p lim : ByteArray) (H : ∀ t (h1 : t < p.size), 0 ≤ t → p[t] = 255) : EndOf p lim false := by
  refine ⟨fun h => (Bool.false_ne_true h).elim, fun _ x hx => ?_⟩
  obtain ⟨i, hi, rfl⟩ := List.getElem_of_mem hx
  exact H i (by simpa using hi) (Nat.zero_le _)

theorem lim_size (p : ByteArray) (m : Nat) (hm : m < p.size) (x : UInt8) (hp : p.size ≤ 1048576) : (p.extract 0 m ++ ⟨#[x]⟩ : ByteArray).size ≤ 1048577 := by
  rw [ByteArray.size_append, ByteArray.size_extract]
  show min m p.size - 0 + 1 ≤ _
  omega

set_option maxHeartbeats 400000 in
theorem end8 (p : ByteArray) (hp : p.size ≤ 1048576) (w : World) :
    Calls Try.prog 8 #[.string p] w fun e w' => ∃ lim ok, e = .returned (.tuple #[.string lim, .bool ok]) ∧ lim.size ≤ 1048577 ∧ EndOf p lim ok ∧ Below w.heap.size w w' := by
  go_enter Try.func8, Try.ntmps8
  go_wp2
  go_loopw [4] (fun i wr => ∃ k : Nat, k ≤ p.size ∧ i = .int .i64 ((k : Int) - 1) ∧ w = wr ∧ Hid (∀ t (h1 : t < p.size), k ≤ t → p[t] = 255)) (fun i _ => (intOf i + 1).toNat)
  case atStart => exact ⟨p.size, Nat.le_refl _, rfl, rfl, fun t h1 h2 => absurd h1 (by omega)⟩
  case round =>
    obtain ⟨k, hk, rfl, rfl, H⟩ := hrel
    by_cases hlt : 0 < k
    · obtain ⟨m, rfl⟩ : ∃ m, k = m + 1 := ⟨k - 1, by omega⟩
      have h1 : (m : Int) < (p.size : Int) := by omega
      have hm : m ≤ p.size := by omega
      have hm' : m < p.size := by omega
      have hcv := conv_one w (p[m] + 1) _ (succ_byte p[m])
      go_wp2
      · have hc : (((p[m].toNat : Nat) : Int) != 255) = true := by assumption
        have E := endOf_true p m hm' hc H.out
        have Z := lim_size p m hm' (p[m] + 1) hp
        go_region
        go_wp2
        go_ret2
        exact ⟨_, _, rfl, Z, E, ((Below.refl _ _).alloc (Nat.le_refl _) _).drew⟩
      · have hc : (((p[m].toNat : Nat) : Int) != 255) = false := by assumption
        go_roundw
        case rel =>
          refine ⟨m, by omega, by go_num, trivial, fun t h3 h4 => ?_⟩
          by_cases e : t = m
          · subst e
            simp at hc
            exact UInt8.toNat_inj.1 (by show p[t].toNat = 255; omega)
          · exact H.out t h3 (by omega)
        case measure => simp [intOf]
    · obtain rfl : k = 0 := by omega
      go_wp2
      go_ret2
      exact ⟨_, _, rfl, by decide, endOf_false p _ H.out, Below.refl _ _⟩
end Go.Proofs.Qxb6617753a
