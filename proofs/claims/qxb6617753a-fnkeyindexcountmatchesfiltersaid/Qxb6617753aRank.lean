/-
  THE PLAIN LAW OF THE RANK among sorted runs, none empty. No Go text in sight.
-/
import Derived.Test.Qxb6617753aPlain
namespace Go.Proofs.Qxb6617753a.Plain

/-- A string's bytes. -/
def kl (s : ByteArray) : List UInt8 := s.data.toList
def lenAt (R : List (List ByteArray)) (i : Nat) : Nat := (R.getD i []).length
def strAt (R : List (List ByteArray)) (i j : Nat) : ByteArray := (R.getD i []).getD j ByteArray.empty
def lastAt (R : List (List ByteArray)) (i : Nat) : ByteArray := strAt R i (lenAt R i - 1)
/-- All keys, across the runs, in strictly increasing order. -/
def Sorted (F : List ByteArray) : Prop := F.Pairwise (fun a b => kl a < kl b)
/-- No run is empty. -/
def Full (R : List (List ByteArray)) : Prop := ∀ i, i < R.length → 0 < lenAt R i
/-- How many keys sort before x. -/
def rankOf (F : List ByteArray) (x : ByteArray) : Nat := F.countP (fun k => decide (kl k < kl x))

theorem strAt_eq {R : List (List ByteArray)} {i j : Nat} (hi : i < R.length) (hj : j < lenAt R i) : ∃ h : j < (R[i]).length, strAt R i j = (R[i])[j] := by
  unfold lenAt at hj
  have e : R.getD i [] = R[i] := by simp [List.getD, List.getElem?_eq_getElem hi]
  rw [e] at hj
  refine ⟨hj, ?_⟩
  unfold strAt
  rw [e]
  simp [List.getD, List.getElem?_eq_getElem hj]

theorem getD_run {R : List (List ByteArray)} {i : Nat} (hi : i < R.length) : R.getD i [] = R[i] := by
  simp [List.getD, List.getElem?_eq_getElem hi]

/-- Within a run. -/
theorem sorted_in {R : List (List ByteArray)} (hs : Sorted R.flatten) {i a b : Nat} (hi : i < R.length) (hab : a < b) (hb : b < lenAt R i) : kl (strAt R i a) < kl (strAt R i b) := by
  obtain ⟨h1, e1⟩ := strAt_eq hi (show a < lenAt R i by omega)
  obtain ⟨h2, e2⟩ := strAt_eq hi hb
  rw [e1, e2]
  have h := (List.pairwise_flatten.1 hs).1 R[i] (List.getElem_mem hi)
  exact List.pairwise_iff_getElem.1 h a b h1 h2 hab

/-- Between runs. -/
theorem sorted_out {R : List (List ByteArray)} (hs : Sorted R.flatten) {i j : Nat} (hij : i < j) (hj : j < R.length) {x y : ByteArray} (hx : x ∈ R[i]'(by omega)) (hy : y ∈ R[j]) : kl x < kl y :=
  List.pairwise_iff_getElem.1 (List.pairwise_flatten.1 hs).2 i j (by omega) hj hij x hx y hy

theorem last_mem {R : List (List ByteArray)} (hf : Full R) {i : Nat} (hi : i < R.length) : lastAt R i ∈ R[i] := by
  obtain ⟨h1, e1⟩ := strAt_eq hi (show lenAt R i - 1 < lenAt R i by have := hf i hi; omega)
  unfold lastAt
  rw [e1]
  exact List.getElem_mem h1

/-- No key of a run sorts behind its last. -/
theorem le_last {R : List (List ByteArray)} (hs : Sorted R.flatten) {i : Nat} (hi : i < R.length) {x : ByteArray} (hx : x ∈ R[i]) : ¬ kl (lastAt R i) < kl x := by
  obtain ⟨j, hj, rfl⟩ := List.getElem_of_mem hx
  have hl : lenAt R i = (R[i]).length := by unfold lenAt; rw [getD_run hi]
  have hj' : j < lenAt R i := by omega
  obtain ⟨_, e⟩ := strAt_eq hi hj'
  rw [← e]
  unfold lastAt
  by_cases h : j = lenAt R i - 1
  · rw [h]; exact lt_irr _
  · exact lt_as (sorted_in hs hi (by omega) (by omega))

theorem last_mono {R : List (List ByteArray)} (hs : Sorted R.flatten) (hf : Full R) (x : ByteArray) {a b : Nat} (hab : a ≤ b) (hb : b < R.length) (h : kl (lastAt R b) < kl x) : kl (lastAt R a) < kl x := by
  by_cases e : a = b
  · rw [e]; exact h
  · exact lt_tr _ _ _ (sorted_out hs (by omega) hb (last_mem hf (by omega)) (last_mem hf hb)) h

theorem run_mono {R : List (List ByteArray)} (hs : Sorted R.flatten) (x : ByteArray) {r : Nat} (hr : r < R.length) {a b : Nat} (hab : a ≤ b) (hb : b < lenAt R r) (h : kl (strAt R r b) < kl x) : kl (strAt R r a) < kl x := by
  by_cases e : a = b
  · rw [e]; exact h
  · exact lt_tr _ _ _ (sorted_in hs hr (by omega) hb) h

theorem countP_head {α : Type} (p : α → Bool) (l : List α) (i : Nat) (hi : i ≤ l.length) (h1 : ∀ t (h : t < l.length), t < i → p l[t] = true) (h2 : ∀ t (h : t < l.length), i ≤ t → p l[t] = false) : l.countP p = i := by
  have e : l.countP p = (l.take i).countP p + (l.drop i).countP p := by rw [← List.countP_append, List.take_append_drop]
  have e1 : (l.take i).countP p = i := by
    rw [List.countP_eq_length.2, List.length_take]
    · omega
    · intro x hx
      obtain ⟨t, ht, rfl⟩ := List.getElem_of_mem hx
      rw [List.length_take] at ht
      rw [List.getElem_take]
      exact h1 t (by omega) (by omega)
  have e2 : (l.drop i).countP p = 0 := by
    rw [List.countP_eq_zero]
    intro x hx
    obtain ⟨t, ht, rfl⟩ := List.getElem_of_mem hx
    rw [List.length_drop] at ht
    rw [List.getElem_drop, h2 (i + t) (by omega) (by omega)]
    exact Bool.false_ne_true
  omega

/-- THE RANK: the runs ahead of run r whole, of run r its head of length i. -/
theorem rank_split {R : List (List ByteArray)} (hs : Sorted R.flatten) (x : ByteArray) {r i : Nat} (hr : r < R.length) (hi : i ≤ lenAt R r)
    (h1 : ∀ t, t < r → kl (lastAt R t) < kl x) (h2 : r + 1 < R.length → ¬ kl (lastAt R r) < kl x) (hf : Full R)
    (h3 : ∀ t, t < i → kl (strAt R r t) < kl x) (h4 : ∀ t, i ≤ t → t < lenAt R r → ¬ kl (strAt R r t) < kl x) :
    rankOf R.flatten x = i + ((R.take r).flatten).length := by
  have hl : lenAt R r = (R[r]).length := by unfold lenAt; rw [getD_run hr]
  have e : R = R.take r ++ R[r] :: R.drop (r + 1) := by
    rw [← List.drop_eq_getElem_cons hr, List.take_append_drop]
  have ea : R.flatten = (R.take r).flatten ++ (R[r] ++ (R.drop (r + 1)).flatten) := by
    conv => lhs; rw [e]
    rw [List.flatten_append, List.flatten_cons]
  unfold rankOf
  rw [ea, List.countP_append, List.countP_append]
  have c1 : (R.take r).flatten.countP (fun k => decide (kl k < kl x)) = ((R.take r).flatten).length := by
    rw [List.countP_eq_length]
    intro y hy
    obtain ⟨l, hl1, hl2⟩ := List.mem_flatten.1 hy
    obtain ⟨t, ht, rfl⟩ := List.getElem_of_mem hl1
    rw [List.length_take] at ht
    rw [List.getElem_take] at hl2
    rw [decide_eq_true_eq]
    exact le_lt (le_last hs (by omega) hl2) (h1 t (by omega))
  have c2 : (R[r]).countP (fun k => decide (kl k < kl x)) = i := by
    apply countP_head _ _ _ (by omega)
    · intro t ht hti
      obtain ⟨_, e⟩ := strAt_eq hr (show t < lenAt R r by omega)
      rw [decide_eq_true_eq, ← e]
      exact h3 t hti
    · intro t ht hti
      obtain ⟨_, e⟩ := strAt_eq hr (show t < lenAt R r by omega)
      rw [decide_eq_false_iff_not, ← e]
      exact h4 t hti (by omega)
  have c3 : (R.drop (r + 1)).flatten.countP (fun k => decide (kl k < kl x)) = 0 := by
    rw [List.countP_eq_zero]
    intro y hy
    obtain ⟨l, hl1, hl2⟩ := List.mem_flatten.1 hy
    obtain ⟨t, ht, rfl⟩ := List.getElem_of_mem hl1
    rw [List.length_drop] at ht
    rw [List.getElem_drop] at hl2
    rw [decide_eq_true_eq]
    intro hyx
    exact h2 (by omega) (lt_tr _ _ _ (sorted_out hs (by omega) (by omega) (last_mem hf hr) hl2) hyx)
  omega

/-- The sum of the first runs' lengths. -/
theorem take_len_succ {R : List (List ByteArray)} {r : Nat} (hr : r < R.length) : ((R.take (r + 1)).flatten).length = ((R.take r).flatten).length + lenAt R r := by
  rw [List.take_succ_eq_append_getElem hr, List.flatten_append, List.length_append]
  unfold lenAt
  rw [getD_run hr]
  simp
theorem take_len_le {R : List (List ByteArray)} {M : Nat} (hb : ∀ i, i < R.length → lenAt R i ≤ M) : ∀ r, r ≤ R.length → ((R.take r).flatten).length ≤ r * M
  | 0, _ => by simp
  | r + 1, h => by
    have h1 := take_len_le hb r (by omega)
    have h2 := hb r (by omega)
    have h3 : (r + 1) * M = r * M + M := Nat.succ_mul r M
    rw [take_len_succ (by omega)]
    omega
/-- The sum of the first k runs' lengths, behind a name. -/
def preLen (R : List (List ByteArray)) (k : Nat) : Nat := ((R.take k).flatten).length
theorem preLen_zero (R : List (List ByteArray)) : preLen R 0 = 0 := by simp [preLen]
theorem preLen_succ {R : List (List ByteArray)} {r : Nat} (hr : r < R.length) : preLen R (r + 1) = preLen R r + lenAt R r := take_len_succ hr
theorem preLen_le {R : List (List ByteArray)} {M : Nat} (hb : ∀ i, i < R.length → lenAt R i ≤ M) (r : Nat) (h : r ≤ R.length) : preLen R r ≤ r * M := take_len_le hb r h
theorem preLen_all (R : List (List ByteArray)) : preLen R R.length = R.flatten.length := by simp [preLen]
theorem rank_le (F : List ByteArray) (x : ByteArray) : rankOf F x ≤ F.length := List.countP_le_length
theorem rankOf_map (F : List ByteArray) (x : ByteArray) : rankOf F x = rankL (F.map kl) (kl x) := by
  unfold rankOf rankL
  rw [List.countP_map]
  rfl

/-! ### The keys in the order in which the loops meet them -/
def flatTo (R : List (List ByteArray)) (i j : Nat) : List ByteArray := (R.take i).flatten ++ (R.getD i []).take j
def lastTo (R : List (List ByteArray)) (i j : Nat) : ByteArray := (flatTo R i j).getLastD ByteArray.empty
/-- No run below i is empty. -/
def FullTo (R : List (List ByteArray)) (i : Nat) : Prop := ∀ t, t < i → 0 < lenAt R t

theorem flatTo_zero (R : List (List ByteArray)) : flatTo R 0 0 = [] := by simp [flatTo]
theorem flatTo_succ {R : List (List ByteArray)} {i j : Nat} (hj : j < lenAt R i) : flatTo R i (j + 1) = flatTo R i j ++ [strAt R i j] := by
  unfold lenAt at hj
  unfold flatTo strAt
  generalize R.getD i [] = l at *
  rw [List.take_succ_eq_append_getElem hj, List.append_assoc, List.getD_eq_getElem?_getD, List.getElem?_eq_getElem hj, Option.getD_some]
theorem flatTo_next {R : List (List ByteArray)} {i : Nat} (hi : i < R.length) : flatTo R (i + 1) 0 = flatTo R i (lenAt R i) := by
  unfold flatTo lenAt
  rw [getD_run hi, List.take_succ_eq_append_getElem hi, List.flatten_append]
  simp
theorem flatTo_all (R : List (List ByteArray)) : flatTo R R.length 0 = R.flatten := by simp [flatTo]
theorem flatTo_length {R : List (List ByteArray)} {i j : Nat} (hj : j ≤ lenAt R i) : (flatTo R i j).length = preLen R i + j := by
  unfold lenAt at hj
  unfold flatTo preLen
  rw [List.length_append, List.length_take]
  omega
theorem lastTo_zero (R : List (List ByteArray)) : lastTo R 0 0 = ByteArray.empty := by simp [lastTo, flatTo_zero]
theorem lastTo_succ {R : List (List ByteArray)} {i j : Nat} (hj : j < lenAt R i) : lastTo R i (j + 1) = strAt R i j := by
  unfold lastTo
  rw [flatTo_succ hj]
  simp
theorem lastTo_next {R : List (List ByteArray)} {i : Nat} (hi : i < R.length) : lastTo R (i + 1) 0 = lastTo R i (lenAt R i) := by
  unfold lastTo
  rw [flatTo_next hi]

theorem sorted_snoc {F : List ByteArray} {x : ByteArray} (hs : Sorted F) (h : F ≠ [] → kl (F.getLastD ByteArray.empty) < kl x) : Sorted (F ++ [x]) := by
  unfold Sorted at *
  rw [List.pairwise_append]
  refine ⟨hs, List.pairwise_singleton _ _, fun y hy z hz => ?_⟩
  obtain rfl : z = x := by simpa using hz
  obtain ⟨i, hi, rfl⟩ := List.getElem_of_mem hy
  have hne : F ≠ [] := by rintro rfl; simp at hi
  have hl := h hne
  have e : F.getLastD ByteArray.empty = F[F.length - 1]'(by omega) := by
    rw [List.getLastD_eq_getLast?, List.getLast?_eq_some_getLast hne, Option.getD_some, List.getLast_eq_getElem]
  rw [e] at hl
  by_cases hi' : i = F.length - 1
  · subst hi'; exact hl
  · exact lt_tr _ _ _ (List.pairwise_iff_getElem.1 hs i (F.length - 1) hi (by omega) (by omega)) hl
theorem sorted_to {R : List (List ByteArray)} {i j : Nat} (hs : Sorted (flatTo R i j)) (hj : j < lenAt R i) (h : 0 < preLen R i + j → kl (lastTo R i j) < kl (strAt R i j)) : Sorted (flatTo R i (j + 1)) := by
  rw [flatTo_succ hj]
  refine sorted_snoc hs fun hne => h ?_
  rw [← flatTo_length (Nat.le_of_lt hj)]
  exact List.length_pos_iff.2 hne
theorem fullTo_succ {R : List (List ByteArray)} {i : Nat} (h : FullTo R i) (hl : 0 < lenAt R i) : FullTo R (i + 1) := fun t ht => by
  by_cases e : t = i
  · rw [e]; exact hl
  · exact h t (by omega)

end Go.Proofs.Qxb6617753a.Plain
