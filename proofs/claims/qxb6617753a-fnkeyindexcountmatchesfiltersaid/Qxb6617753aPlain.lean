/-
  THE PLAIN LAWS of 'Rows.FnKeyIndexCountMatchesFilterSaid': the order of byte strings, the end of a string's head, the rank of a key among sorted runs. No Go text in sight.
-/
namespace Go.Proofs.Qxb6617753a.Plain

/-! ### The order of byte strings -/
theorem lt_irr : ∀ (a : List UInt8), ¬ a < a
  | [], h => by simp at h
  | x :: a, h => by
    rw [List.cons_lt_cons_iff] at h
    rcases h with h | ⟨_, h⟩
    · exact absurd h (UInt8.lt_irrefl x)
    · exact lt_irr a h

theorem lt_tr : ∀ (a b c : List UInt8), a < b → b < c → a < c
  | _, _, [], _, h => by simp at h
  | [], _, _ :: _, _, _ => by simp
  | _ :: _, [], _ :: _, h, _ => by simp at h
  | x :: a, y :: b, z :: c, h1, h2 => by
    rw [List.cons_lt_cons_iff] at *
    rcases h1 with h1 | ⟨rfl, h1⟩
    · rcases h2 with h2 | ⟨rfl, _⟩
      · exact .inl (UInt8.lt_trans h1 h2)
      · exact .inl h1
    · rcases h2 with h2 | ⟨rfl, h2⟩
      · exact .inl h2
      · exact .inr ⟨rfl, lt_tr a b c h1 h2⟩

theorem lt_tri : ∀ (a b : List UInt8), a < b ∨ a = b ∨ b < a
  | [], [] => .inr (.inl rfl)
  | [], _ :: _ => .inl (by simp)
  | _ :: _, [] => .inr (.inr (by simp))
  | x :: a, y :: b => by
    rw [List.cons_lt_cons_iff, List.cons_lt_cons_iff]
    by_cases h1 : x < y
    · exact .inl (.inl h1)
    · by_cases h2 : y < x
      · exact .inr (.inr (.inl h2))
      · have e : x = y := UInt8.le_antisymm (UInt8.not_lt.1 h2) (UInt8.not_lt.1 h1)
        subst e
        rcases lt_tri a b with h | rfl | h
        · exact .inl (.inr ⟨rfl, h⟩)
        · exact .inr (.inl rfl)
        · exact .inr (.inr (.inr ⟨rfl, h⟩))

theorem lt_as {a b : List UInt8} (h : a < b) : ¬ b < a := fun h' => lt_irr a (lt_tr a b a h h')
/-- 'a ≤ b', 'b < c'. -/
theorem le_lt {a b c : List UInt8} (h : ¬ b < a) (h' : b < c) : a < c := by
  rcases lt_tri a b with h1 | rfl | h1
  · exact lt_tr a b c h1 h'
  · exact h'
  · exact absurd h1 h
/-- 'a < b', 'b ≤ c'. -/
theorem lt_le {a b c : List UInt8} (h : a < b) (h' : ¬ c < b) : a < c := by
  rcases lt_tri b c with h1 | rfl | h1
  · exact lt_tr a b c h h1
  · exact h
  · exact absurd h1 h'

/-! ### The first string after another; the end of a string's head -/
theorem after_iff : ∀ (a k : List UInt8), a < k ↔ ¬ k < a ++ [0]
  | [], [] => by simp
  | [], x :: k => by
    rw [List.nil_append, List.cons_lt_cons_iff]
    simp
  | y :: a, [] => by simp
  | y :: a, x :: k => by
    rw [List.cons_append, List.cons_lt_cons_iff, List.cons_lt_cons_iff, after_iff a k]
    constructor
    · rintro (h | ⟨rfl, h⟩) (h2 | ⟨h3, h2⟩)
      · exact absurd (UInt8.lt_trans h h2) (UInt8.lt_irrefl _)
      · subst h3; exact absurd h (UInt8.lt_irrefl _)
      · exact absurd h2 (UInt8.lt_irrefl _)
      · exact h h2
    · intro h
      by_cases h1 : y < x
      · exact .inl h1
      · refine .inr ?_
        by_cases h2 : x < y
        · exact absurd (.inl h2) h
        · have e : x = y := UInt8.le_antisymm (UInt8.not_lt.1 h1) (UInt8.not_lt.1 h2)
          exact ⟨e.symm, fun h3 => h (.inr ⟨e, h3⟩)⟩

theorem pre_ff : ∀ (p k : List UInt8), (∀ x ∈ p, x = 255) → (p <+: k ↔ ¬ k < p)
  | [], k, _ => by simp
  | y :: p, [], _ => by simp
  | y :: p, x :: k, h => by
    obtain rfl : y = 255 := h y (by simp)
    rw [List.cons_prefix_cons, List.cons_lt_cons_iff, pre_ff p k (fun z hz => h z (by simp [hz]))]
    have hx : x < 255 ∨ x = 255 := by
      rcases Nat.lt_or_ge x.toNat 255 with h1 | h1
      · exact .inl (UInt8.lt_iff_toNat_lt.2 h1)
      · refine .inr (UInt8.toNat_inj.1 ?_)
        have := x.toNat_lt
        show x.toNat = 255
        omega
    constructor
    · rintro ⟨rfl, h1⟩ (h2 | ⟨_, h2⟩)
      · exact absurd h2 (UInt8.lt_irrefl _)
      · exact h1 h2
    · intro h1
      rcases hx with hx | rfl
      · exact absurd (.inl hx) h1
      · exact ⟨rfl, fun h3 => h1 (.inr ⟨rfl, h3⟩)⟩

theorem succ_lt {c x : UInt8} (hc : c ≠ 255) : x < c + 1 ↔ (x < c ∨ x = c) := by
  have h1 := c.toNat_lt
  have h2 : c.toNat ≠ 255 := fun h => hc (UInt8.toNat_inj.1 h)
  rw [UInt8.lt_iff_toNat_lt, UInt8.lt_iff_toNat_lt, ← UInt8.toNat_inj, UInt8.toNat_add]
  show x.toNat < (c.toNat + 1) % 256 ↔ _
  omega

theorem pre_lim (c : UInt8) (t : List UInt8) (hc : c ≠ 255) (ht : ∀ x ∈ t, x = 255) : ∀ (a k : List UInt8),
    (a ++ c :: t) <+: k ↔ (¬ k < a ++ c :: t) ∧ k < a ++ [c + 1]
  | [], [] => by simp
  | [], x :: k => by
    rw [List.nil_append, List.nil_append, List.cons_prefix_cons, List.cons_lt_cons_iff, List.cons_lt_cons_iff, succ_lt hc, pre_ff t k ht]
    simp only [List.not_lt_nil, and_false, or_false]
    constructor
    · rintro ⟨rfl, h⟩
      exact ⟨fun h2 => h2.elim (fun h3 => absurd h3 (UInt8.lt_irrefl _)) (fun h3 => h h3.2), .inr rfl⟩
    · rintro ⟨h1, h2 | rfl⟩
      · exact absurd (.inl h2) h1
      · exact ⟨rfl, fun h3 => h1 (.inr ⟨rfl, h3⟩)⟩
  | y :: a, [] => by simp
  | y :: a, x :: k => by
    rw [List.cons_append, List.cons_append, List.cons_prefix_cons, List.cons_lt_cons_iff, List.cons_lt_cons_iff, pre_lim c t hc ht a k]
    constructor
    · rintro ⟨rfl, h1, h2⟩
      exact ⟨fun h3 => h3.elim (fun h4 => absurd h4 (UInt8.lt_irrefl _)) (fun h4 => h1 h4.2), .inr ⟨rfl, h2⟩⟩
    · rintro ⟨h1, h2 | ⟨rfl, h2⟩⟩
      · exact absurd (.inl h2) h1
      · exact ⟨rfl, fun h3 => h1 (.inr ⟨rfl, h3⟩), h2⟩

/-! ### Counting -/
/-- How many keys sort before x. -/
def rankL (F : List (List UInt8)) (x : List UInt8) : Nat := F.countP (fun k => decide (k < x))
/-- Go's 'max' of two strings. -/
def maxL (x y : List UInt8) : List UInt8 := if x < y then y else x
/-- The keys that the law counts. -/
def wantL (F : List (List UInt8)) (p a : List UInt8) : Nat := F.countP (fun k => p.isPrefixOf k && decide (a < k))

theorem le_max (p a k : List UInt8) : (¬ k < maxL p (a ++ [0])) ↔ (¬ k < p) ∧ a < k := by
  rw [after_iff a k]
  unfold maxL
  split
  · rename_i h
    exact ⟨fun h1 => ⟨fun h2 => h1 (lt_tr _ _ _ h2 h), h1⟩, fun h1 => h1.2⟩
  · rename_i h
    exact ⟨fun h1 => ⟨h1, fun h2 => h1 (lt_le h2 h)⟩, fun h1 => h1.1⟩

theorem between (lo hi : List UInt8) : ∀ (F : List (List UInt8)),
    ((F.countP (fun k => decide ((¬ k < lo) ∧ k < hi)) : Nat) : Int) = max 0 ((rankL F hi : Int) - (rankL F lo : Int)) := by
  intro F
  unfold rankL
  by_cases h : hi < lo
  · have e0 : F.countP (fun k => decide ((¬ k < lo) ∧ k < hi)) = 0 := by
      rw [List.countP_eq_zero]
      intro k _
      simp only [decide_eq_true_eq, not_and]
      exact fun h1 h2 => h1 (lt_tr _ _ _ h2 h)
    have e1 : F.countP (fun k => decide (k < hi)) ≤ F.countP (fun k => decide (k < lo)) := by
      apply List.countP_mono_left
      intro k _
      simp only [decide_eq_true_eq]
      exact fun h1 => lt_tr _ _ _ h1 h
    omega
  · have e : F.countP (fun k => decide (k < hi)) = F.countP (fun k => decide (k < lo)) + F.countP (fun k => decide ((¬ k < lo) ∧ k < hi)) := by
      induction F with
      | nil => rfl
      | cons k F ih =>
        rw [List.countP_cons, List.countP_cons, List.countP_cons, ih]
        by_cases h1 : k < lo
        · have h2 : k < hi := lt_le h1 h
          simp [h1, h2]; omega
        · by_cases h2 : k < hi
          · simp [h1, h2]; omega
          · simp [h1, h2]
    omega

theorem all_rank (lo : List UInt8) (F : List (List UInt8)) :
    ((F.countP (fun k => decide (¬ k < lo)) : Nat) : Int) = max 0 ((F.length : Int) - (rankL F lo : Int)) := by
  unfold rankL
  have h := List.length_eq_countP_add_countP (fun k => decide (k < lo)) (l := F)
  have e : F.countP (fun k => decide (¬ k < lo)) = F.countP (fun a => decide (¬ decide (a < lo) = true)) := by
    apply List.countP_congr
    intro k _
    simp
  omega

/-- A head with an end. -/
theorem want_lim (a : List UInt8) (c : UInt8) (t : List UInt8) (hc : c ≠ 255) (ht : ∀ x ∈ t, x = 255) (after : List UInt8) (F : List (List UInt8)) :
    (wantL F (a ++ c :: t) after : Int) = max 0 ((rankL F (a ++ [c + 1]) : Int) - (rankL F (maxL (a ++ c :: t) (after ++ [0])) : Int)) := by
  rw [← between]
  congr 1
  unfold wantL
  apply List.countP_congr
  intro k _
  rw [Bool.and_eq_true, List.isPrefixOf_iff_prefix, decide_eq_true_eq, decide_eq_true_eq, pre_lim c t hc ht, le_max]
  exact ⟨fun h => ⟨⟨h.1.1, h.2⟩, h.1.2⟩, fun h => ⟨⟨h.1.1, h.2⟩, h.1.2⟩⟩

/-- A head without an end: no byte but 255. -/
theorem want_ff (p : List UInt8) (hp : ∀ x ∈ p, x = 255) (after : List UInt8) (F : List (List UInt8)) :
    (wantL F p after : Int) = max 0 ((F.length : Int) - (rankL F (maxL p (after ++ [0])) : Int)) := by
  rw [← all_rank]
  congr 1
  unfold wantL
  apply List.countP_congr
  intro k _
  rw [Bool.and_eq_true, List.isPrefixOf_iff_prefix, decide_eq_true_eq, decide_eq_true_eq, pre_ff p k hp, le_max]

end Go.Proofs.Qxb6617753a.Plain
