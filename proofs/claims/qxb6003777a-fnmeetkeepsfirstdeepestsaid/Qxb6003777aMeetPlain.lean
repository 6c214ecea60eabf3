/-
  THE PLAIN LAW OF 'meet': no Go in sight.
-/
namespace Go.Proofs.Qxb6003777a

/-- The origin behind i rounds: its line and its depth. -/
def mst (L D : Nat → Int) : Nat → Int × Int
  | 0 => (0, 0)
  | i + 1 => if (mst L D i).2 < D i then (L i, D i) else mst L D i

/-- The variable 'record' of round i, behind m rounds of the inner loop. -/
def mrec (D : Nat → Int) (i : Nat) : Nat → Bool
  | 0 => decide (0 < D i)
  | m + 1 => if D i ≤ D m then false else mrec D i m

theorem mst_yes {L D : Nat → Int} {i : Nat} (h : (mst L D i).2 < D i) : mst L D (i + 1) = (L i, D i) := by simp [mst, h]
theorem mst_no {L D : Nat → Int} {i : Nat} (h : ¬ (mst L D i).2 < D i) : mst L D (i + 1) = mst L D i := by simp [mst, h]

theorem mst_pos (L D : Nat → Int) (i : Nat) : 0 ≤ (mst L D i).2 := by
  induction i with
  | zero => simp [mst]
  | succ i ih => by_cases h : (mst L D i).2 < D i
                 · rw [mst_yes h]; show 0 ≤ D i; omega
                 · rw [mst_no h]; exact ih

theorem mst_ge (L D : Nat → Int) (i j : Nat) (hj : j < i) : D j ≤ (mst L D i).2 := by
  induction i with
  | zero => omega
  | succ i ih =>
    by_cases h : (mst L D i).2 < D i
    · rw [mst_yes h]; show D j ≤ D i
      by_cases e : j = i
      · subst e; omega
      · have := ih (by omega); omega
    · rw [mst_no h]
      by_cases e : j = i
      · subst e; omega
      · exact ih (by omega)

theorem mst_wit (L D : Nat → Int) (i : Nat) : mst L D i = (0, 0) ∨ ∃ j, j < i ∧ mst L D i = (L j, D j) ∧ 0 < D j ∧ ∀ k, k < j → D k < D j := by
  induction i with
  | zero => exact .inl rfl
  | succ i ih =>
    by_cases h : (mst L D i).2 < D i
    · refine .inr ⟨i, by omega, mst_yes h, ?_, ?_⟩
      · have := mst_pos L D i; omega
      · intro k hk; have := mst_ge L D i k hk; omega
    · rw [mst_no h]
      rcases ih with ih | ⟨j, hj, e, p, q⟩
      · exact .inl ih
      · exact .inr ⟨j, by omega, e, p, q⟩

theorem mrec_iff (D : Nat → Int) (i m : Nat) : mrec D i m = true ↔ 0 < D i ∧ ∀ j, j < m → D j < D i := by
  induction m with
  | zero => simp [mrec]
  | succ m ih =>
    by_cases h : D i ≤ D m
    · simp only [mrec, h, if_true, Bool.false_eq_true, false_iff]
      intro ⟨_, q⟩
      have := q m (by omega); omega
    · simp only [mrec, h, if_false, ih]
      constructor
      · intro ⟨p, q⟩
        refine ⟨p, fun j hj => ?_⟩
        by_cases e : j = m
        · subst e; omega
        · exact q j (by omega)
      · intro ⟨p, q⟩
        exact ⟨p, fun j hj => q j (by omega)⟩

theorem mrec_yes (L D : Nat → Int) (i : Nat) (h : (mst L D i).2 < D i) : mrec D i i = true := by
  rw [mrec_iff]
  refine ⟨?_, fun j hj => ?_⟩
  · have := mst_pos L D i; omega
  · have := mst_ge L D i j hj; omega

theorem mrec_no (L D : Nat → Int) (i : Nat) (h : ¬ (mst L D i).2 < D i) : mrec D i i = false := by
  rw [Bool.eq_false_iff]
  intro hr
  rw [mrec_iff] at hr
  obtain ⟨p, q⟩ := hr
  rcases mst_wit L D i with e | ⟨j, hj, e, _, _⟩
  · rw [e] at h; simp at h; omega
  · rw [e] at h
    have := q j hj
    exact h this

/-- At the end: the first place where the depth is the greatest is the origin. -/
theorem mst_first (L D : Nat → Int) (n k : Nat) (hn : (mst L D n).2 ≠ 0) (hk : k < n) (he : D k = (mst L D n).2) (hf : ∀ j, j < k → D j ≠ (mst L D n).2) : (mst L D n).1 = L k := by
  rcases mst_wit L D n with e | ⟨j, hj, e, p, q⟩
  · rw [e] at hn; exact absurd rfl hn
  · rw [e] at he hf ⊢
    have h1 : ¬ j < k := fun h => hf j h rfl
    have h2 : ¬ k < j := fun h => by have := q k h; simp only at he; omega
    have : j = k := by omega
    subst this; rfl

/-- .. and there is one. -/
theorem mst_some (L D : Nat → Int) (n : Nat) (hn : (mst L D n).2 ≠ 0) (hf : ∀ j, j < n → D j ≠ (mst L D n).2) : False := by
  rcases mst_wit L D n with e | ⟨j, hj, e, _, _⟩
  · rw [e] at hn; exact absurd rfl hn
  · have := hf j hj; rw [e] at this; exact this rfl

/-- All depths at most 0: nothing was met. -/
theorem mst_zero (L D : Nat → Int) (n : Nat) (h : (mst L D n).2 = 0) : (mst L D n).1 = 0 := by
  rcases mst_wit L D n with e | ⟨j, _, e, p, _⟩
  · rw [e]
  · rw [e] at h; simp only at h; omega

end Go.Proofs.Qxb6003777a
