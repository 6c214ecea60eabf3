/-
  WHAT A RANGE HOLDS: no walk in sight.
-/
import Derived.Test.Qxb6003781aOrder
namespace Go.Proofs.Qxb6003781a

theorem slt_le_trans (x y z : List UInt8) (h : slt x y = true ∨ x = y) (h' : slt y z = true) : slt x z = true := by
  rcases h with h | h
  · exact slt_trans x y z h h'
  · subst h; exact h'
theorem le_slt_trans (x y z : List UInt8) (h : slt x y = true) (h' : slt y z = true ∨ y = z) : slt x z = true := by
  rcases h' with h' | h'
  · exact slt_trans x y z h h'
  · subst h'; exact h

/-- k is under the end E: at most E, or less. -/
theorem holds_iff (E : List UInt8) (t o : Bool) (K : List UInt8) : holdsB E t o K = true ↔ o = true ∨ (t = true ∧ K = E) ∨ slt K E = true := by
  cases o <;> cases t <;> simp [holdsB]
  exact Or.comm
theorem ends_iff (R : List UInt8) (rt ro : Bool) (S : List UInt8) (st so : Bool) : endsB R rt ro S st so = true ↔ so = false ∧ (ro = true ∨ slt S R = true ∨ (R = S ∧ rt = true ∧ st = false)) := by
  rcases tri R S with ⟨h1, h2, h3, h4⟩ | e | ⟨h1, h2, h3, h4⟩
  · have hne : R ≠ S := by simpa using h3
    cases rt <;> cases ro <;> cases st <;> cases so <;> simp [endsB, h1, h2, hne]
  · subst e; cases rt <;> cases ro <;> cases st <;> cases so <;> simp [endsB, slt_irr]
  · have hne : R ≠ S := by simpa using h3
    cases rt <;> cases ro <;> cases st <;> cases so <;> simp [endsB, h1, h2, hne]

theorem holds_down (E : List UInt8) (t o : Bool) (K L : List UInt8) (h : slt L K = true ∨ L = K) (hk : holdsB E t o K = true) : holdsB E t o L = true := by
  rw [holds_iff] at hk ⊢
  rcases hk with hk | ⟨ht, hk⟩ | hk
  · exact .inl hk
  · subst hk
    rcases h with h | h
    · exact .inr (.inr h)
    · exact .inr (.inl ⟨ht, h⟩)
  · exact .inr (.inr (slt_le_trans _ _ _ h hk))

theorem holds_ends (R : List UInt8) (rt ro : Bool) (S : List UInt8) (st so : Bool) (K : List UInt8) (hr : holdsB R rt ro K = true) (hs : holdsB S st so K = false) : endsB R rt ro S st so = true := by
  rw [holds_iff] at hr
  have hs' : ¬ holdsB S st so K = true := by rw [hs]; simp
  rw [holds_iff] at hs'
  have h1 : so = false := by cases so; rfl; exact absurd (.inl rfl) hs'
  have h2 : slt K S = false := by
    cases h : slt K S
    · rfl
    · exact absurd (.inr (.inr h)) hs'
  have h3 : ¬ (st = true ∧ K = S) := fun h => hs' (.inr (.inl h))
  rw [ends_iff]
  refine ⟨h1, ?_⟩
  have hSK : S = K ∨ slt S K = true := by
    rcases tri K S with ⟨e, _⟩ | e | ⟨_, e, _⟩
    · rw [e] at h2; cases h2
    · exact .inl e.symm
    · exact .inr e
  rcases hr with hr | ⟨ht, hr⟩ | hr
  · exact .inl hr
  · subst hr
    rcases hSK with e | e
    · subst e
      refine .inr (.inr ⟨rfl, ht, ?_⟩)
      cases st
      · rfl
      · exact absurd ⟨rfl, rfl⟩ h3
    · exact .inr (.inl e)
  · refine .inr (.inl ?_)
    rcases hSK with e | e
    · subst e; exact hr
    · exact slt_trans _ _ _ e hr

theorem holds_not_ends (R : List UInt8) (rt ro : Bool) (S : List UInt8) (st so : Bool) (K : List UInt8) (hs : holdsB S st so K = true) (hr : holdsB R rt ro K = false) : endsB R rt ro S st so = false :=
  ends_asymm _ _ _ _ _ _ (holds_ends S st so R rt ro K hs hr)

end Go.Proofs.Qxb6003781a
