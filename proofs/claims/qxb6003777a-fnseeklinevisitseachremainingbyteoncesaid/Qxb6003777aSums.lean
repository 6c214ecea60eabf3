/-
  THE PLAIN LAW OF THE SEEKS: sums of counts: no Go in sight.
-/
namespace Go.Proofs.Qxb6003777a

/-- g 0 + .. + g (k - 1). -/
def sumN (g : Nat → Nat) : Nat → Nat
  | 0 => 0
  | k + 1 => sumN g k + g k

theorem sumN_mono (g : Nat → Nat) (a b : Nat) (h : a ≤ b) : sumN g a ≤ sumN g b := by
  induction b with
  | zero => have : a = 0 := by omega
            subst this; exact Nat.le_refl _
  | succ b ih =>
    by_cases e : a = b + 1
    · subst e; exact Nat.le_refl _
    · have := ih (by omega); simp only [sumN]; omega

/-- Parts with nothing in them add nothing. -/
theorem sumN_skip (g : Nat → Nat) (p q : Nat) (hpq : p < q) (h : ∀ i, p < i → i < q → g i = 0) : sumN g q = sumN g p + g p := by
  induction q with
  | zero => omega
  | succ q ih =>
    by_cases e : p = q
    · subst e; rfl
    · have e0 := h q (by omega) (by omega)
      have := ih (by omega) (fun i h1 h2 => h i h1 (by omega))
      simp only [sumN]; omega

/-- What is left behind the place (p, r) is E less the count. -/
def Left (g : Nat → Nat) (n : Nat) (E : Int) (c p : Nat) (r : Int) : Prop :=
  p ≤ n ∧ 0 ≤ r ∧ (p < n → r ≤ g p) ∧ (p = n → r = 0) ∧ E - c = (sumN g n : Int) - sumN g p - r

theorem Left.pos {g : Nat → Nat} {n : Nat} {E : Int} {c p : Nat} {r : Int} (h : Left g n E c p r) : (c : Int) ≤ E := by
  obtain ⟨h1, h2, h3, h4, h5⟩ := h
  by_cases e : p = n
  · have := h4 e; subst e; omega
  · have h6 := h3 (by omega)
    have h7 := sumN_mono g (p + 1) n (by omega)
    simp only [sumN] at h7
    omega

theorem Left.done {g : Nat → Nat} {n : Nat} {E : Int} {c p : Nat} {r : Int} (h : Left g n E c p r) (e : p = n) : (c : Int) = E := by
  obtain ⟨h1, h2, h3, h4, h5⟩ := h
  have := h4 e; subst e; omega

/-- A step past the item at (p, r). -/
theorem Left.step {g : Nat → Nat} {n : Nat} {E : Int} {c p : Nat} {r : Int} (h : Left g n E c p r) (hp : p < n) (hr : r ≠ g p) : Left g n E (c + 1) p (r + 1) := by
  obtain ⟨h1, h2, h3, h4, h5⟩ := h
  have h6 := h3 hp
  exact ⟨h1, by omega, fun _ => by omega, fun e => by omega, by push_cast; omega⟩

/-- A move to a later part. -/
theorem Left.move {g : Nat → Nat} {n : Nat} {E : Int} {c p p' : Nat} {r : Int} (h : Left g n E c p r) (hlt : p < p') (hn : p' ≤ n) (hr : r = g p) (hz : ∀ q, p < q → q < p' → g q = 0) : Left g n E c p' 0 := by
  obtain ⟨h1, h2, h3, h4, h5⟩ := h
  have := sumN_skip g p p' hlt hz
  exact ⟨hn, by omega, fun _ => by omega, fun _ => rfl, by omega⟩

end Go.Proofs.Qxb6003777a
