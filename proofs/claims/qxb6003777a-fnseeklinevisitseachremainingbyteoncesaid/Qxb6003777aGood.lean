/-
  FROM THE BOUNDS IN Int TO COUNTS IN Nat.
-/
import Derived.Test.Qxb6003777aBase
import Derived.Test.Qxb6003777aBounds
namespace Go.Proofs.Qxb6003777a
open Go.RowKit

theorem Row.congr {w : World} {a : Option Addr} {n c : Nat} {f f' : Nat → Int} (h : Row w a n c f) (e : ∀ i, i < n → f i = f' i) : Row w a n c f' := by
  rcases h with h | ⟨x, hx, h⟩
  · exact .inl h
  · refine .inr ⟨x, hx, fun i hi => ?_⟩
    obtain ⟨b, off, h1, h2, h3⟩ := h i hi
    exact ⟨b, off, h1, h2, by rw [h3, e i hi]⟩

theorem sum_eq (f : Nat → Int) : ∀ n, (∀ j, j < n → 0 ≤ f j) → ((sumN (fun i => (f i).toNat) n : Nat) : Int) = sumI f n := by
  intro n
  induction n with
  | zero => intro _; rfl
  | succ n ih =>
    intro h
    have h1 := ih (fun j hj => h j (by omega))
    have h2 := h n (by omega)
    simp only [sumN, sumI]
    omega

theorem good_counts {m M n : Nat} {f : Nat → Int} {P R : Int} (h : Good m M n f P R) : ∃ (g : Nat → Nat) (P0 R0 : Nat), P = P0 ∧ R = R0 ∧ (∀ i, i < n → f i = (g i : Int)) ∧ (∀ i, i < n → g i ≤ m) ∧ sumN g n ≤ M ∧ P0 ≤ n ∧ (P0 < n → R0 ≤ g P0) ∧ (P0 = n → R0 = 0) := by
  obtain ⟨h1, h2, h3, h4, h5, h6⟩ := h
  have hR : 0 ≤ R := by
    by_cases e : P = n
    · have := h5 e; omega
    · exact (h6 (by omega)).1
  obtain ⟨P0, rfl⟩ := Int.eq_ofNat_of_zero_le h4.1
  obtain ⟨R0, rfl⟩ := Int.eq_ofNat_of_zero_le hR
  have hs := sum_eq f n (fun j hj => (h2 j hj).1)
  refine ⟨fun i => (f i).toNat, P0, R0, rfl, rfl, fun i hi => ?_, fun i hi => ?_, by omega, by omega, fun h => ?_, fun h => ?_⟩
  · have := (h2 i hi).1; simp only; omega
  · have := h2 i hi; simp only; omega
  · have := (h6 (by omega)).2; simp only [Int.toNat_natCast] at this; simp only; omega
  · have := h5 (by omega); omega

end Go.Proofs.Qxb6003777a
