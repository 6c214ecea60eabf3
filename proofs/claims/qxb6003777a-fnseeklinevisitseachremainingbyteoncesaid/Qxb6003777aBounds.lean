/-
  THE BOUNDS WITHIN WHICH THE SEEKS' LAWS GO ON.
-/
import Derived.Test.Qxb6003777aSums
namespace Go.Proofs.Qxb6003777a

/-- f 0 + .. + f (k - 1). -/
def sumI (f : Nat → Int) : Nat → Int
  | 0 => 0
  | k + 1 => sumI f k + f k
theorem sumI_bd (f : Nat → Int) (m : Nat) : ∀ k, (∀ j, j < k → 0 ≤ f j ∧ f j ≤ m) → 0 ≤ sumI f k ∧ sumI f k ≤ k * m := by
  intro k
  induction k with
  | zero => intro _; simp [sumI]
  | succ k ih =>
    intro h
    have h1 := ih (fun j hj => h j (by omega))
    have h2 := h k (by omega)
    simp only [sumI]
    have h3 : ((k + 1 : Nat) : Int) * m = (k : Int) * m + m := by rw [Int.natCast_add, Int.add_mul]; simp
    rw [h3]
    omega

/-- The inputs at which the law goes on. -/
structure Good (m M : Nat) (n : Nat) (f : Nat → Int) (P R : Int) : Prop where
  len : n ≤ 1024
  each : ∀ j, j < n → 0 ≤ f j ∧ f j ≤ m
  total : sumI f n ≤ M
  part : 0 ≤ P ∧ P ≤ n
  edge : P = n → R = 0
  inner : P < n → 0 ≤ R ∧ R ≤ f P.toNat

end Go.Proofs.Qxb6003777a
