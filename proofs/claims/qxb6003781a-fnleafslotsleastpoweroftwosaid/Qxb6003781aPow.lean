/-
  POWERS OF TWO: no Go in sight.
-/
namespace Go.Proofs.Qxb6003781a

/-- X is a power of two. -/
def Pow (X : Int) : Prop := ∃ j : Nat, X = ((2 ^ j : Nat) : Int)

theorem pow_pos {X : Int} (h : Pow X) : 1 ≤ X := by
  obtain ⟨j, rfl⟩ := h
  have : 0 < 2 ^ j := Nat.two_pow_pos j
  omega
theorem pow_64 : Pow 64 := ⟨6, rfl⟩
theorem pow_double {X : Int} (h : Pow X) : Pow (X * 2) := by
  obtain ⟨j, rfl⟩ := h
  exact ⟨j + 1, by rw [Nat.pow_succ]; simp⟩
theorem pow_half {X : Int} (h : Pow X) (h1 : 1 < X) : X % 2 = 0 ∧ Pow (X / 2) := by
  obtain ⟨j, rfl⟩ := h
  cases j with
  | zero => simp at h1
  | succ j =>
    have e : 2 ^ (j + 1) = 2 ^ j * 2 := Nat.pow_succ ..
    rw [e]
    exact ⟨by omega, ⟨j, by omega⟩⟩
/-- Between two powers of two lies a doubling. -/
theorem pow_gap {X Y : Int} (hX : Pow X) (hY : Pow Y) (h : X < Y) : X * 2 ≤ Y := by
  obtain ⟨a, rfl⟩ := hX
  obtain ⟨b, rfl⟩ := hY
  have hab : a < b := by
    rcases Nat.lt_or_ge a b with h' | h'
    · exact h'
    · have := Nat.pow_le_pow_right (n := 2) (by omega) h'
      omega
  have h2 : 2 ^ (a + 1) ≤ 2 ^ b := Nat.pow_le_pow_right (by omega) hab
  have e : 2 ^ (a + 1) = 2 ^ a * 2 := Nat.pow_succ ..
  omega

/-- What leafSlots gives for K keys. -/
def Slots (K N : Int) : Prop := 64 ≤ N ∧ Pow N ∧ 8 * K ≤ 3 * N ∧ (N = 64 ∨ 3 * (N / 2) < 8 * K)

theorem slots_mono {K K' N M : Int} (h : Slots K N) (h' : Slots K' M) (hk : K ≤ K') : N ≤ M := by
  obtain ⟨a1, a2, a3, a4⟩ := h
  obtain ⟨b1, b2, b3, b4⟩ := h'
  by_cases hlt : M < N
  · have := pow_gap b2 a2 hlt
    omega
  · omega

end Go.Proofs.Qxb6003781a
