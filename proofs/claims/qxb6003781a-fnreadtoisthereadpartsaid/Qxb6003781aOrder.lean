/-
  THE ORDER OF STRINGS AND OF RANGES' ENDS: no walk in sight.
-/
import Derived.Test.Qxb6003781aRows
namespace Go.Proofs.Qxb6003781a

/-- Go's '<' on strings, of their bytes. -/
def slt (x y : List UInt8) : Bool := Op.bytesLess x y

theorem slt_irr : ∀ x, slt x x = false := by
  intro x
  induction x with
  | nil => rfl
  | cons a x ih => simp only [slt, Op.bytesLess] at *; simp [ih]
theorem slt_asymm : ∀ x y, slt x y = true → slt y x = false := by
  intro x
  induction x with
  | nil => intro y h; cases y <;> rfl
  | cons a x ih =>
    intro y h
    cases y with
    | nil => simp [slt, Op.bytesLess] at h
    | cons b y =>
      have ih' := ih y
      simp only [slt, Op.bytesLess, Bool.or_eq_true, Bool.and_eq_true, decide_eq_true_eq, beq_iff_eq, Bool.or_eq_false_iff, Bool.and_eq_false_iff, decide_eq_false_iff_not, beq_eq_false_iff_ne] at *
      rcases h with h | ⟨h1, h2⟩
      · refine ⟨?_, .inl ?_⟩
        · simp only [UInt8.lt_iff_toNat_lt] at *; omega
        · intro e; subst e; simp only [UInt8.lt_iff_toNat_lt] at h; omega
      · subst h1
        exact ⟨by simp only [UInt8.lt_iff_toNat_lt]; omega, .inr (ih' h2)⟩
theorem slt_trans : ∀ x y z, slt x y = true → slt y z = true → slt x z = true := by
  intro x
  induction x with
  | nil =>
    intro y z h1 h2
    cases z with
    | nil => cases y <;> simp [slt, Op.bytesLess] at h2
    | cons c z => rfl
  | cons a x ih =>
    intro y z h1 h2
    cases y with
    | nil => simp [slt, Op.bytesLess] at h1
    | cons b y =>
      cases z with
      | nil => simp [slt, Op.bytesLess] at h2
      | cons c z =>
        have ih' := ih y z
        simp only [slt, Op.bytesLess, Bool.or_eq_true, Bool.and_eq_true, decide_eq_true_eq, beq_iff_eq] at *
        simp only [UInt8.lt_iff_toNat_lt] at *
        rcases h1 with h1 | ⟨h1, h3⟩
        · rcases h2 with h2 | ⟨h2, h4⟩
          · left; omega
          · subst h2; left; exact h1
        · subst h1
          rcases h2 with h2 | ⟨h2, h4⟩
          · left; exact h2
          · right; exact ⟨h2, ih' h3 h4⟩
theorem slt_total : ∀ x y, slt x y = false → slt y x = false → x = y := by
  intro x
  induction x with
  | nil => intro y h1 h2; cases y with
    | nil => rfl
    | cons b y => simp [slt, Op.bytesLess] at h1
  | cons a x ih =>
    intro y h1 h2
    cases y with
    | nil => simp [slt, Op.bytesLess] at h2
    | cons b y =>
      have ih' := ih y
      simp only [slt, Op.bytesLess, Bool.or_eq_false_iff, Bool.and_eq_false_iff, decide_eq_false_iff_not, beq_eq_false_iff_ne] at *
      simp only [UInt8.lt_iff_toNat_lt] at *
      have e : a = b := UInt8.toNat_inj.1 (by omega)
      subst e
      obtain ⟨_, h1⟩ := h1
      obtain ⟨_, h2⟩ := h2
      have e1 : slt x y = false := by rcases h1 with h | h; exact absurd rfl h; exact h
      have e2 : slt y x = false := by rcases h2 with h | h; exact absurd rfl h; exact h
      rw [ih' e1 e2]

/-- Of two strings one is less, or they are one. -/
theorem tri (x y : List UInt8) : (slt x y = true ∧ slt y x = false ∧ (x == y) = false ∧ (y == x) = false) ∨ x = y ∨ (slt x y = false ∧ slt y x = true ∧ (x == y) = false ∧ (y == x) = false) := by
  by_cases h1 : slt x y = true
  · refine .inl ⟨h1, slt_asymm x y h1, ?_, ?_⟩
    · rw [beq_eq_false_iff_ne]; intro e; subst e; rw [slt_irr] at h1; cases h1
    · rw [beq_eq_false_iff_ne]; intro e; subst e; rw [slt_irr] at h1; cases h1
  · rw [Bool.not_eq_true] at h1
    by_cases h2 : slt y x = true
    · refine .inr (.inr ⟨h1, h2, ?_, ?_⟩)
      · rw [beq_eq_false_iff_ne]; intro e; subst e; rw [slt_irr] at h2; cases h2
      · rw [beq_eq_false_iff_ne]; intro e; subst e; rw [slt_irr] at h2; cases h2
    · rw [Bool.not_eq_true] at h2
      exact .inr (.inl (slt_total x y h1 h2))

/-- keyRange.holds, of the end's bytes, through, open and the key's bytes. -/
def holdsB (E : List UInt8) (t o : Bool) (K : List UInt8) : Bool := if o then true else if t then (slt K E || K == E) else slt K E
/-- keyRange.endsAfter. -/
def endsB (R : List UInt8) (rt ro : Bool) (S : List UInt8) (st so : Bool) : Bool := if so then false else if ro then true else if R == S then rt && !st else !(slt R S || R == S)
/-- zzSameTop. -/
def sameB (A : List UInt8) (a1 a2 : Bool) (B : List UInt8) (b1 b2 : Bool) : Bool := if a2 || b2 then a2 == b2 else A == B && a1 == b1

theorem ends_irr (R : List UInt8) (t o : Bool) : endsB R t o R t o = false := by
  cases t <;> cases o <;> simp [endsB]
theorem ends_asymm (A : List UInt8) (a1 a2 : Bool) (B : List UInt8) (b1 b2 : Bool) (h : endsB A a1 a2 B b1 b2 = true) : endsB B b1 b2 A a1 a2 = false := by
  rcases tri A B with ⟨h1, h2, h3, h4⟩ | e | ⟨h1, h2, h3, h4⟩
  · revert h; cases a1 <;> cases a2 <;> cases b1 <;> cases b2 <;> simp [endsB, h1, h2, h3, h4]
  · subst e; revert h; cases a1 <;> cases a2 <;> cases b1 <;> cases b2 <;> simp [endsB]
  · revert h; cases a1 <;> cases a2 <;> cases b1 <;> cases b2 <;> simp [endsB, h1, h2, h3, h4]
theorem ends_total (A : List UInt8) (a1 a2 : Bool) (B : List UInt8) (b1 b2 : Bool) (h : endsB A a1 a2 B b1 b2 = false) (h' : endsB B b1 b2 A a1 a2 = false) : sameB A a1 a2 B b1 b2 = true := by
  rcases tri A B with ⟨h1, h2, h3, h4⟩ | e | ⟨h1, h2, h3, h4⟩
  · revert h h'; cases a1 <;> cases a2 <;> cases b1 <;> cases b2 <;> simp [endsB, sameB, h1, h2, h3, h4]
  · subst e; revert h h'; cases a1 <;> cases a2 <;> cases b1 <;> cases b2 <;> simp [endsB, sameB]
  · revert h h'; cases a1 <;> cases a2 <;> cases b1 <;> cases b2 <;> simp [endsB, sameB, h1, h2, h3, h4]
theorem ends_trans (A : List UInt8) (a1 a2 : Bool) (B : List UInt8) (b1 b2 : Bool) (C : List UInt8) (c1 c2 : Bool) (h : endsB A a1 a2 B b1 b2 = true) (h' : endsB B b1 b2 C c1 c2 = true) : endsB A a1 a2 C c1 c2 = true := by
  have t1 := slt_trans C B A
  rcases tri A B with ⟨h1, h2, h3, h4⟩ | e | ⟨h1, h2, h3, h4⟩
  · revert h h'; cases a1 <;> cases a2 <;> cases b1 <;> cases b2 <;> cases c2 <;> simp [endsB, h1, h3]
  · subst e
    rcases tri A C with ⟨k1, k2, k3, k4⟩ | e | ⟨k1, k2, k3, k4⟩
    · revert h h'; cases a1 <;> cases a2 <;> cases b1 <;> cases b2 <;> cases c1 <;> cases c2 <;> simp [endsB, k1, k3]
    · subst e; revert h h'; cases a1 <;> cases a2 <;> cases b1 <;> cases b2 <;> cases c1 <;> cases c2 <;> simp [endsB]
    · revert h h'; cases a1 <;> cases a2 <;> cases b1 <;> cases b2 <;> cases c1 <;> cases c2 <;> simp [endsB, k1, k3]
  · rcases tri B C with ⟨k1, k2, k3, k4⟩ | e | ⟨k1, k2, k3, k4⟩
    · revert h h'; cases a1 <;> cases a2 <;> cases b1 <;> cases b2 <;> cases c1 <;> cases c2 <;> simp [endsB, h1, h3, k1, k3]
    · subst e; revert h h'; cases a1 <;> cases a2 <;> cases b1 <;> cases b2 <;> cases c1 <;> cases c2 <;> simp [endsB, h1, h3]
    · have hCA := t1 k2 h2
      have hAC := slt_asymm C A hCA
      have hne : (A == C) = false := by
        rw [beq_eq_false_iff_ne]; intro e; subst e; rw [slt_irr] at hCA; cases hCA
      revert h h'; cases a1 <;> cases a2 <;> cases b1 <;> cases b2 <;> cases c1 <;> cases c2 <;> simp [endsB, h1, h3, k1, k3, hAC, hne]

end Go.Proofs.Qxb6003781a
