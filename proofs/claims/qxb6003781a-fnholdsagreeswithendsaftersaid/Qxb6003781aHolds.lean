/-
  THE WALK OF FnHoldsAgreesWithEndsAfter.
-/
import Derived.Test.Qxb6003781aRange2
import Derived.Test.Qxb6003781aOrder2
namespace Go.Proofs.Qxb6003781a
open Go.RowKit

theorem bytes_holds (a b c d : ByteArray) (x1 x2 x3 x4 : Bool) (w : World) (h0 : a.size ≤ 262144) (h1 : b.size ≤ 262144) (h2 : c.size ≤ 262144) (h3 : d.size ≤ 262144) :
    Calls Try.prog 12 #[.string a, .bool x1, .bool x2, .string b, .bool x3, .bool x4, .string c, .string d] w fun e w' => e = .returned (.bool true) ∧ w' = w := by
  go_enter Try.func12, Try.ntmps12
  go_wp2
  go_ret
  exact ⟨rfl, rfl⟩
set_option maxHeartbeats 400000 in
theorem bytes_holds_any (a b c d : ByteArray) (x1 x2 x3 x4 : Bool) (w : World) (h0 : a.size ≤ maxLen) (h1 : b.size ≤ maxLen) (h2 : c.size ≤ maxLen) (h3 : d.size ≤ maxLen) :
    Calls Try.prog 12 #[.string a, .bool x1, .bool x2, .string b, .bool x3, .bool x4, .string c, .string d] w fun e w' => (∃ b, e = .returned (.bool b)) ∧ w' = w := by
  unfold maxLen at h0 h1 h2 h3
  go_enter Try.func12, Try.ntmps12
  go_wp2
  all_goals (go_ret; exact ⟨⟨_, rfl⟩, rfl⟩)

set_option maxRecDepth 100000 in
set_option maxHeartbeats 400000 in
theorem holds_long (a : ByteArray) (a1 a2 : Bool) (b : ByteArray) (b1 b2 : Bool) (c d : ByteArray) (w : World) (h0 : a.size ≤ maxLen) (h1 : b.size ≤ maxLen) (h2 : c.size ≤ maxLen) (h3 : d.size ≤ maxLen) (h : ¬ (a.size ≤ 262144 ∧ b.size ≤ 262144 ∧ c.size ≤ 262144 ∧ d.size ≤ 262144)) :
    Calls Try.prog 5 #[.string a, .bool a1, .bool a2, .string b, .bool b1, .bool b2, .string c, .string d] w fun e w' => e = .returned (.bool true) ∧ w' = w := by
  have hc : (262144 < a.size) ∨ (a.size ≤ 262144 ∧ 262144 < b.size) ∨ (a.size ≤ 262144 ∧ b.size ≤ 262144 ∧ 262144 < c.size) ∨ (a.size ≤ 262144 ∧ b.size ≤ 262144 ∧ c.size ≤ 262144 ∧ 262144 < d.size) := by omega
  clear h
  rcases hc with g | ⟨g, g'⟩ | ⟨g, g', g''⟩ | ⟨g, g', g'', g'''⟩
  all_goals
    go_enter Try.func5, Try.ntmps5
    go_wp2_with fail
    refine (bytes_holds_any _ _ _ _ _ _ _ _ _ h0 h1 h2 h3).mono ?_
    rintro e w' ⟨⟨x, rfl⟩, rfl⟩
    clear h0 h1 h2 h3
    cases x
    all_goals
      go_wp2
      go_ret
      exact ⟨rfl, rfl⟩

/-- The ways through the law. -/
theorem holds_cases (A : List UInt8) (a1 a2 : Bool) (B : List UInt8) (b1 b2 : Bool) (K L : List UInt8) :
    (holdsB A a1 a2 K = true ∧ holdsB B b1 b2 K = false ∧ endsB A a1 a2 B b1 b2 = true ∧ Op.bytesLess L K = true ∧ holdsB A a1 a2 L = true) ∨
    (holdsB A a1 a2 K = true ∧ holdsB B b1 b2 K = false ∧ endsB A a1 a2 B b1 b2 = true ∧ (Op.bytesLess L K = false ∧ (L == K) = true) ∧ holdsB A a1 a2 L = true) ∨
    (holdsB A a1 a2 K = true ∧ holdsB B b1 b2 K = false ∧ endsB A a1 a2 B b1 b2 = true ∧ (Op.bytesLess L K = false ∧ (L == K) = false) ∧ True) ∨
    (holdsB A a1 a2 K = true ∧ holdsB B b1 b2 K = true ∧ True ∧ Op.bytesLess L K = true ∧ holdsB A a1 a2 L = true) ∨
    (holdsB A a1 a2 K = true ∧ holdsB B b1 b2 K = true ∧ True ∧ (Op.bytesLess L K = false ∧ (L == K) = true) ∧ holdsB A a1 a2 L = true) ∨
    (holdsB A a1 a2 K = true ∧ holdsB B b1 b2 K = true ∧ True ∧ (Op.bytesLess L K = false ∧ (L == K) = false) ∧ True) ∨
    (holdsB A a1 a2 K = false ∧ holdsB B b1 b2 K = true ∧ endsB A a1 a2 B b1 b2 = false ∧ True ∧ True) ∨
    (holdsB A a1 a2 K = false ∧ holdsB B b1 b2 K = false ∧ True ∧ True ∧ True) := by
  have hL : Op.bytesLess L K = true ∨ (Op.bytesLess L K = false ∧ (L == K) = true) ∨ (Op.bytesLess L K = false ∧ (L == K) = false) := by
    cases Op.bytesLess L K <;> cases (L == K) <;> simp
  cases hr : holdsB A a1 a2 K
  · cases hs : holdsB B b1 b2 K
    · simp
    · have := holds_not_ends _ _ _ _ _ _ _ hs hr
      simp [this]
  · have d1 : Op.bytesLess L K = true → holdsB A a1 a2 L = true := fun h => holds_down _ _ _ _ _ (.inl h) hr
    have d2 : (L == K) = true → holdsB A a1 a2 L = true := fun h => holds_down _ _ _ _ _ (.inr (by simpa using h)) hr
    cases hs : holdsB B b1 b2 K
    · have he := holds_ends _ _ _ _ _ _ _ hr hs
      rcases hL with h | ⟨h, h'⟩ | ⟨h, h'⟩
      · exact .inl ⟨rfl, rfl, he, h, d1 h⟩
      · exact .inr (.inl ⟨rfl, rfl, he, ⟨h, h'⟩, d2 h'⟩)
      · exact .inr (.inr (.inl ⟨rfl, rfl, he, ⟨h, h'⟩, trivial⟩))
    · rcases hL with h | ⟨h, h'⟩ | ⟨h, h'⟩
      · exact .inr (.inr (.inr (.inl ⟨rfl, rfl, trivial, h, d1 h⟩)))
      · exact .inr (.inr (.inr (.inr (.inl ⟨rfl, rfl, trivial, ⟨h, h'⟩, d2 h'⟩))))
      · exact .inr (.inr (.inr (.inr (.inr (.inl ⟨rfl, rfl, trivial, ⟨h, h'⟩, trivial⟩)))))

set_option maxRecDepth 100000 in
set_option maxHeartbeats 1000000 in
theorem holds_law (a : ByteArray) (a1 a2 : Bool) (b : ByteArray) (b1 b2 : Bool) (c d : ByteArray) (w : World) (h0 : a.size ≤ 262144) (h1 : b.size ≤ 262144) (h2 : c.size ≤ 262144) (h3 : d.size ≤ 262144) :
    Calls Try.prog 5 #[.string a, .bool a1, .bool a2, .string b, .bool b1, .bool b2, .string c, .string d] w fun e w' => e = .returned (.bool true) ∧ More w w' := by
  rcases holds_cases a.toList a1 a2 b.toList b1 b2 c.toList d.toList with ⟨g1, g2, g3, g4, g5⟩ | ⟨g1, g2, g3, g4, g5⟩ | ⟨g1, g2, g3, g4, g5⟩ | ⟨g1, g2, g3, g4, g5⟩ | ⟨g1, g2, g3, g4, g5⟩ | ⟨g1, g2, g3, g4, g5⟩ | ⟨g1, g2, g3, g4, g5⟩ | ⟨g1, g2, g3, g4, g5⟩
  all_goals
    go_enter Try.func5, Try.ntmps5
    go_wp2_with fail
    refine (bytes_holds _ _ _ _ _ _ _ _ _ h0 h1 h2 h3).mono ?_
    rintro e w' ⟨rfl, rfl⟩
    go_wp2_with fail
    refine (zz_holds _ _ _ _ _ _).mono ?_
    rintro e w1 ⟨rfl, m1⟩
    have z1 : w'.heap.size + 1 < w1.heap.size := by have := m1.below.size; simp at this; omega
    have A1 := box_more (s := ⟨#[]⟩) (e := a) (t := a1) (o := a2) (b := w'.heap.size) m1 (by simp; omega) (by simp [go_sem])
    have B1 := box_more (s := ⟨#[]⟩) (e := b) (t := b1) (o := b2) (b := w'.heap.size + 1) m1 (by simp) (by simp [go_sem])
    have M1 : Hid (More w' w1) := (((More.refl _).alloc _ _).alloc _ _).trans m1
    clear m1
    go_wp2_with fail
    refine (zz_holds _ _ _ _ _ _).mono ?_
    rintro e w2 ⟨rfl, m2⟩
    have z2 : w'.heap.size + 1 < w2.heap.size := by have := m2.below.size; omega
    have A2 := box_more m2 (by omega) A1
    have B2 := box_more m2 (by omega) B1
    have M2 : Hid (More w' w2) := M1.out.trans m2
    clear m2 A1 B1 z1 M1
    go_wp2_with (first
      | (go_at_call 10; refine (zz_ends _ _ _ _ _ _ _ _ _).mono ?_; rintro e w3 ⟨rfl, m3⟩; have M3 : Hid (More w' w3) := M2.out.trans m3; have A3 := box_more m3 (by omega) A2; clear m3 A2 B2 M2)
      | (go_at_call 13; refine (zz_holds _ _ _ _ _ _).mono ?_; rintro e w4 ⟨rfl, m4⟩; first | (have M4 : Hid (More w' w4) := M3.out.trans m4; clear m4 M3) | (have M4 : Hid (More w' w4) := M2.out.trans m4; clear m4 M2)))
    all_goals
      go_ret
      first | exact ⟨rfl, M4.out⟩ | exact ⟨rfl, M3.out⟩ | exact ⟨rfl, M2.out⟩

end Go.Proofs.Qxb6003781a
