/-
  THE WALK OF FnEndsAfterStrictTotalOrder.
-/
import Derived.Test.Qxb6003781aRange2
namespace Go.Proofs.Qxb6003781a
open Go.RowKit

theorem bytes_ends (a b c : ByteArray) (x1 x2 x3 x4 x5 x6 : Bool) (w : World) (h0 : a.size ≤ 262144) (h1 : b.size ≤ 262144) (h2 : c.size ≤ 262144) :
    Calls Try.prog 9 #[.string a, .bool x1, .bool x2, .string b, .bool x3, .bool x4, .string c, .bool x5, .bool x6] w fun e w' => e = .returned (.bool true) ∧ w' = w := by
  go_enter Try.func9, Try.ntmps9
  go_wp2
  go_ret
  exact ⟨rfl, rfl⟩
theorem bytes_ends_any (a b c : ByteArray) (x1 x2 x3 x4 x5 x6 : Bool) (w : World) (h0 : a.size ≤ maxLen) (h1 : b.size ≤ maxLen) (h2 : c.size ≤ maxLen) :
    Calls Try.prog 9 #[.string a, .bool x1, .bool x2, .string b, .bool x3, .bool x4, .string c, .bool x5, .bool x6] w fun e w' => (∃ b, e = .returned (.bool b)) ∧ w' = w := by
  unfold maxLen at h0 h1 h2
  go_enter Try.func9, Try.ntmps9
  go_wp2
  all_goals (go_ret; exact ⟨⟨_, rfl⟩, rfl⟩)

set_option maxRecDepth 100000 in
set_option maxHeartbeats 400000 in
theorem ends_long (a : ByteArray) (a1 a2 : Bool) (b : ByteArray) (b1 b2 : Bool) (c : ByteArray) (c1 c2 : Bool) (w : World) (h0 : a.size ≤ maxLen) (h1 : b.size ≤ maxLen) (h2 : c.size ≤ maxLen) (h : ¬ (a.size ≤ 262144 ∧ b.size ≤ 262144 ∧ c.size ≤ 262144)) :
    Calls Try.prog 4 #[.string a, .bool a1, .bool a2, .string b, .bool b1, .bool b2, .string c, .bool c1, .bool c2] w fun e w' => e = .returned (.bool true) ∧ w' = w := by
  have hc : (262144 < a.size) ∨ (a.size ≤ 262144 ∧ 262144 < b.size) ∨ (a.size ≤ 262144 ∧ b.size ≤ 262144 ∧ 262144 < c.size) := by omega
  clear h
  rcases hc with g | ⟨g, g'⟩ | ⟨g, g', g''⟩
  all_goals
    go_enter Try.func4, Try.ntmps4
    go_wp2_with fail
    refine (bytes_ends_any _ _ _ _ _ _ _ _ _ _ h0 h1 h2).mono ?_
    rintro e w' ⟨⟨x, rfl⟩, rfl⟩
    clear h0 h1 h2
    cases x
    all_goals
      go_wp2
      go_ret
      exact ⟨rfl, rfl⟩

set_option maxRecDepth 100000 in
set_option maxHeartbeats 1000000 in
theorem ends_law (a : ByteArray) (a1 a2 : Bool) (b : ByteArray) (b1 b2 : Bool) (c : ByteArray) (c1 c2 : Bool) (w : World) (h0 : a.size ≤ 262144) (h1 : b.size ≤ 262144) (h2 : c.size ≤ 262144) :
    Calls Try.prog 4 #[.string a, .bool a1, .bool a2, .string b, .bool b1, .bool b2, .string c, .bool c1, .bool c2] w fun e w' => e = .returned (.bool true) ∧ More w w' := by
  have hirr := ends_irr a.toList a1 a2
  have hcase : (endsB a.toList a1 a2 b.toList b1 b2 = true ∧ endsB b.toList b1 b2 a.toList a1 a2 = false ∧ endsB b.toList b1 b2 c.toList c1 c2 = true ∧ endsB a.toList a1 a2 c.toList c1 c2 = true) ∨
      (endsB a.toList a1 a2 b.toList b1 b2 = true ∧ endsB b.toList b1 b2 a.toList a1 a2 = false ∧ endsB b.toList b1 b2 c.toList c1 c2 = false ∧ True) ∨
      (endsB a.toList a1 a2 b.toList b1 b2 = false ∧ endsB b.toList b1 b2 a.toList a1 a2 = true ∧ True ∧ True) ∨
      (endsB a.toList a1 a2 b.toList b1 b2 = false ∧ endsB b.toList b1 b2 a.toList a1 a2 = false ∧ sameB a.toList a1 a2 b.toList b1 b2 = true ∧ True) := by
    cases hab : endsB a.toList a1 a2 b.toList b1 b2
    · cases hba : endsB b.toList b1 b2 a.toList a1 a2
      · exact .inr (.inr (.inr ⟨rfl, rfl, ends_total _ _ _ _ _ _ hab hba, trivial⟩))
      · exact .inr (.inr (.inl ⟨rfl, rfl, trivial, trivial⟩))
    · have hba := ends_asymm _ _ _ _ _ _ hab
      cases hbc : endsB b.toList b1 b2 c.toList c1 c2
      · exact .inr (.inl ⟨rfl, hba, rfl, trivial⟩)
      · exact .inl ⟨rfl, hba, rfl, ends_trans _ _ _ _ _ _ _ _ _ hab hbc⟩
  rcases hcase with ⟨g1, g2, g3, g4⟩ | ⟨g1, g2, g3, g4⟩ | ⟨g1, g2, g3, g4⟩ | ⟨g1, g2, g3, g4⟩
  all_goals
    go_enter Try.func4, Try.ntmps4
    go_wp2_with fail
    refine (bytes_ends _ _ _ _ _ _ _ _ _ _ h0 h1 h2).mono ?_
    rintro e w' ⟨rfl, rfl⟩
    go_wp2_with fail
    refine (zz_ends _ _ _ _ _ _ _ _ _).mono ?_
    rintro e w1 ⟨rfl, m1⟩
    have z1 : w'.heap.size + 1 + 1 < w1.heap.size := by have := m1.below.size; simp at this; omega
    have A1 := box_more (s := ⟨#[]⟩) (e := a) (t := a1) (o := a2) (b := w'.heap.size) m1 (by simp; omega) (by simp [go_sem])
    have B1 := box_more (s := ⟨#[]⟩) (e := b) (t := b1) (o := b2) (b := w'.heap.size + 1) m1 (by simp) (by simp [go_sem])
    have C1 := box_more (s := ⟨#[]⟩) (e := c) (t := c1) (o := c2) (b := w'.heap.size + 1 + 1) m1 (by simp) (by simp [go_sem])
    have M1 : Hid (More w' w1) := (((More.refl _).alloc _ _).alloc _ _ |>.alloc _ _).trans m1
    clear m1
    go_wp2_with fail
    refine (zz_ends _ _ _ _ _ _ _ _ _).mono ?_
    rintro e w2 ⟨rfl, m2⟩
    have z2 : w'.heap.size + 1 + 1 < w2.heap.size := by have := m2.below.size; omega
    have A2 := box_more m2 (by omega) A1
    have B2 := box_more m2 (by omega) B1
    have C2 := box_more m2 (by omega) C1
    have M2 : Hid (More w' w2) := M1.out.trans m2
    clear m2 A1 B1 C1 z1 M1
    go_wp2_with fail
    refine (zz_ends _ _ _ _ _ _ _ _ _).mono ?_
    rintro e w3 ⟨rfl, m3⟩
    have z3 : w'.heap.size + 1 + 1 < w3.heap.size := by have := m3.below.size; omega
    have A3 := box_more m3 (by omega) A2
    have B3 := box_more m3 (by omega) B2
    have C3 := box_more m3 (by omega) C2
    have M3 : Hid (More w' w3) := M2.out.trans m3
    clear m3 A2 B2 C2 z2 M2
    go_wp2_with fail
    refine (zz_ends _ _ _ _ _ _ _ _ _).mono ?_
    rintro e w4 ⟨rfl, m4⟩
    have z4 : w'.heap.size + 1 + 1 < w4.heap.size := by have := m4.below.size; omega
    have A4 := box_more m4 (by omega) A3
    have B4 := box_more m4 (by omega) B3
    have C4 := box_more m4 (by omega) C3
    have M4 : Hid (More w' w4) := M3.out.trans m4
    clear m4 A3 B3 C3 z3 M3
    go_wp2_with fail
    refine (zz_ends _ _ _ _ _ _ _ _ _).mono ?_
    rintro e w5 ⟨rfl, m5⟩
    have A5 := box_more m5 (by omega) A4
    have B5 := box_more m5 (by omega) B4
    have M5 : Hid (More w' w5) := M4.out.trans m5
    clear m5 A4 B4 C4 M4
    go_wp2_with (go_at_call 11; refine (same_top _ _ _ _ _ _ _ _ _).mono ?_; rintro e w6 ⟨rfl, m6⟩)
    go_ret
    first | exact ⟨rfl, M5.out⟩ | exact ⟨rfl, M5.out.trans m6⟩

end Go.Proofs.Qxb6003781a
