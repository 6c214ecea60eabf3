/-
  THE WALK OF FnReadToIsTheReadPart.
-/
import Derived.Test.Qxb6003781aRange2
import Derived.Test.Qxb6003781aOrder2
namespace Go.Proofs.Qxb6003781a
open Go.RowKit

theorem bytes_read (a b c d : ByteArray) (x1 x2 x3 : Bool) (w : World) (h0 : a.size ≤ 262144) (h1 : b.size ≤ 262144) (h2 : c.size ≤ 262144) (h3 : d.size ≤ 262144) :
    Calls Try.prog 14 #[.string a, .string b, .bool x1, .bool x2, .string c, .bool x3, .string d] w fun e w' => e = .returned (.bool true) ∧ w' = w := by
  go_enter Try.func14, Try.ntmps14
  go_wp2
  go_ret
  exact ⟨rfl, rfl⟩
set_option maxHeartbeats 400000 in
theorem bytes_read_any (a b c d : ByteArray) (x1 x2 x3 : Bool) (w : World) (h0 : a.size ≤ maxLen) (h1 : b.size ≤ maxLen) (h2 : c.size ≤ maxLen) (h3 : d.size ≤ maxLen) :
    Calls Try.prog 14 #[.string a, .string b, .bool x1, .bool x2, .string c, .bool x3, .string d] w fun e w' => (∃ b, e = .returned (.bool b)) ∧ w' = w := by
  unfold maxLen at h0 h1 h2 h3
  go_enter Try.func14, Try.ntmps14
  go_wp2
  all_goals (go_ret; exact ⟨⟨_, rfl⟩, rfl⟩)

set_option maxRecDepth 100000 in
set_option maxHeartbeats 400000 in
theorem read_long (a b : ByteArray) (a1 a2 : Bool) (c : ByteArray) (a3 : Bool) (d : ByteArray) (w : World) (h0 : a.size ≤ maxLen) (h1 : b.size ≤ maxLen) (h2 : c.size ≤ maxLen) (h3 : d.size ≤ maxLen) (h : ¬ (a.size ≤ 262144 ∧ b.size ≤ 262144 ∧ c.size ≤ 262144 ∧ d.size ≤ 262144)) :
    Calls Try.prog 6 #[.string a, .string b, .bool a1, .bool a2, .string c, .bool a3, .string d] w fun e w' => e = .returned (.bool true) ∧ w' = w := by
  have hc : (262144 < a.size) ∨ (a.size ≤ 262144 ∧ 262144 < b.size) ∨ (a.size ≤ 262144 ∧ b.size ≤ 262144 ∧ 262144 < c.size) ∨ (a.size ≤ 262144 ∧ b.size ≤ 262144 ∧ c.size ≤ 262144 ∧ 262144 < d.size) := by omega
  clear h
  rcases hc with g | ⟨g, g'⟩ | ⟨g, g', g''⟩ | ⟨g, g', g'', g'''⟩
  all_goals
    go_enter Try.func6, Try.ntmps6
    go_wp2_with fail
    refine (bytes_read_any _ _ _ _ _ _ _ _ h0 h1 h2 h3).mono ?_
    rintro e w' ⟨⟨x, rfl⟩, rfl⟩
    clear h0 h1 h2 h3
    cases x
    all_goals
      go_wp2
      go_ret
      exact ⟨rfl, rfl⟩

/-! ### The plain law -/
theorem asc_eq (S E : List UInt8) (t o : Bool) (K P : List UInt8) (h : contB S E t o K = true) : contB S K true false P = (contB S E t o P && (slt P K || P == K)) := by
  have hk : holdsB E t o K = true := by simp [contB] at h; exact h.2
  have e1 : holdsB K true false P = (slt P K || P == K) := by simp [holdsB]
  cases hle : (slt P K || P == K)
  · simp [contB, e1, hle]
  · have hd : holdsB E t o P = true := by
      rw [Bool.or_eq_true] at hle
      exact holds_down _ _ _ _ _ (by rcases hle with h | h; exact .inl h; exact .inr (by simpa using h)) hk
    simp only [contB, e1, hle, hd, Bool.and_true]
theorem asc_key (S E : List UInt8) (t o : Bool) (K : List UInt8) (h : contB S E t o K = true) : contB S K true false K = true := by
  rw [asc_eq S E t o K K h, h]; simp
theorem desc_eq (S E : List UInt8) (t o : Bool) (K P : List UInt8) (h : contB S E t o K = true) : contB K E t o P = (contB S E t o P && !(slt P K)) := by
  have hs : slt K S = false := by simp [contB] at h; exact h.1
  cases hlt : slt P K
  · have hPS : slt P S = false := by
      cases e : slt P S
      · rfl
      · have : slt P K = true := by
          rcases tri K S with ⟨h1, _⟩ | h1 | ⟨_, h1, _⟩
          · rw [h1] at hs; cases hs
          · rw [h1]; exact e
          · exact slt_trans _ _ _ e h1
        rw [this] at hlt; cases hlt
    simp [contB, hlt, hPS]
  · simp [contB, hlt]
theorem desc_key (S E : List UInt8) (t o : Bool) (K : List UInt8) (h : contB S E t o K = true) : contB K E t o K = true := by
  rw [desc_eq S E t o K K h, h]; simp [slt_irr]

/-- The ways through the law, ascending. -/
theorem asc_cases (S E : List UInt8) (t o : Bool) (K P : List UInt8) (h : contB S E t o K = true) :
    ∃ C G : Bool, contB S E t o P = C ∧ contB S K true false P = G ∧
      ((C = true ∧ G = true ∧ Op.bytesLess P K = true) ∨ (C = true ∧ G = true ∧ (Op.bytesLess P K = false ∧ (P == K) = true)) ∨ (C = true ∧ G = false ∧ (Op.bytesLess P K = false ∧ (P == K) = false)) ∨ (C = false ∧ G = false ∧ True)) := by
  refine ⟨_, _, rfl, rfl, ?_⟩
  rw [asc_eq S E t o K P h]
  show _ ∨ _
  unfold slt
  cases contB S E t o P <;> cases Op.bytesLess P K <;> cases (P == K) <;> simp
theorem desc_cases (S E : List UInt8) (t o : Bool) (K P : List UInt8) (h : contB S E t o K = true) :
    ∃ C G : Bool, contB S E t o P = C ∧ contB K E t o P = G ∧
      ((C = true ∧ G = false ∧ Op.bytesLess P K = true) ∨ (C = true ∧ G = true ∧ Op.bytesLess P K = false) ∨ (C = false ∧ G = false ∧ True)) := by
  refine ⟨_, _, rfl, rfl, ?_⟩
  rw [desc_eq S E t o K P h]
  show _ ∨ _
  unfold slt
  cases contB S E t o P <;> cases Op.bytesLess P K <;> simp

set_option maxRecDepth 100000 in
set_option maxHeartbeats 400000 in
theorem read_out (a b : ByteArray) (a1 a2 : Bool) (c : ByteArray) (a3 : Bool) (d : ByteArray) (w : World) (h0 : a.size ≤ 262144) (h1 : b.size ≤ 262144) (h2 : c.size ≤ 262144) (h3 : d.size ≤ 262144) (hin : contB a.toList b.toList a1 a2 c.toList = false) :
    Calls Try.prog 6 #[.string a, .string b, .bool a1, .bool a2, .string c, .bool a3, .string d] w fun e w' => e = .returned (.bool true) ∧ More w w' := by
  go_enter Try.func6, Try.ntmps6
  go_wp2_with fail
  refine (bytes_read _ _ _ _ _ _ _ _ h0 h1 h2 h3).mono ?_
  rintro e w' ⟨rfl, rfl⟩
  go_wp2_with fail
  refine (zz_contains _ _ _ _ _ _).mono ?_
  rintro e w1 ⟨rfl, m1⟩
  go_wp2
  go_ret
  exact ⟨rfl, ((More.refl _).alloc _ _).trans m1⟩

set_option maxRecDepth 100000 in
set_option maxHeartbeats 1000000 in
theorem read_asc_law (a b : ByteArray) (a1 a2 : Bool) (c : ByteArray) (d : ByteArray) (w : World) (h0 : a.size ≤ 262144) (h1 : b.size ≤ 262144) (h2 : c.size ≤ 262144) (h3 : d.size ≤ 262144) (hin : contB a.toList b.toList a1 a2 c.toList = true) :
    Calls Try.prog 6 #[.string a, .string b, .bool a1, .bool a2, .string c, .bool false, .string d] w fun e w' => e = .returned (.bool true) ∧ More w w' := by
  have hkey := asc_key _ _ _ _ _ hin
  obtain ⟨C, G, hC, hG, hcase⟩ := asc_cases _ _ _ _ _ d.toList hin
  rcases hcase with ⟨rfl, rfl, g⟩ | ⟨rfl, rfl, g⟩ | ⟨rfl, rfl, g⟩ | ⟨rfl, rfl, g⟩
  all_goals
    go_enter Try.func6, Try.ntmps6
    go_wp2_with fail
    refine (bytes_read _ _ _ _ _ _ _ _ h0 h1 h2 h3).mono ?_
    rintro e w' ⟨rfl, rfl⟩
    go_wp2_with fail
    refine (zz_contains _ _ _ _ _ _).mono ?_
    rintro e w1 ⟨rfl, m1⟩
    have z1 : w'.heap.size < w1.heap.size := by have := m1.below.size; simp at this; omega
    have A1 := box_more (s := a) (e := b) (t := a1) (o := a2) (b := w'.heap.size) m1 (by simp) (by simp [go_sem])
    have M1 : Hid (More w' w1) := ((More.refl _).alloc _ _).trans m1
    clear m1
    go_wp2_with fail
    refine (zz_read a b a1 a2 c 0 a c true false _ (fun w => read_asc a b a1 a2 c w)).mono ?_
    rintro e w2 ⟨rfl, m2⟩
    have z2 : w'.heap.size < w2.heap.size := by have := m2.below.size; omega
    have A2 := box_more m2 z1 A1
    have M2 : Hid (More w' w2) := M1.out.trans m2
    clear m2 A1 z1 M1
    go_wp2_with fail
    refine (zz_contains _ _ _ _ _ _).mono ?_
    rintro e w3 ⟨rfl, m3⟩
    have z3 : w2.heap.size < w3.heap.size := by have := m3.below.size; simp at this; omega
    have A3 := box_more (s := a) (e := b) (t := a1) (o := a2) (b := w'.heap.size) m3 (by simp; omega) (by simpa [World.cell?_alloc_lt, z2] using A2)
    have P3 := box_more (s := a) (e := c) (t := true) (o := false) (b := w2.heap.size) m3 (by simp) (by simp [go_sem])
    have M3 : Hid (More w' w3) := (M2.out.alloc _ _).trans m3
    clear m3 A2 M2
    go_wp2_with fail
    refine (zz_contains _ _ _ _ _ _).mono ?_
    rintro e w4 ⟨rfl, m4⟩
    have P4 := box_more m4 z3 P3
    have M4 : Hid (More w' w4) := M3.out.trans m4
    clear m4 A3 P3 M3 z3
    go_wp2_with fail
    refine (zz_contains _ _ _ _ _ _).mono ?_
    rintro e w5 ⟨rfl, m5⟩
    have M5 : Hid (More w' w5) := M4.out.trans m5
    clear m5 P4 M4
    go_wp2
    go_ret
    exact ⟨rfl, M5.out⟩

set_option maxRecDepth 100000 in
set_option maxHeartbeats 1000000 in
theorem read_desc_law (a b : ByteArray) (a1 a2 : Bool) (c : ByteArray) (d : ByteArray) (w : World) (h0 : a.size ≤ 262144) (h1 : b.size ≤ 262144) (h2 : c.size ≤ 262144) (h3 : d.size ≤ 262144) (hin : contB a.toList b.toList a1 a2 c.toList = true) :
    Calls Try.prog 6 #[.string a, .string b, .bool a1, .bool a2, .string c, .bool true, .string d] w fun e w' => e = .returned (.bool true) ∧ More w w' := by
  have hkey := desc_key _ _ _ _ _ hin
  obtain ⟨C, G, hC, hG, hcase⟩ := desc_cases _ _ _ _ _ d.toList hin
  rcases hcase with ⟨rfl, rfl, g⟩ | ⟨rfl, rfl, g⟩ | ⟨rfl, rfl, g⟩
  all_goals
    go_enter Try.func6, Try.ntmps6
    go_wp2_with fail
    refine (bytes_read _ _ _ _ _ _ _ _ h0 h1 h2 h3).mono ?_
    rintro e w' ⟨rfl, rfl⟩
    go_wp2_with fail
    refine (zz_contains _ _ _ _ _ _).mono ?_
    rintro e w1 ⟨rfl, m1⟩
    have z1 : w'.heap.size < w1.heap.size := by have := m1.below.size; simp at this; omega
    have A1 := box_more (s := a) (e := b) (t := a1) (o := a2) (b := w'.heap.size) m1 (by simp) (by simp [go_sem])
    have M1 : Hid (More w' w1) := ((More.refl _).alloc _ _).trans m1
    clear m1
    go_wp2_with fail
    refine (zz_read a b a1 a2 c 1 c b a1 a2 _ (fun w => read_desc a b a1 a2 c w)).mono ?_
    rintro e w2 ⟨rfl, m2⟩
    have z2 : w'.heap.size < w2.heap.size := by have := m2.below.size; omega
    have A2 := box_more m2 z1 A1
    have M2 : Hid (More w' w2) := M1.out.trans m2
    clear m2 A1 z1 M1
    go_wp2_with fail
    refine (zz_contains _ _ _ _ _ _).mono ?_
    rintro e w3 ⟨rfl, m3⟩
    have z3 : w2.heap.size < w3.heap.size := by have := m3.below.size; simp at this; omega
    have A3 := box_more (s := a) (e := b) (t := a1) (o := a2) (b := w'.heap.size) m3 (by simp; omega) (by simpa [World.cell?_alloc_lt, z2] using A2)
    have P3 := box_more (s := c) (e := b) (t := a1) (o := a2) (b := w2.heap.size) m3 (by simp) (by simp [go_sem])
    have M3 : Hid (More w' w3) := (M2.out.alloc _ _).trans m3
    clear m3 A2 M2
    go_wp2_with fail
    refine (zz_contains _ _ _ _ _ _).mono ?_
    rintro e w4 ⟨rfl, m4⟩
    have P4 := box_more m4 z3 P3
    have M4 : Hid (More w' w4) := M3.out.trans m4
    clear m4 A3 P3 M3 z3
    go_wp2_with fail
    refine (zz_contains _ _ _ _ _ _).mono ?_
    rintro e w5 ⟨rfl, m5⟩
    have M5 : Hid (More w' w5) := M4.out.trans m5
    clear m5 P4 M4
    go_wp2
    go_ret
    exact ⟨rfl, M5.out⟩

end Go.Proofs.Qxb6003781a
