/-
  THE SHIMS OVER THE RANGES' FUNCTIONS, BY THEIR CONTRACTS.
-/
import Derived.Test.Qxb6003781aRange
namespace Go.Proofs.Qxb6003781a
open Go.RowKit

theorem More.cell {w w' : World} (h : More w w') {p : Addr} (hp : p.block < w.heap.size) : w'.cell? p = w.cell? p := h.below.cell hp

/-- A box of a range, in memory. -/
theorem box_more {w w' : World} (h : More w w') {b : Nat} (hb : b < w.heap.size) {s e : ByteArray} {t o : Bool}
    (hs : w.cell? ⟨b, 0, none⟩ = some (.string s) ∧ w.cell? ⟨b, 1, none⟩ = some (.string e) ∧ w.cell? ⟨b, 2, none⟩ = some (.bool t) ∧ w.cell? ⟨b, 3, none⟩ = some (.bool o)) :
    w'.cell? ⟨b, 0, none⟩ = some (.string s) ∧ w'.cell? ⟨b, 1, none⟩ = some (.string e) ∧ w'.cell? ⟨b, 2, none⟩ = some (.bool t) ∧ w'.cell? ⟨b, 3, none⟩ = some (.bool o) :=
  ⟨(h.cell (by exact hb)).trans hs.1, (h.cell (by exact hb)).trans hs.2.1, (h.cell (by exact hb)).trans hs.2.2.1, (h.cell (by exact hb)).trans hs.2.2.2⟩

theorem zz_holds (s e : ByteArray) (t o : Bool) (k : ByteArray) (w : World) :
    Calls Try.prog 13 #[.agg #[.string s, .string e, .bool t, .bool o], .string k] w fun r w' => r = .returned (.bool (holdsB e.toList t o k.toList)) ∧ More w w' := by
  go_enter Try.func13, Try.ntmps13
  go_wp2_with fail
  refine (zz_in s e t o _).mono ?_
  rintro r w1 ⟨rfl, m1⟩
  go_wp2_with fail
  refine (holds_any s e t o k _).mono ?_
  rintro r w2 ⟨rfl, m2⟩
  go_wp2
  go_ret
  exact ⟨rfl, (((More.refl _).alloc _ _).trans m1).trans m2⟩

/-- keyRange.contains. -/
def contB (S : List UInt8) (E : List UInt8) (t o : Bool) (K : List UInt8) : Bool := !(slt K S) && holdsB E t o K

set_option maxHeartbeats 400000 in
theorem contains_any (s e : ByteArray) (t o : Bool) (k : ByteArray) (w : World) :
    Calls Try.prog 21 #[.agg #[.string s, .string e, .bool t, .bool o], .string k] w fun r w' => r = .returned (.bool (contB s.toList e.toList t o k.toList)) ∧ More w w' := by
  by_cases h : Op.bytesLess k.toList s.toList = true
  · go_enter Try.func21, Try.ntmps21
    go_wp2
    go_ret
    exact ⟨by simp [contB, slt, h], (More.refl _).alloc _ _⟩
  · have h' : Op.bytesLess k.toList s.toList = false := by simpa using h
    clear h
    go_enter Try.func21, Try.ntmps21
    go_wp2_with fail
    refine (holds_any s e t o k _).mono ?_
    rintro r w2 ⟨rfl, m2⟩
    go_wp2
    go_ret
    exact ⟨by simp [contB, slt, h'], ((More.refl _).alloc _ _).trans m2⟩

theorem zz_contains (s e : ByteArray) (t o : Bool) (k : ByteArray) (w : World) :
    Calls Try.prog 15 #[.agg #[.string s, .string e, .bool t, .bool o], .string k] w fun r w' => r = .returned (.bool (contB s.toList e.toList t o k.toList)) ∧ More w w' := by
  go_enter Try.func15, Try.ntmps15
  go_wp2_with fail
  refine (zz_in s e t o _).mono ?_
  rintro r w1 ⟨rfl, m1⟩
  go_wp2_with fail
  refine (contains_any s e t o k _).mono ?_
  rintro r w2 ⟨rfl, m2⟩
  go_wp2
  go_ret
  exact ⟨rfl, (((More.refl _).alloc _ _).trans m1).trans m2⟩

set_option maxHeartbeats 400000 in
theorem same_top (s e : ByteArray) (t o : Bool) (s' e' : ByteArray) (t' o' : Bool) (w : World) :
    Calls Try.prog 11 #[.agg #[.string s, .string e, .bool t, .bool o], .agg #[.string s', .string e', .bool t', .bool o']] w fun r w' => r = .returned (.bool (sameB e.toList t o e'.toList t' o')) ∧ More w w' := by
  cases o
  · cases o'
    · by_cases h : (e.toList == e'.toList) = true
      · go_enter Try.func11, Try.ntmps11
        go_wp2
        go_ret
        exact ⟨by simp [sameB, h], ((More.refl _).alloc _ _).alloc _ _⟩
      · have h' : (e.toList == e'.toList) = false := by simpa using h
        clear h
        go_enter Try.func11, Try.ntmps11
        go_wp2
        go_ret
        exact ⟨by simp [sameB, h'], ((More.refl _).alloc _ _).alloc _ _⟩
    · go_enter Try.func11, Try.ntmps11
      go_wp2
      go_ret
      exact ⟨rfl, ((More.refl _).alloc _ _).alloc _ _⟩
  · go_enter Try.func11, Try.ntmps11
    go_wp2
    go_ret
    exact ⟨by simp [sameB], ((More.refl _).alloc _ _).alloc _ _⟩

set_option maxHeartbeats 400000 in
theorem read_desc (s e : ByteArray) (t o : Bool) (k : ByteArray) (w : World) :
    Calls Try.prog 23 #[.agg #[.string s, .string e, .bool t, .bool o], .string k, .int .i64 1] w fun r w' => r = .returned (.agg #[.string k, .string e, .bool t, .bool o]) ∧ More w w' := by
  go_enter Try.func23, Try.ntmps23
  go_wp2
  exact bodyPost_ret (v := .agg #[.string k, .string e, .bool t, .bool o]) (by simp [results, Try.results23, go_sem]) rfl ⟨rfl, ((More.refl _).alloc _ _).alloc _ _⟩
set_option maxHeartbeats 400000 in
theorem read_asc (s e : ByteArray) (t o : Bool) (k : ByteArray) (w : World) :
    Calls Try.prog 23 #[.agg #[.string s, .string e, .bool t, .bool o], .string k, .int .i64 0] w fun r w' => r = .returned (.agg #[.string s, .string k, .bool true, .bool false]) ∧ More w w' := by
  go_enter Try.func23, Try.ntmps23
  go_wp2
  exact bodyPost_ret (v := .agg #[.string s, .string k, .bool true, .bool false]) (by simp [results, Try.results23, go_sem]) rfl ⟨rfl, ((More.refl _).alloc _ _).alloc _ _⟩

theorem More.setCell {a w : World} (h : More a w) {p : Addr} (hp : a.heap.size ≤ p.block) (v : Value) : More a (w.setCell p v) := ⟨h.below.setCell hp v, fun x => (World.frozen?_setCell _ _ _ _).trans (h.frozen x)⟩

set_option maxHeartbeats 400000 in
theorem zz_read (s e : ByteArray) (t o : Bool) (k : ByteArray) (n : Int) (s2 e2 : ByteArray) (t2 o2 : Bool) (w : World)
    (hr : ∀ w, Calls Try.prog 23 #[.agg #[.string s, .string e, .bool t, .bool o], .string k, .int .i64 n] w fun r w' => r = .returned (.agg #[.string s2, .string e2, .bool t2, .bool o2]) ∧ More w w') :
    Calls Try.prog 16 #[.agg #[.string s, .string e, .bool t, .bool o], .string k, .int .i64 n] w fun r w' => r = .returned (.agg #[.string s2, .string e2, .bool t2, .bool o2]) ∧ More w w' := by
  have HR := show Hid _ from hr
  clear hr
  go_enter Try.func16, Try.ntmps16
  go_wp2_with fail
  refine (zz_in s e t o _).mono ?_
  rintro r w1 ⟨rfl, m1⟩
  go_wp2_with fail
  refine (HR.out _).mono ?_
  rintro r w2 ⟨rfl, m2⟩
  go_wp2_with fail
  refine (zz_out s2 e2 t2 o2 _).mono ?_
  rintro r w3 ⟨rfl, m3⟩
  have M : More _ w3 := (m1.trans m2).trans m3
  clear m1 m2 m3
  have x0 := M.cell (p := ⟨w.heap.size + 1, 0, none⟩) (by simp)
  have x1 := M.cell (p := ⟨w.heap.size + 1, 1, none⟩) (by simp)
  have x2 := M.cell (p := ⟨w.heap.size + 1, 2, none⟩) (by simp)
  have x3 := M.cell (p := ⟨w.heap.size + 1, 3, none⟩) (by simp)
  have y := M.frozen
  simp [go_sem] at x0 x1 x2 x3
  have y' : ∀ o, w3.frozen? ⟨w.heap.size + 1, o, none⟩ = false := fun o => by rw [y]; simp [go_sem]
  have HM := show Hid _ from M
  clear y M
  go_wp2
  refine bodyPost_ret (v := .agg #[.string s2, .string e2, .bool t2, .bool o2]) (by simp [results, Try.results16, go_sem, *]) rfl ⟨rfl, ?_⟩
  exact ((((((More.refl _).alloc _ _).alloc _ _).trans HM.out).setCell (by simp) _).setCell (by simp) _).setCell (by simp) _ |>.setCell (by simp) _

set_option maxRecDepth 100000 in
set_option maxHeartbeats 400000 in
theorem zz_ends (s e : ByteArray) (t o : Bool) (s' e' : ByteArray) (t' o' : Bool) (w : World) :
    Calls Try.prog 10 #[.agg #[.string s, .string e, .bool t, .bool o], .agg #[.string s', .string e', .bool t', .bool o']] w fun r w' => r = .returned (.bool (endsB e.toList t o e'.toList t' o')) ∧ More w w' := by
  go_enter Try.func10, Try.ntmps10
  go_wp2
  have M0 : More w ((w.alloc (.cells #[.string s, .string e, .bool t, .bool o] 27)).alloc (.cells #[.string s', .string e', .bool t', .bool o'] 27)) := ((More.refl _).alloc _ _).alloc _ _
  obtain ⟨W, hW⟩ : ∃ W, W = (w.alloc (.cells #[.string s, .string e, .bool t, .bool o] 27)).alloc (.cells #[.string s', .string e', .bool t', .bool o'] 27) := ⟨_, rfl⟩
  have b1 : W.cell? ⟨w.heap.size, 0, none⟩ = some (.string s) ∧ W.cell? ⟨w.heap.size, 1, none⟩ = some (.string e) ∧ W.cell? ⟨w.heap.size, 2, none⟩ = some (.bool t) ∧ W.cell? ⟨w.heap.size, 3, none⟩ = some (.bool o) := by
    rw [hW]; simp [go_sem]
  have b2 : W.cell? ⟨w.heap.size + 1, 0, none⟩ = some (.string s') ∧ W.cell? ⟨w.heap.size + 1, 1, none⟩ = some (.string e') ∧ W.cell? ⟨w.heap.size + 1, 2, none⟩ = some (.bool t') ∧ W.cell? ⟨w.heap.size + 1, 3, none⟩ = some (.bool o') := by
    rw [hW]; simp [go_sem]
  have hz : w.heap.size + 1 < W.heap.size := by rw [hW]; simp
  rw [← hW] at M0 ⊢
  have HW := show Hid _ from hW
  clear hW
  have N0 : More W W.drew := (More.refl _).drew
  have B1 := show Hid _ from b1
  have B2 := show Hid _ from b2
  clear b1 b2
  go_region_held3 (fun w' => (w'.cell? ⟨w.heap.size, 0, none⟩ = some (.string s) ∧ w'.cell? ⟨w.heap.size, 1, none⟩ = some (.string e) ∧ w'.cell? ⟨w.heap.size, 2, none⟩ = some (.bool t) ∧ w'.cell? ⟨w.heap.size, 3, none⟩ = some (.bool o)) ∧ (w'.cell? ⟨w.heap.size + 1, 0, none⟩ = some (.string s') ∧ w'.cell? ⟨w.heap.size + 1, 1, none⟩ = some (.string e') ∧ w'.cell? ⟨w.heap.size + 1, 2, none⟩ = some (.bool t') ∧ w'.cell? ⟨w.heap.size + 1, 3, none⟩ = some (.bool o')))
    (first | exact ⟨box_more N2 (by omega) B1.out, box_more N2 (by omega) B2.out⟩ | exact ⟨box_more N1 (by omega) B1.out, box_more N1 (by omega) B2.out⟩ | exact ⟨box_more N0 (by omega) B1.out, box_more N0 (by omega) B2.out⟩)
    (first
      | (go_at_call 19; refine (ends_any s e t o s' e' t' o' _).mono ?_; rintro r w3 ⟨rfl, m3⟩; have N3 := N2.trans m3; have N2 := N3)
      | (go_at_call_of 18 (Value.string e); refine (zz_in s e t o _).mono ?_; rintro r w2 ⟨rfl, m2⟩; first | have N2 := N1.trans m2 | have N1 := N0.trans m2)
      | (go_at_call_of 18 (Value.string e'); refine (zz_in s' e' t' o' _).mono ?_; rintro r w2 ⟨rfl, m2⟩; first | have N2 := N1.trans m2 | have N1 := N0.trans m2))
  go_wp2
  go_ret
  exact ⟨rfl, M0.trans N2⟩

end Go.Proofs.Qxb6003781a
