/-
  THE RANGES' FUNCTIONS BY THEIR CONTRACTS.
-/
import Derived.Test.Qxb6003781aRows
import Derived.Test.Qxb6003781aOrder
import Derived.WalkKit
import Derived.WalkSpells
import Derived.WalkLawsBesides
import Derived.Deep.RegionHeld3
namespace Go.Proofs.Qxb6003781a
open Go.RowKit

/-- w' is w with new blocks. -/
structure More (w w' : World) : Prop where
  below : Below w.heap.size w w'
  frozen : ∀ a, w'.frozen? a = w.frozen? a

theorem More.refl (w : World) : More w w := ⟨Below.refl _ _, fun _ => rfl⟩
theorem More.trans {a b c : World} (h : More a b) (k : More b c) : More a c := ⟨h.below.trans (k.below.mono h.below.size), fun x => (k.frozen x).trans (h.frozen x)⟩
theorem More.alloc {a w : World} (h : More a w) (c : Array Value) (t : TypeId) : More a (w.alloc (.cells c t)) := h.trans ⟨(Below.refl _ _).alloc (Nat.le_refl _) _, fun x => frozen?_alloc_cells w c t x⟩
theorem More.drew {a w : World} (h : More a w) : More a w.drew := ⟨h.below.drew, h.frozen⟩
theorem More.grown {w w' : World} (h : More w w') : Grown w w' := ⟨h.below.frame _, h.frozen, h.below.size⟩

theorem zz_in (s e : ByteArray) (t o : Bool) (w : World) :
    Calls Try.prog 18 #[.agg #[.string s, .string e, .bool t, .bool o]] w fun r w' => r = .returned (.agg #[.string s, .string e, .bool t, .bool o]) ∧ More w w' := by
  go_enter Try.func18, Try.ntmps18
  go_wp2
  exact bodyPost_ret (v := .agg #[.string s, .string e, .bool t, .bool o]) (by simp [results, Try.results18, go_sem]) rfl ⟨rfl, ((More.refl _).alloc _ _).alloc _ _⟩
theorem zz_out (s e : ByteArray) (t o : Bool) (w : World) :
    Calls Try.prog 22 #[.agg #[.string s, .string e, .bool t, .bool o]] w fun r w' => r = .returned (.agg #[.string s, .string e, .bool t, .bool o]) ∧ More w w' := by
  go_enter Try.func22, Try.ntmps22
  go_wp2
  exact bodyPost_ret (v := .agg #[.string s, .string e, .bool t, .bool o]) (by simp [results, Try.results22, go_sem]) rfl ⟨rfl, ((More.refl _).alloc _ _).alloc _ _⟩

set_option maxHeartbeats 400000 in
theorem holds_any (s e : ByteArray) (t o : Bool) (k : ByteArray) (w : World) :
    Calls Try.prog 20 #[.agg #[.string s, .string e, .bool t, .bool o], .string k] w fun r w' => r = .returned (.bool (holdsB e.toList t o k.toList)) ∧ More w w' := by
  cases o
  · cases t
    · go_enter Try.func20, Try.ntmps20
      go_wp2
      go_ret
      exact ⟨rfl, (More.refl _).alloc _ _⟩
    · go_enter Try.func20, Try.ntmps20
      go_wp2
      go_ret
      exact ⟨rfl, (More.refl _).alloc _ _⟩
  · go_enter Try.func20, Try.ntmps20
    go_wp2
    go_ret
    exact ⟨rfl, (More.refl _).alloc _ _⟩

set_option maxHeartbeats 400000 in
theorem ends_any (s e : ByteArray) (t o : Bool) (s' e' : ByteArray) (t' o' : Bool) (w : World) :
    Calls Try.prog 19 #[.agg #[.string s, .string e, .bool t, .bool o], .agg #[.string s', .string e', .bool t', .bool o']] w fun r w' => r = .returned (.bool (endsB e.toList t o e'.toList t' o')) ∧ More w w' := by
  cases o'
  · cases o
    · by_cases h : (e.toList == e'.toList) = true
      · cases t
        · go_enter Try.func19, Try.ntmps19
          go_wp2
          go_ret
          exact ⟨by simp [endsB, h], ((More.refl _).alloc _ _).alloc _ _⟩
        · go_enter Try.func19, Try.ntmps19
          go_wp2
          go_ret
          exact ⟨by simp [endsB, h], ((More.refl _).alloc _ _).alloc _ _⟩
      · have h' : (e.toList == e'.toList) = false := by simpa using h
        clear h
        go_enter Try.func19, Try.ntmps19
        go_wp2
        go_ret
        exact ⟨by simp [endsB, h', slt], ((More.refl _).alloc _ _).alloc _ _⟩
    · go_enter Try.func19, Try.ntmps19
      go_wp2
      go_ret
      exact ⟨rfl, ((More.refl _).alloc _ _).alloc _ _⟩
  · go_enter Try.func19, Try.ntmps19
    go_wp2
    go_ret
    exact ⟨rfl, ((More.refl _).alloc _ _).alloc _ _⟩

end Go.Proofs.Qxb6003781a
