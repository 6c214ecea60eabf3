/-
  SHARED BY THE THREE LAWS OF THE SEAT: the source row of integers; zzBytes; zzCloneInts.
-/
import Derived.Test.Qxb6003777aRows
import Derived.WalkKit
import Derived.WalkSpells
import Derived.WalkLawsBesides
import Derived.OpenShut
import Derived.Deep.OwnRows
import Derived.Deep.QuietTactic
import Derived.BigQuiet
namespace Go.Proofs.Qxb6003777a
open Go.RowKit

theorem Try.info3 : (Try.prog.info? 3).map (fun i => (i.zero, i.size, i.bytes)) = some (some (.int .i64 0), 1, 8) := by kernel_rfl

/-- The numbers 'f 0', 'f 1', .. lie in the world at the address 'x', 'len' of them (nothing is said where len = 0). -/
def Src (w : World) (x : Addr) (len : Nat) (f : Nat → Int) : Prop :=
  ∀ i, i < len → ∃ b off, x = ⟨b, off, none⟩ ∧ b < w.heap.size ∧ w.cell? ⟨b, off + i, none⟩ = some (.int .i64 (f i))

/-- A slice value of 'len' numbers: nil, or at an address. -/
def Row (w : World) (a : Option Addr) (len cap : Nat) (f : Nat → Int) : Prop := (a = none ∧ len = 0 ∧ cap = 0) ∨ ∃ x, a = some x ∧ Src w x len f

/-- A slice that begins at the head of a block: its 'len' cells. -/
def Held (w : World) (a : Option Addr) (len : Nat) (f : Nat → Int) : Prop :=
  ∀ i, i < len → ∃ b, a = some ⟨b, 0, none⟩ ∧ b < w.heap.size ∧ w.cell? ⟨b, i, none⟩ = some (.int .i64 (f i))

theorem src_of {w : World} {x : Addr} {len : Nat} {zs : List Int} (hl : len ≤ zs.length)
    (hc : ∀ i, i < zs.length → w.cell? (x.add i) = some (.int .i64 (zs.getD i 0))) : Src w x len (fun i => zs.getD i 0) := by
  intro i hi
  obtain ⟨b, off, rfl, h⟩ := Go.ints_at hc (by omega)
  exact ⟨b, off, rfl, World.block_lt_of_cell? _ _ (h i (by omega)), h i (by omega)⟩

theorem Src.below {w w' : World} {x : Addr} {len : Nat} {f : Nat → Int} (h : Src w x len f) (hb : Below w.heap.size w w') : Src w' x len f := by
  intro i hi
  obtain ⟨b, off, rfl, hlt, hc⟩ := h i hi
  exact ⟨b, off, rfl, by have := hb.size; omega, (hb.cell (by exact hlt)).trans hc⟩
theorem Row.below {w w' : World} {a : Option Addr} {len cap : Nat} {f : Nat → Int} (h : Row w a len cap f) (hb : Below w.heap.size w w') : Row w' a len cap f := by
  rcases h with h | ⟨x, e, h⟩
  · exact .inl h
  · exact .inr ⟨x, e, h.below hb⟩
theorem Held.below {w w' : World} {a : Option Addr} {len : Nat} {f : Nat → Int} (h : Held w a len f) (hb : Below w.heap.size w w') : Held w' a len f := by
  intro i hi
  obtain ⟨b, e, hlt, hc⟩ := h i hi
  exact ⟨b, e, by have := hb.size; omega, (hb.cell (by exact hlt)).trans hc⟩
theorem Held.cellAt {w : World} {b : Nat} {len : Nat} {f : Nat → Int} (h : Held w (some ⟨b, 0, none⟩) len f) {i : Nat} (hi : i < len) : w.cell? ⟨b, i, none⟩ = some (.int .i64 (f i)) := by
  obtain ⟨b', e, _, hc⟩ := h i hi
  simp only [Option.some.injEq, Addr.mk.injEq] at e
  rw [e.1]; exact hc

/-! ### zzBytes: for the lengths that matter it says yes; else it says something -/
theorem bytes_meet (a0 a1 : Option Addr) (l0 c0 l1 c1 : Nat) (w : World) (h0 : l0 ≤ 1024) (h1 : l1 ≤ 1024) :
    Calls Try.prog 14 #[.slice a0 l0 c0, .slice a1 l1 c1] w fun e w' => e = .returned (.bool true) ∧ w' = w := by
  go_enter Try.func14, Try.ntmps14
  go_wp2
  go_ret
  exact ⟨rfl, rfl⟩
theorem bytes_meet_any (a0 a1 : Option Addr) (l0 c0 l1 c1 : Nat) (w : World) (h0 : l0 ≤ maxLen) (h1 : l1 ≤ maxLen) :
    Calls Try.prog 14 #[.slice a0 l0 c0, .slice a1 l1 c1] w fun e w' => (∃ b, e = .returned (.bool b)) ∧ w' = w := by
  unfold maxLen at h0 h1
  go_enter Try.func14, Try.ntmps14
  go_wp2
  all_goals (go_ret; exact ⟨⟨_, rfl⟩, rfl⟩)
theorem bytes_ref (a0 : Option Addr) (l0 c0 : Nat) (p r : Int) (w : World) (h0 : l0 ≤ 1024) :
    Calls Try.prog 6 #[.slice a0 l0 c0, .int .i64 p, .int .i64 r] w fun e w' => e = .returned (.bool true) ∧ w' = w := by
  go_enter Try.func6, Try.ntmps6
  go_wp2
  go_ret
  exact ⟨rfl, rfl⟩
theorem bytes_ref_any (a0 : Option Addr) (l0 c0 : Nat) (p r : Int) (w : World) (h0 : l0 ≤ maxLen) :
    Calls Try.prog 6 #[.slice a0 l0 c0, .int .i64 p, .int .i64 r] w fun e w' => (∃ b, e = .returned (.bool b)) ∧ w' = w := by
  unfold maxLen at h0
  go_enter Try.func6, Try.ntmps6
  go_wp2
  all_goals (go_ret; exact ⟨⟨_, rfl⟩, rfl⟩)
theorem bytes_line (a0 : Option Addr) (l0 c0 : Nat) (p r : Int) (w : World) (h0 : l0 ≤ 1024) :
    Calls Try.prog 12 #[.slice a0 l0 c0, .int .i64 p, .int .i64 r] w fun e w' => e = .returned (.bool true) ∧ w' = w := by
  go_enter Try.func12, Try.ntmps12
  go_wp2
  go_ret
  exact ⟨rfl, rfl⟩
theorem bytes_line_any (a0 : Option Addr) (l0 c0 : Nat) (p r : Int) (w : World) (h0 : l0 ≤ maxLen) :
    Calls Try.prog 12 #[.slice a0 l0 c0, .int .i64 p, .int .i64 r] w fun e w' => (∃ b, e = .returned (.bool b)) ∧ w' = w := by
  unfold maxLen at h0
  go_enter Try.func12, Try.ntmps12
  go_wp2
  all_goals (go_ret; exact ⟨⟨_, rfl⟩, rfl⟩)

/-! ### zzCloneInts -/
theorem clone_nil (w : World) :
    Calls Try.prog 7 #[.slice none 0 0] w fun e w' => e = .returned (.slice none 0 0) ∧ w' = w := by
  have hnl := fun (w : World) a n c => Lib.run_eql_slice_nil (P := Try.prog) w 22 3 a n c 0 0 Try.underlying22
  go_enter Try.func7, Try.ntmps7
  go_wp2
  go_ret
  exact ⟨rfl, rfl⟩

set_option maxHeartbeats 400000 in
theorem clone_some (x : Addr) (len cap : Nat) (f : Nat → Int) (w : World) (hl : len ≤ 1024) (hs : Src w x len f) :
    Calls Try.prog 7 #[.slice (some x) len cap] w fun e w' => e = .returned (.slice (some ⟨w.heap.size, 0, none⟩) len len) ∧ w'.rowIs w.heap.size 3 len (fun i => .int .i64 (f i)) ∧ Below w.heap.size w w' ∧ w'.heap.size = w.heap.size + 1 := by
  have hmk := run_make_row' (P := Try.prog) 22 3 (.int .i64 0) 8 Try.underlying22 Try.info3 rfl .i64 .i64 len (by omega) (by omega)
  have hnl := fun (w : World) a n c => Lib.run_eql_slice_nil (P := Try.prog) w 22 3 a n c 0 0 Try.underlying22
  go_enter Try.func7, Try.ntmps7
  go_wp2
  go_loopw [4] (fun i wr => ∃ k : Nat, k ≤ len ∧ i = .int .i64 k ∧ wr.rowIs w.heap.size 3 len (fun i => .int .i64 (if i < k then f i else 0)) ∧ Below w.heap.size w wr ∧ wr.heap.size = w.heap.size + 1) (fun i _ => len - (intOf i).toNat)
  case atStart =>
    refine ⟨0, Nat.zero_le _, rfl, ?_, (Below.refl _ _).alloc (Nat.le_refl _) _, by simp⟩
    exact (World.rowIs_made w (.int .i64 0) len 3).congr (by intro i hi; simp)
  case round =>
    obtain ⟨k, hk, rfl, hrow, hbel, hsz⟩ := hrel
    by_cases hlt : k < len
    · obtain ⟨b, off, rfl, hbb, hc⟩ := hs k hlt
      have hcell : wr.cell? ⟨b, off + k, none⟩ = some (.int .i64 (f k)) := (hbel.cell (by exact hbb)).trans hc
      have hcw := hrow.cell hlt
      have hfw := hrow.frozen k
      have R1 : Hid ((wr.setCell ⟨w.heap.size, k, none⟩ (.int .i64 (f k))).rowIs w.heap.size 3 len (fun i => .int .i64 (if i < k + 1 then f i else 0))) := by
        refine (hrow.set k (.int .i64 (f k))).congr ?_
        intro j hj
        by_cases e : j = k
        · subst e; simp
        · by_cases e2 : j < k
          · simp [e, e2, Nat.lt_succ_of_lt e2]
          · have : ¬ j < k + 1 := by omega
            simp [e, e2, this]
      have R2 : Hid (Below w.heap.size w (wr.setCell ⟨w.heap.size, k, none⟩ (.int .i64 (f k)))) := hbel.setCell (Nat.le_refl _) _
      go_wp2
      go_roundw
      case rel => exact ⟨k + 1, by omega, by go_num, by simpa using R1.out, by simpa using R2.out, by simpa [World.setCell] using hsz⟩
      case measure => simp [intOf]; omega
    · have R1 : Hid (wr.rowIs w.heap.size 3 len (fun i => .int .i64 (f i))) := by
        refine hrow.congr ?_
        intro j hj
        have : j < k := by omega
        simp [this]
      go_wp2
      go_ret
      exact ⟨rfl, R1.out, hbel, hsz⟩

theorem clone_any (a : Option Addr) (len cap : Nat) (f : Nat → Int) (w : World) (hl : len ≤ 1024) (hs : Row w a len cap f) :
    Calls Try.prog 7 #[.slice a len cap] w fun e w' => ∃ a', e = .returned (.slice a' len len) ∧ Held w' a' len f ∧ Below w.heap.size w w' := by
  rcases hs with ⟨rfl, rfl, rfl⟩ | ⟨x, rfl, hs⟩
  · exact (clone_nil w).mono fun e w' ⟨he, hw⟩ => ⟨none, he, (by intro i hi; omega), by rw [hw]; exact Below.refl _ _⟩
  · refine (clone_some x len cap f w hl hs).mono fun e w' ⟨he, hr, hb, hz⟩ => ⟨_, he, ?_, hb⟩
    intro i hi
    exact ⟨w.heap.size, rfl, by omega, hr.cell hi⟩

end Go.Proofs.Qxb6003777a
