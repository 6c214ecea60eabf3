/-
  THE MAKING OF THE PARTS, shared by the two seeks' laws.
-/
import Derived.Test.Qxb6003777aSeek
import Derived.Test.Qxb6003777aSums
namespace Go.Proofs.Qxb6003777a
open Go.RowKit

/-- The zero Part's cells. -/
def partZero : Value := .agg #[.string ByteArray.empty, .int .i64 0, .slice none 0 0, .bool false, .slice none 0 0]
theorem Try.info29 : (Try.prog.info? 29).map (fun i => (i.zero, i.size, i.bytes)) = some (some partZero, 5, 80) := by kernel_rfl
theorem run_make_any {P : Program} (t e : TypeId) (z : Value) (size bytes : Nat) (ht : P.underlying t = some (.slice e)) (hinfo : (P.info? e).map (fun i => (i.zero, i.size, i.bytes)) = some (some z, size, bytes))
    (n : Nat) (hb : bytes * n ≤ 281474976710656) (h63 : n ≤ 9223372036854775807) (w : World) :
    (Instr.makeSlice t (.int .i64 (n : Int)) (.int .i64 (n : Int))).run P w = .ok (.slice (some ⟨w.heap.size, 0, none⟩) n n) (w.alloc (.cells (madeCells z.cells (n * size)) e)) := by
  obtain ⟨i, hi, hzz⟩ := Option.map_eq_some_iff.1 hinfo
  simp only [Prod.mk.injEq] at hzz
  obtain ⟨hz, hs, hbb⟩ := hzz
  have hb' : (i.bytes : Int) * (n : Int) ≤ 281474976710656 := by
    rw [hbb]
    have h : ((bytes * n : Nat) : Int) ≤ 281474976710656 := by omega
    rwa [Int.natCast_mul] at h
  have hr := run_make (P := P) w t e i z ht hi hz .i64 .i64 n n (by omega) (Int.le_refl _) hb' (by omega)
  simp only [Int.toNat_natCast, hs] at hr
  exact hr

/-- The new block of n parts. -/
def partObj (n : Nat) : Obj := .cells (madeCells partZero.cells (n * 5)) 29
theorem run_make_parts (n : Nat) (h : n ≤ 1024) (w : World) :
    (Instr.makeSlice 25 (.int .i64 (n : Int)) (.int .i64 (n : Int))).run Try.prog w = .ok (.slice (some ⟨w.heap.size, 0, none⟩) n n) (w.alloc (partObj n)) :=
  run_make_any 25 29 partZero 5 80 Try.underlying25 Try.info29 n (by omega) (by omega) w
/-- What the making of the parts knows: their row, and the length of each that is laid. -/
def Laid (w : World) (B n k o : Nat) (g : Nat → Nat) : Prop := ∃ F, w.rowIs B 29 (n * 5) F ∧ ∀ j, j < k → ∃ a, F (j * 5 + o) = .slice a (g j) (g j)

theorem laid_new (w : World) (n o : Nat) (g : Nat → Nat) : Laid (w.alloc (partObj n)) w.heap.size n 0 o g := by
  have h := World.rowIs_alloc w (madeCells partZero.cells (n * 5)) 29 (fun i => (madeCells partZero.cells (n * 5)).getD i undef) (by intro i hi; simp [hi])
  rw [size_madeCells] at h
  exact ⟨_, h, fun j hj => by omega⟩

/-- The store of part k. -/
theorem laid_step {w : World} {B n k o : Nat} {g : Nat → Nat} (h : Laid w B n k o g) (ho : o < 5) (obj : Obj) (v0 v1 v2 v3 v4 : Value) (hv : ∃ a, [v0, v1, v2, v3, v4][o]? = some (.slice a (g k) (g k))) :
    Laid ((((((w.alloc obj).setCell ⟨B, k * 5, none⟩ v0).setCell ⟨B, k * 5 + 1, none⟩ v1).setCell ⟨B, k * 5 + 2, none⟩ v2).setCell ⟨B, k * 5 + 3, none⟩ v3).setCell ⟨B, k * 5 + 4, none⟩ v4) B n (k + 1) o g := by
  obtain ⟨F, hr, hF⟩ := h
  refine ⟨_, (((((hr.alloc obj).set (k * 5) v0).set (k * 5 + 1) v1).set (k * 5 + 2) v2).set (k * 5 + 3) v3).set (k * 5 + 4) v4, ?_⟩
  intro j hj
  by_cases e : j = k
  · subst e
    obtain ⟨a, ha⟩ := hv
    refine ⟨a, ?_⟩
    rcases (by omega : o = 0 ∨ o = 1 ∨ o = 2 ∨ o = 3 ∨ o = 4) with rfl | rfl | rfl | rfl | rfl <;> simp at ha <;> simp [ha]
  · obtain ⟨a, ha⟩ := hF j (by omega)
    refine ⟨a, ?_⟩
    have h0 : j * 5 + o ≠ k * 5 := by omega
    have h1 : j * 5 + o ≠ k * 5 + 1 := by omega
    have h2 : j * 5 + o ≠ k * 5 + 2 := by omega
    have h3 : j * 5 + o ≠ k * 5 + 3 := by omega
    have h4 : j * 5 + o ≠ k * 5 + 4 := by omega
    simp only [h0, h1, h2, h3, h4, if_false, ha]
theorem below_step {w wr : World} {B b k : Nat} (h : Below b w wr) (hb : b ≤ B) (hs : b ≤ wr.heap.size) (obj : Obj) (v0 v1 v2 v3 v4 : Value) :
    Below b w ((((((wr.alloc obj).setCell ⟨B, k * 5, none⟩ v0).setCell ⟨B, k * 5 + 1, none⟩ v1).setCell ⟨B, k * 5 + 2, none⟩ v2).setCell ⟨B, k * 5 + 3, none⟩ v3).setCell ⟨B, k * 5 + 4, none⟩ v4) :=
  (((((h.alloc hs obj).setCell hb v0).setCell hb v1).setCell hb v2).setCell hb v3).setCell hb v4
theorem laid_cells {w : World} {B n o : Nat} {g : Nat → Nat} (h : Laid w B n n o g) (ho : o < 5) : ∀ i, i < n → ∃ a, w.cell? ⟨B, i * 5 + o, none⟩ = some (.slice a (g i) (g i)) := by
  obtain ⟨F, hr, hF⟩ := h
  intro i hi
  obtain ⟨a, ha⟩ := hF i hi
  exact ⟨a, by rw [hr.cell (by omega), ha]⟩
theorem laid_lt {w : World} {B n k o : Nat} {g : Nat → Nat} (h : Laid w B n k o g) : B < w.heap.size := by
  obtain ⟨F, hr, hF⟩ := h
  exact hr.lt

/-- A clone whose block is not C. -/
def HeldC (w : World) (a : Option Addr) (n C : Nat) (f : Nat → Int) : Prop := ∀ i, i < n → ∃ q, a = some ⟨q, 0, none⟩ ∧ q ≠ C ∧ w.cell? ⟨q, i, none⟩ = some (.int .i64 (f i))
theorem heldC_of {w1 w : World} {a : Option Addr} {n C : Nat} {f : Nat → Int} (h1 : Held w1 a n f) (h : Held w a n f) (hC : w1.heap.size < C) : HeldC w a n C f := by
  intro i hi
  obtain ⟨q, e, hq, _⟩ := h1 i hi
  subst e
  exact ⟨q, rfl, by omega, h.cellAt hi⟩
theorem HeldC.only {w w' : World} {a : Option Addr} {n C : Nat} {f : Nat → Int} (h : HeldC w a n C f) (ho : OnlyAt C w w') : HeldC w' a n C f := by
  intro i hi
  obtain ⟨q, e, hq, hc⟩ := h i hi
  exact ⟨q, e, hq, (ho.cell (by exact hq)).trans hc⟩
theorem HeldC.cellAt {w : World} {b n C : Nat} {f : Nat → Int} (h : HeldC w (some ⟨b, 0, none⟩) n C f) {i : Nat} (hi : i < n) : w.cell? ⟨b, i, none⟩ = some (.int .i64 (f i)) := by
  obtain ⟨b', e, _, hc⟩ := h i hi
  simp only [Option.some.injEq, Addr.mk.injEq] at e
  rw [e.1]; exact hc

end Go.Proofs.Qxb6003777a
