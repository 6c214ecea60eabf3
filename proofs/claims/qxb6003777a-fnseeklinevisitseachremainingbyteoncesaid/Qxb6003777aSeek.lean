/-
  The chunk's walk: ZZG2NewChunk, ZZG2Frame, ZZG2SetFrame, nextPart, seekRef, seekLine by their contracts.
-/
import Derived.Test.Qxb6003777aBase
namespace Go.Proofs.Qxb6003777a
open Go.RowKit

/-- w' is w but for what block C holds. -/
structure OnlyAt (C : Nat) (w w' : World) : Prop where
  os : w'.os = w.os
  tape : w'.tape = w.tape
  output : w'.output = w.output
  size : w'.heap.size = w.heap.size
  block : ∀ k, k ≠ C → w'.heap[k]? = w.heap[k]?

theorem OnlyAt.refl (C : Nat) (w : World) : OnlyAt C w w := ⟨rfl, rfl, rfl, rfl, fun _ _ => rfl⟩
theorem OnlyAt.trans {C : Nat} {a b c : World} (h : OnlyAt C a b) (k : OnlyAt C b c) : OnlyAt C a c :=
  ⟨k.os.trans h.os, k.tape.trans h.tape, k.output.trans h.output, k.size.trans h.size, fun i hi => (k.block i hi).trans (h.block i hi)⟩
theorem OnlyAt.setCell {C : Nat} {a w : World} (h : OnlyAt C a w) (o : Nat) (u : Value) : OnlyAt C a (w.setCell ⟨C, o, none⟩ u) :=
  h.trans ⟨rfl, rfl, rfl, by simp [World.setCell], fun k hk => Below.heap_setCell _ _ _ _ hk⟩
theorem OnlyAt.drewN {C : Nat} {a w : World} (h : OnlyAt C a w) (n : Nat) : OnlyAt C a (w.drewN n) := h.trans ⟨rfl, rfl, rfl, rfl, fun _ _ => rfl⟩
theorem OnlyAt.below {C B : Nat} {a w : World} (h : OnlyAt C a w) (hB : B ≤ C) : Below B a w := ⟨h.os, h.tape, h.output, Nat.le_of_eq h.size.symm, fun k hk => h.block k (by omega)⟩
theorem OnlyAt.cell {C : Nat} {w w' : World} (h : OnlyAt C w w') {p : Addr} (hp : p.block ≠ C) : w'.cell? p = w.cell? p := World.cell?_of_block (w := w) (h.block p.block hp)

/-- Block C holds a chunk: its parts lie at block B, n of them; its frame stands at p, r, s, l. -/
structure Chunk (w : World) (C B n : Nat) (p r s l : Int) : Prop where
  parts : w.cell? ⟨C, 2, none⟩ = some (.slice (some ⟨B, 0, none⟩) n n)
  c4 : w.cell? ⟨C, 4, none⟩ = some (.int .i64 p)
  c5 : w.cell? ⟨C, 5, none⟩ = some (.int .i64 r)
  c6 : w.cell? ⟨C, 6, none⟩ = some (.int .i64 s)
  c7 : w.cell? ⟨C, 7, none⟩ = some (.int .i64 l)
  fr : ∀ o, w.frozen? ⟨C, o, none⟩ = false

theorem cset_ne {w : World} {C o o' : Nat} {u : Value} (h : o ≠ o') : (w.setCell ⟨C, o, none⟩ u).cell? ⟨C, o', none⟩ = w.cell? ⟨C, o', none⟩ :=
  World.cell?_setCell_other _ _ _ _ (fun e => h (by injection e))
theorem cset_eq {w : World} {C o : Nat} {u v : Value} (h : w.cell? ⟨C, o, none⟩ = some v) : (w.setCell ⟨C, o, none⟩ u).cell? ⟨C, o, none⟩ = some u := World.cell?_setCell_same _ _ _ h

/-- The four stores of a new frame. -/
theorem Chunk.put {w : World} {C B n : Nat} {p r s l : Int} (h : Chunk w C B n p r s l) (p' r' s' l' : Int) :
    Chunk ((((w.setCell ⟨C, 4, none⟩ (.int .i64 p')).setCell ⟨C, 5, none⟩ (.int .i64 r')).setCell ⟨C, 6, none⟩ (.int .i64 s')).setCell ⟨C, 7, none⟩ (.int .i64 l')) C B n p' r' s' l' := by
  obtain ⟨hp, h4, h5, h6, h7, hf⟩ := h
  refine ⟨?_, ?_, ?_, ?_, ?_, ?_⟩
  · rw [cset_ne (by decide), cset_ne (by decide), cset_ne (by decide), cset_ne (by decide)]; exact hp
  · rw [cset_ne (by decide), cset_ne (by decide), cset_ne (by decide), cset_eq h4]
  · rw [cset_ne (by decide), cset_ne (by decide), cset_eq (v := .int .i64 r)]; rw [cset_ne (by decide)]; exact h5
  · rw [cset_ne (by decide), cset_eq (v := .int .i64 s)]; rw [cset_ne (by decide), cset_ne (by decide)]; exact h6
  · rw [cset_eq (v := .int .i64 l)]; rw [cset_ne (by decide), cset_ne (by decide), cset_ne (by decide)]; exact h7
  · intro o; simp [hf o]
theorem Chunk.put_only {w : World} {C : Nat} (p' r' s' l' : Int) :
    OnlyAt C w ((((w.setCell ⟨C, 4, none⟩ (.int .i64 p')).setCell ⟨C, 5, none⟩ (.int .i64 r')).setCell ⟨C, 6, none⟩ (.int .i64 s')).setCell ⟨C, 7, none⟩ (.int .i64 l')) :=
  ((((OnlyAt.refl C w).setCell _ _).setCell _ _).setCell _ _).setCell _ _
theorem Chunk.drewN {w : World} {C B n : Nat} {p r s l : Int} (h : Chunk w C B n p r s l) (m : Nat) : Chunk (w.drewN m) C B n p r s l := ⟨h.1, h.2, h.3, h.4, h.5, h.6⟩

set_option maxHeartbeats 400000 in
theorem next_part (C B n : Nat) (p r s l : Int) (w : World) (h : Chunk w C B n p r s l) (h0 : 0 ≤ p) (h1 : p < 1024) :
    Calls Try.prog 19 #[.pointer (some ⟨C, 3, none⟩)] w fun e w' => e = .returned (.tuple #[]) ∧ Chunk w' C B n (p + 1) 0 0 0 ∧ OnlyAt C w w' := by
  have H : Hid _ := h.put (p + 1) 0 0 0
  obtain ⟨hp, h4, h5, h6, h7, hf⟩ := h
  go_enter Try.func19, Try.ntmps19
  go_wp2
  go_end0
  exact ⟨rfl, H.out, Chunk.put_only _ _ _ _⟩

set_option maxHeartbeats 400000 in
theorem frame_any (C B n : Nat) (p r s l : Int) (w : World) (h : Chunk w C B n p r s l) :
    Calls Try.prog 10 #[.pointer (some ⟨C, 0, none⟩)] w fun e w' => e = .returned (.tuple #[.int .i64 p, .int .i64 r, .int .i64 s, .int .i64 l]) ∧ ∃ m, w' = w.drewN m := by
  obtain ⟨hp, h4, h5, h6, h7, hf⟩ := h
  go_enter Try.func10, Try.ntmps10
  go_wp2
  go_quiet (fail)
  go_wp2
  exact bodyPost_ret (v := .tuple #[.int .i64 p, .int .i64 r, .int .i64 s, .int .i64 l]) (by simp [results, Try.results10, go_sem]) rfl ⟨rfl, _, rfl⟩

set_option maxHeartbeats 400000 in
theorem set_frame (C B n : Nat) (p r s l p' r' s' l' : Int) (w : World) (h : Chunk w C B n p r s l) :
    Calls Try.prog 11 #[.pointer (some ⟨C, 0, none⟩), .int .i64 p', .int .i64 r', .int .i64 s', .int .i64 l'] w fun e w' => e = .returned (.tuple #[]) ∧ Chunk w' C B n p' r' s' l' ∧ OnlyAt C w w' := by
  have H : Hid _ := h.put p' r' s' l'
  obtain ⟨hp, h4, h5, h6, h7, hf⟩ := h
  go_enter Try.func11, Try.ntmps11
  go_wp2
  go_end0
  exact ⟨rfl, H.out, Chunk.put_only _ _ _ _⟩

set_option maxHeartbeats 400000 in
theorem new_chunk (B n : Nat) (p r s l : Int) (w : World) :
    Calls Try.prog 8 #[.slice (some ⟨B, 0, none⟩) n n, .int .i64 p, .int .i64 r, .int .i64 s, .int .i64 l] w fun e w' => e = .returned (.pointer (some ⟨w.heap.size, 0, none⟩)) ∧ Chunk w' w.heap.size B n p r s l ∧ Below w.heap.size w w' ∧ w'.heap.size = w.heap.size + 1 := by
  go_enter Try.func8, Try.ntmps8
  go_wp2
  go_ret
  refine ⟨rfl, ⟨?_, ?_, ?_, ?_, ?_, ?_⟩, (Below.refl _ _).alloc (Nat.le_refl _) _, by simp⟩
  all_goals simp [go_sem]

end Go.Proofs.Qxb6003777a
