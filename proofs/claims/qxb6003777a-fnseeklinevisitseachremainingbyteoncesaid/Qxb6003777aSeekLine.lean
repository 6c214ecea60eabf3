/-
  seekLine by its contract.
-/
import Derived.Test.Qxb6003777aSeek
import Derived.Deep.LoopGhost
namespace Go.Proofs.Qxb6003777a
open Go.RowKit

/-- Block B holds the parts; part i has 'g i' bytes. -/
def LineParts (w : World) (B n : Nat) (g : Nat → Nat) : Prop := ∀ i, i < n → ∃ a, w.cell? ⟨B, i * 5 + 2, none⟩ = some (.slice a (g i) (g i))

/-- Where a seek comes to. -/
def CameL (g : Nat → Nat) (p : Nat) (r s l : Int) (p' : Nat) (r' s' l' : Int) : Prop :=
  (p' = p ∧ r' = r ∧ s' = s ∧ l' = l) ∨ (p < p' ∧ s = g p ∧ (∀ q : Nat, p < q → q < p' → g q = 0) ∧ r' = 0 ∧ s' = 0 ∧ l' = 0)

theorem CameL.step {g : Nat → Nat} {p : Nat} {r s l : Int} {p' : Nat} {r' s' l' : Int} (h : CameL g p r s l p' r' s' l') (e : s' = g p') : CameL g p r s l (p' + 1) 0 0 0 := by
  rcases h with ⟨rfl, rfl, rfl, rfl⟩ | ⟨h1, h2, h3, rfl, rfl, rfl⟩
  · exact .inr ⟨by omega, e, fun q h h' => by omega, rfl, rfl, rfl⟩
  · refine .inr ⟨by omega, h2, fun q h h' => ?_, rfl, rfl, rfl⟩
    by_cases e' : q = p'
    · subst e'; omega
    · exact h3 q h (by omega)

set_option maxRecDepth 100000 in
set_option maxHeartbeats 400000 in
theorem seek_line (C B n : Nat) (g : Nat → Nat) (p : Nat) (r s l : Int) (w : World) (hn : n ≤ 1024) (hp : p ≤ n) (hg : ∀ i, i < n → g i ≤ 4096) (h : Chunk w C B n p r s l) (hq : LineParts w B n g) (hCB : B ≠ C) :
    Calls Try.prog 17 #[.pointer (some ⟨C, 0, none⟩)] w fun e w' => ∃ (p' : Nat) (r' s' l' : Int), e = .returned (.bool (decide (p' < n))) ∧ p' ≤ n ∧ (p' < n → s' ≠ g p') ∧ CameL g p r s l p' r' s' l' ∧ Chunk w' C B n p' r' s' l' ∧ OnlyAt C w w' := by
  go_enter Try.func17, Try.ntmps17
  go_wp2
  go_loopg [] (n - p) (fun gk wr => ∃ (p' : Nat) (r' s' l' : Int), p' ≤ n ∧ gk = n - p' ∧ CameL g p r s l p' r' s' l' ∧ Chunk wr C B n p' r' s' l' ∧ OnlyAt C w wr)
  case atStart => exact ⟨p, r, s, l, hp, rfl, .inl ⟨rfl, rfl, rfl, rfl⟩, h, OnlyAt.refl _ _⟩
  case round =>
    obtain ⟨p', r', s', l', hp', rfl, hcame, hch, honly⟩ := hrel
    have hch0 := hch
    obtain ⟨k1, k4, k5, k6, k7, kf⟩ := hch
    by_cases hlt : p' < n
    · have hd : decide ((p' : Int) < (n : Int)) = true := by simpa using hlt
      have hi : (p' : Int) < (n : Int) := by omega
      have hi0 : (0 : Int) ≤ (p' : Int) := by omega
      obtain ⟨a, ha⟩ := hq p' hlt
      have hcell : wr.cell? ⟨B, p' * 5 + 2, none⟩ = some (.slice a (g p') (g p')) := (honly.cell (by exact hCB)).trans ha
      have hgb := hg p' hlt
      by_cases he : s' = g p'
      · have he1 : (s' == (g p' : Int)) = true := by simpa using he
        have HE := show Hid _ from he
        clear he
        go_wp2_with fail
        go_quiet (fail)
        go_wp2_with fail
        refine (next_part C B n p' r' s' l' _ (hch0.drewN _) (by omega) (by omega)).mono ?_
        rintro e w1 ⟨rfl, hch1, honly1⟩
        have H1 : Hid _ := hch1
        have H2 : Hid _ := (honly.drewN _).trans honly1
        clear hch1 honly1 k1 k4 k5 k6 k7 kf hcell hch0
        go_wp2
        go_roundg (n - (p' + 1))
        case rel => exact ⟨p' + 1, 0, 0, 0, by omega, rfl, hcame.step HE.out, by exact_mod_cast H1.out, H2.out⟩
        case measure => omega
      · have he1 : (s' == (g p' : Int)) = false := by simpa using he
        have HE := show Hid _ from he
        clear he
        go_wp2_with fail
        go_quiet (fail)
        go_wp2_with fail
        go_quiet (fail)
        go_wp2
        go_ret
        exact ⟨p', r', s', l', by simp [hlt], hp', fun _ => HE.out, hcame, (hch0.drewN _).drewN _, (honly.drewN _).drewN _⟩
    · have hd : decide ((p' : Int) < (n : Int)) = false := by simpa using hlt
      go_wp2_with fail
      go_quiet (fail)
      go_wp2_with fail
      go_quiet (fail)
      go_wp2
      go_ret
      exact ⟨p', r', s', l', by simp [hlt], hp', fun h => absurd h hlt, hcame, (hch0.drewN _).drewN _, (honly.drewN _).drewN _⟩

theorem zz_seek_line (C B n : Nat) (g : Nat → Nat) (p : Nat) (r s l : Int) (w : World) (hn : n ≤ 1024) (hp : p ≤ n) (hg : ∀ i, i < n → g i ≤ 4096) (h : Chunk w C B n p r s l) (hq : LineParts w B n g) (hCB : B ≠ C) :
    Calls Try.prog 13 #[.pointer (some ⟨C, 0, none⟩)] w fun e w' => ∃ (p' : Nat) (r' s' l' : Int), e = .returned (.bool (decide (p' < n))) ∧ p' ≤ n ∧ (p' < n → s' ≠ g p') ∧ CameL g p r s l p' r' s' l' ∧ Chunk w' C B n p' r' s' l' ∧ OnlyAt C w w' := by
  go_enter Try.func13, Try.ntmps13
  go_wp2_with fail
  refine (seek_line C B n g p r s l _ hn hp hg h hq hCB).mono ?_
  rintro e w1 ⟨p', r', s', l', rfl, h1, h2, h3, h4, h5⟩
  go_wp2
  go_ret
  exact ⟨p', r', s', l', rfl, h1, h2, h3, h4, h5⟩

end Go.Proofs.Qxb6003777a
