/-
  THE LAW's SMALL HELPERS BY THEIR CONTRACTS: zzBytes, jcsb1ShortLetter, jcsb1ShortByte, jcsb1EqualString.
-/
import Derived.Test.Qxb6606060aDoorRows
import Derived.Test.Qxb6606060aDoorPlain
import Derived.WalkKit
import Derived.WalkSpells
import Derived.WalkLawsBesides
import Derived.Deep.OwnRows
import Derived.Deep.QuietTactic
import Derived.BigQuiet
namespace Go.Proofs.Qxb6606060aDoor
open Go.RowKit

theorem bytes_ok (s : ByteArray) (w : World) (h : s.size ≤ 65536) :
    Calls Tryd.prog 7 #[.string s] w fun e w' => e = .returned (.bool true) ∧ w' = w := by
  go_enter Tryd.func7, Tryd.ntmps7
  go_wp2
  go_ret
  exact ⟨rfl, rfl⟩
theorem bytes_any (s : ByteArray) (w : World) (h : s.size ≤ maxLen) :
    Calls Tryd.prog 7 #[.string s] w fun e w' => (∃ b, e = .returned (.bool b)) ∧ w' = w := by
  unfold maxLen at h
  go_enter Tryd.func7, Tryd.ntmps7
  go_wp2
  all_goals (go_ret; exact ⟨⟨_, rfl⟩, rfl⟩)

set_option maxRecDepth 100000 in
set_option maxHeartbeats 400000 in
/-- A byte that has no two-character escape. -/
theorem letter_none (c : Int) (w : World) (h : c ≠ 34 ∧ c ≠ 92 ∧ c ≠ 8 ∧ c ≠ 12 ∧ c ≠ 10 ∧ c ≠ 13 ∧ c ≠ 9) :
    Calls Tryd.prog 10 #[.int .u8 c] w fun e w' => e = .returned (.int .u8 0) ∧ Below w.heap.size w w' := by
  obtain ⟨h0, h1, h2, h3, h4, h5, h6⟩ := h
  have e0 : ((34 : Int) == c) = false := by simp; omega
  have e1 : ((92 : Int) == c) = false := by simp; omega
  have e2 : ((8 : Int) == c) = false := by simp; omega
  have e3 : ((12 : Int) == c) = false := by simp; omega
  have e4 : ((10 : Int) == c) = false := by simp; omega
  have e5 : ((13 : Int) == c) = false := by simp; omega
  have e6 : ((9 : Int) == c) = false := by simp; omega
  clear h0 h1 h2 h3 h4 h5 h6
  go_enter Tryd.func10, Tryd.ntmps10
  go_wp2
  go_loop [5] (fun i => ∃ k : Nat, k ≤ 7 ∧ i = .int .i64 k) (fun i => 7 - (intOf i).toNat)
  case atStart => exact ⟨0, Nat.zero_le _, rfl⟩
  case round =>
    obtain ⟨k, hk, rfl⟩ := hrel
    have hcs : k = 0 ∨ k = 1 ∨ k = 2 ∨ k = 3 ∨ k = 4 ∨ k = 5 ∨ k = 6 ∨ k = 7 := by omega
    rcases hcs with rfl | rfl | rfl | rfl | rfl | rfl | rfl | rfl
    · go_wp2
      go_round
      case rel => exact ⟨1, by omega, rfl⟩
      case measure => decide
    · go_wp2
      go_round
      case rel => exact ⟨2, by omega, rfl⟩
      case measure => decide
    · go_wp2
      go_round
      case rel => exact ⟨3, by omega, rfl⟩
      case measure => decide
    · go_wp2
      go_round
      case rel => exact ⟨4, by omega, rfl⟩
      case measure => decide
    · go_wp2
      go_round
      case rel => exact ⟨5, by omega, rfl⟩
      case measure => decide
    · go_wp2
      go_round
      case rel => exact ⟨6, by omega, rfl⟩
      case measure => decide
    · go_wp2
      go_round
      case rel => exact ⟨7, by omega, rfl⟩
      case measure => decide
    · go_wp2
      go_ret
      exact ⟨rfl, ((Below.refl _ _).alloc (Nat.le_refl _) _).alloc (by simp) _⟩

set_option maxRecDepth 100000 in
set_option maxHeartbeats 1000000 in
/-- A letter of a two-character escape. -/
theorem short_byte (l b : Int) (w : World) (h : (l = 34 ∧ b = 34) ∨ (l = 92 ∧ b = 92) ∨ (l = 98 ∧ b = 8) ∨ (l = 102 ∧ b = 12) ∨ (l = 110 ∧ b = 10) ∨ (l = 114 ∧ b = 13) ∨ (l = 116 ∧ b = 9)) :
    Calls Tryd.prog 11 #[.int .u8 l] w fun e w' => e = .returned (.tuple #[.int .u8 b, .bool true]) ∧ Below w.heap.size w w' := by
  have H : Hid _ := h
  clear h
  go_enter Tryd.func11, Tryd.ntmps11
  go_wp2
  go_loop [6] (fun i => ∃ k : Nat, k ≤ 7 ∧ i = .int .i64 k ∧ ((0 < k → l ≠ 34) ∧ (1 < k → l ≠ 92) ∧ (2 < k → l ≠ 98) ∧ (3 < k → l ≠ 102) ∧ (4 < k → l ≠ 110) ∧ (5 < k → l ≠ 114) ∧ (6 < k → l ≠ 116))) (fun i => 7 - (intOf i).toNat)
  case atStart => exact ⟨0, Nat.zero_le _, rfl, by omega⟩
  case round =>
    obtain ⟨k, hk, rfl, hne⟩ := hrel
    have h := H.out
    have hcs : k = 0 ∨ k = 1 ∨ k = 2 ∨ k = 3 ∨ k = 4 ∨ k = 5 ∨ k = 6 ∨ k = 7 := by omega
    rcases hcs with rfl | rfl | rfl | rfl | rfl | rfl | rfl | rfl
    · by_cases hm : l = 34
      · have em : ((34 : Int) == l) = true := by simp [hm]
        have hb : b = 34 := by omega
        have HB : Hid _ := hb
        clear hm hb h hne
        go_wp2
        go_ret2
        exact ⟨by rw [HB.out]; rfl, ((Below.refl _ _).alloc (Nat.le_refl _) _).alloc (by simp) _⟩
      · have em : ((34 : Int) == l) = false := by simp; omega
        have HM : Hid _ := hm
        have HN : Hid _ := hne
        clear hm hne
        go_wp2
        go_round
        case rel => exact ⟨1, by omega, rfl, by have h1 : ¬ l = 34 := HM.out; have h2 : (0 < 0 → ¬ l = 34) ∧ (1 < 0 → ¬ l = 92) ∧ (2 < 0 → ¬ l = 98) ∧ (3 < 0 → ¬ l = 102) ∧ (4 < 0 → ¬ l = 110) ∧ (5 < 0 → ¬ l = 114) ∧ (6 < 0 → ¬ l = 116) := HN.out; omega⟩
        case measure => decide
    · by_cases hm : l = 92
      · have em : ((92 : Int) == l) = true := by simp [hm]
        have hb : b = 92 := by omega
        have HB : Hid _ := hb
        clear hm hb h hne
        go_wp2
        go_ret2
        exact ⟨by rw [HB.out]; rfl, ((Below.refl _ _).alloc (Nat.le_refl _) _).alloc (by simp) _⟩
      · have em : ((92 : Int) == l) = false := by simp; omega
        have HM : Hid _ := hm
        have HN : Hid _ := hne
        clear hm hne
        go_wp2
        go_round
        case rel => exact ⟨2, by omega, rfl, by have h1 : ¬ l = 92 := HM.out; have h2 : (0 < 1 → ¬ l = 34) ∧ (1 < 1 → ¬ l = 92) ∧ (2 < 1 → ¬ l = 98) ∧ (3 < 1 → ¬ l = 102) ∧ (4 < 1 → ¬ l = 110) ∧ (5 < 1 → ¬ l = 114) ∧ (6 < 1 → ¬ l = 116) := HN.out; omega⟩
        case measure => decide
    · by_cases hm : l = 98
      · have em : ((98 : Int) == l) = true := by simp [hm]
        have hb : b = 8 := by omega
        have HB : Hid _ := hb
        clear hm hb h hne
        go_wp2
        go_ret2
        exact ⟨by rw [HB.out]; rfl, ((Below.refl _ _).alloc (Nat.le_refl _) _).alloc (by simp) _⟩
      · have em : ((98 : Int) == l) = false := by simp; omega
        have HM : Hid _ := hm
        have HN : Hid _ := hne
        clear hm hne
        go_wp2
        go_round
        case rel => exact ⟨3, by omega, rfl, by have h1 : ¬ l = 98 := HM.out; have h2 : (0 < 2 → ¬ l = 34) ∧ (1 < 2 → ¬ l = 92) ∧ (2 < 2 → ¬ l = 98) ∧ (3 < 2 → ¬ l = 102) ∧ (4 < 2 → ¬ l = 110) ∧ (5 < 2 → ¬ l = 114) ∧ (6 < 2 → ¬ l = 116) := HN.out; omega⟩
        case measure => decide
    · by_cases hm : l = 102
      · have em : ((102 : Int) == l) = true := by simp [hm]
        have hb : b = 12 := by omega
        have HB : Hid _ := hb
        clear hm hb h hne
        go_wp2
        go_ret2
        exact ⟨by rw [HB.out]; rfl, ((Below.refl _ _).alloc (Nat.le_refl _) _).alloc (by simp) _⟩
      · have em : ((102 : Int) == l) = false := by simp; omega
        have HM : Hid _ := hm
        have HN : Hid _ := hne
        clear hm hne
        go_wp2
        go_round
        case rel => exact ⟨4, by omega, rfl, by have h1 : ¬ l = 102 := HM.out; have h2 : (0 < 3 → ¬ l = 34) ∧ (1 < 3 → ¬ l = 92) ∧ (2 < 3 → ¬ l = 98) ∧ (3 < 3 → ¬ l = 102) ∧ (4 < 3 → ¬ l = 110) ∧ (5 < 3 → ¬ l = 114) ∧ (6 < 3 → ¬ l = 116) := HN.out; omega⟩
        case measure => decide
    · by_cases hm : l = 110
      · have em : ((110 : Int) == l) = true := by simp [hm]
        have hb : b = 10 := by omega
        have HB : Hid _ := hb
        clear hm hb h hne
        go_wp2
        go_ret2
        exact ⟨by rw [HB.out]; rfl, ((Below.refl _ _).alloc (Nat.le_refl _) _).alloc (by simp) _⟩
      · have em : ((110 : Int) == l) = false := by simp; omega
        have HM : Hid _ := hm
        have HN : Hid _ := hne
        clear hm hne
        go_wp2
        go_round
        case rel => exact ⟨5, by omega, rfl, by have h1 : ¬ l = 110 := HM.out; have h2 : (0 < 4 → ¬ l = 34) ∧ (1 < 4 → ¬ l = 92) ∧ (2 < 4 → ¬ l = 98) ∧ (3 < 4 → ¬ l = 102) ∧ (4 < 4 → ¬ l = 110) ∧ (5 < 4 → ¬ l = 114) ∧ (6 < 4 → ¬ l = 116) := HN.out; omega⟩
        case measure => decide
    · by_cases hm : l = 114
      · have em : ((114 : Int) == l) = true := by simp [hm]
        have hb : b = 13 := by omega
        have HB : Hid _ := hb
        clear hm hb h hne
        go_wp2
        go_ret2
        exact ⟨by rw [HB.out]; rfl, ((Below.refl _ _).alloc (Nat.le_refl _) _).alloc (by simp) _⟩
      · have em : ((114 : Int) == l) = false := by simp; omega
        have HM : Hid _ := hm
        have HN : Hid _ := hne
        clear hm hne
        go_wp2
        go_round
        case rel => exact ⟨6, by omega, rfl, by have h1 : ¬ l = 114 := HM.out; have h2 : (0 < 5 → ¬ l = 34) ∧ (1 < 5 → ¬ l = 92) ∧ (2 < 5 → ¬ l = 98) ∧ (3 < 5 → ¬ l = 102) ∧ (4 < 5 → ¬ l = 110) ∧ (5 < 5 → ¬ l = 114) ∧ (6 < 5 → ¬ l = 116) := HN.out; omega⟩
        case measure => decide
    · by_cases hm : l = 116
      · have em : ((116 : Int) == l) = true := by simp [hm]
        have hb : b = 9 := by omega
        have HB : Hid _ := hb
        clear hm hb h hne
        go_wp2
        go_ret2
        exact ⟨by rw [HB.out]; rfl, ((Below.refl _ _).alloc (Nat.le_refl _) _).alloc (by simp) _⟩
      · have em : ((116 : Int) == l) = false := by simp; omega
        have HM : Hid _ := hm
        have HN : Hid _ := hne
        clear hm hne
        go_wp2
        go_round
        case rel => exact ⟨7, by omega, rfl, by have h1 : ¬ l = 116 := HM.out; have h2 : (0 < 6 → ¬ l = 34) ∧ (1 < 6 → ¬ l = 92) ∧ (2 < 6 → ¬ l = 98) ∧ (3 < 6 → ¬ l = 102) ∧ (4 < 6 → ¬ l = 110) ∧ (5 < 6 → ¬ l = 114) ∧ (6 < 6 → ¬ l = 116) := HN.out; omega⟩
        case measure => decide
    · omega

set_option maxRecDepth 100000 in
set_option maxHeartbeats 400000 in
/-- The bytes of a slice are those of the string. -/
theorem equal_string (a : Option Addr) (cap : Nat) (s : ByteArray) (w : World) (hs : s.size ≤ 65536) (ha : ∀ j (hj : j < s.size), ∃ g, a = some ⟨g, 0, none⟩ ∧ w.cell? ⟨g, j, none⟩ = some (.int .u8 (s[j].toNat : Int))) :
    Calls Tryd.prog 12 #[.slice a s.size cap, .string s] w fun e w' => e = .returned (.bool true) ∧ Below w.heap.size w w' := by
  have HA : Hid _ := ha
  clear ha
  go_enter Tryd.func12, Tryd.ntmps12
  go_wp2
  go_loopw [5] (fun i wr => ∃ k : Nat, k ≤ s.size ∧ i = .int .i64 k ∧ Below w.heap.size w wr ∧ ∀ p, wr.cell? p = w.cell? p) (fun i _ => s.size - (intOf i).toNat)
  case atStart => exact ⟨0, Nat.zero_le _, rfl, Below.refl _ _, fun _ => rfl⟩
  case round =>
    obtain ⟨k, hk, rfl, hbel, hcells⟩ := hrel
    by_cases hlt : k < s.size
    · obtain ⟨g, rfl, hc⟩ := HA.out k hlt
      have hc2 := (hcells ⟨g, k, none⟩).trans hc
      have i0 : (k : Int) < (s.size : Int) := by omega
      have i1 : (0 : Int) ≤ (k : Int) := by omega
      have HB : Hid _ := hbel
      have HC : Hid _ := hcells
      clear hcells hbel hc
      go_wp2_with fail
      go_quiet (fail)
      go_wp2
      go_roundw
      case rel => exact ⟨k + 1, by omega, by go_num, below_drewN HB.out _, fun p => HC.out p⟩
      case measure => simp [intOf]; omega
    · clear hcells
      go_wp2
      go_ret
      exact ⟨rfl, hbel⟩

end Go.Proofs.Qxb6606060aDoor
