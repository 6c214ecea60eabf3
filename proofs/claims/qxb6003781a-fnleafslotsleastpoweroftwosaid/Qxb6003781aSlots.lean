/-
  leafSlots, zzIsPow2 and the law over them, walked.
-/
import Derived.Test.Qxb6003781aRows
import Derived.Test.Qxb6003781aPow
import Derived.WalkKit
import Derived.WalkSpells
import Derived.WalkLawsBesides
namespace Go.Proofs.Qxb6003781a
open Go.RowKit

set_option maxHeartbeats 400000 in
theorem leaf_slots (K : Int) (w : World) (h0 : -1048576 ≤ K) (h1 : K ≤ 1048576) :
    Calls Try.prog 17 #[.int .i64 K] w fun e w' => (∃ N, e = .returned (.int .i64 N) ∧ Slots K N) ∧ w' = w := by
  go_enter Try.func17, Try.ntmps17
  go_wp2
  go_loop [3] (fun n => ∃ N : Int, n = .int .i64 N ∧ 64 ≤ N ∧ Pow N ∧ (N = 64 ∨ 3 * (N / 2) < 8 * K)) (fun n => (8388608 - intOf n).toNat)
  case atStart => exact ⟨64, rfl, by omega, pow_64, .inl rfl⟩
  case round =>
    obtain ⟨N, rfl, hN, hp, hl⟩ := hrel
    have hN2 : N ≤ 8388608 := by omega
    have HP : Hid (Pow N) := hp
    have HL : Hid (N = 64 ∨ 3 * (N / 2) < 8 * K) := hl
    clear hl hp
    by_cases hc : 3 * N < 8 * K
    · go_wp2
      go_round
      case rel => exact ⟨N * 2, by go_num, by omega, pow_double HP.out, .inr (by omega)⟩
      case measure => simp [intOf]; omega
    · go_wp2
      go_ret
      exact ⟨⟨N, rfl, hN, HP.out, by omega, HL.out⟩, rfl⟩

theorem zz_slots (K : Int) (w : World) (h0 : -1048576 ≤ K) (h1 : K ≤ 1048576) :
    Calls Try.prog 7 #[.int .i64 K] w fun e w' => (∃ N, e = .returned (.int .i64 N) ∧ Slots K N) ∧ w' = w := by
  go_enter Try.func7, Try.ntmps7
  go_wp2_with fail
  refine (leaf_slots K _ h0 h1).mono ?_
  rintro e w' ⟨⟨N, rfl, hs⟩, rfl⟩
  go_wp2
  go_ret
  exact ⟨⟨N, rfl, hs⟩, rfl⟩

set_option maxHeartbeats 400000 in
theorem is_pow (X : Int) (w : World) (h : Pow X) (h1 : X ≤ 8388608) :
    Calls Try.prog 8 #[.int .i64 X] w fun e w' => e = .returned (.bool true) ∧ w' = w := by
  have hX := pow_pos h
  have HP : Hid (Pow X) := h
  clear h
  go_enter Try.func8, Try.ntmps8
  go_wp2
  go_loop [0] (fun x => ∃ Y : Int, x = .int .i64 Y ∧ Pow Y ∧ Y ≤ 8388608) (fun x => (intOf x).toNat)
  case atStart => exact ⟨X, rfl, HP.out, h1⟩
  case round =>
    obtain ⟨Y, rfl, hp, hY⟩ := hrel
    have hY1 := pow_pos hp
    have HQ : Hid (Pow Y) := hp
    clear hp
    by_cases hc : 1 < Y
    · have hh := pow_half HQ.out hc
      have hm : (Y % 2 != 0) = false := by simp [hh.1]
      have HH : Hid (Pow (Y / 2)) := hh.2
      clear hh
      go_wp2
      go_round
      case rel => exact ⟨Y / 2, by go_num, HH.out, by omega⟩
      case measure => simp [intOf]; omega
    · go_wp2
      go_ret
      exact ⟨rfl, rfl⟩

theorem slots_le {K N : Int} (h : Slots K N) (h1 : K ≤ 1048576) : N ≤ 8388608 := by
  obtain ⟨a1, a2, a3, a4⟩ := h
  omega

set_option maxHeartbeats 400000 in
theorem leaf_law (K O : Int) (w : World) :
    Calls Try.prog 3 #[.int .i64 K, .int .i64 O] w fun e w' => e = .returned (.bool true) ∧ w' = w := by
  by_cases h0 : K < -1048576
  · go_enter Try.func3, Try.ntmps3
    go_wp2
    go_ret
    exact ⟨rfl, rfl⟩
  by_cases h1 : 1048576 < K
  · go_enter Try.func3, Try.ntmps3
    go_wp2
    go_ret
    exact ⟨rfl, rfl⟩
  by_cases h2 : O < -1048576
  · go_enter Try.func3, Try.ntmps3
    go_wp2
    go_ret
    exact ⟨rfl, rfl⟩
  by_cases h3 : 1048576 < O
  · go_enter Try.func3, Try.ntmps3
    go_wp2
    go_ret
    exact ⟨rfl, rfl⟩
  have k0 : -1048576 ≤ K := by omega
  have k1 : K ≤ 1048576 := by omega
  have k2 : -1048576 ≤ O := by omega
  have k3 : O ≤ 1048576 := by omega
  clear h0 h1 h2 h3
  go_enter Try.func3, Try.ntmps3
  go_wp2_with fail
  refine (zz_slots K _ k0 k1).mono ?_
  rintro e w' ⟨⟨N, rfl, hs⟩, rfl⟩
  have hN := slots_le hs k1
  have HS : Hid (Slots K N) := hs
  obtain ⟨a1, a2, a3, a4⟩ := hs
  have HP : Hid (Pow N) := a2
  have HA : Hid (N = 64 ∨ 3 * (N / 2) < 8 * K) := a4
  clear a2 a4
  go_wp2_with fail
  refine (is_pow N _ HP.out hN).mono ?_
  rintro e w' ⟨rfl, rfl⟩
  by_cases h64 : 64 < N
  · have hq : ¬ 8 * K ≤ 3 * (N / 2) := by have := HA.out; omega
    go_wp2_with fail
    refine (zz_slots O _ k2 k3).mono ?_
    rintro e w' ⟨⟨M, rfl, ht⟩, rfl⟩
    by_cases hKO : K ≤ O
    · have hm := slots_mono HS.out ht hKO
      clear ht
      go_wp2
      go_ret
      exact ⟨rfl, rfl⟩
    · clear ht
      go_wp2
      go_ret
      exact ⟨rfl, rfl⟩
  · go_wp2_with fail
    refine (zz_slots O _ k2 k3).mono ?_
    rintro e w' ⟨⟨M, rfl, ht⟩, rfl⟩
    by_cases hKO : K ≤ O
    · have hm := slots_mono HS.out ht hKO
      clear ht
      go_wp2
      go_ret
      exact ⟨rfl, rfl⟩
    · clear ht
      go_wp2
      go_ret
      exact ⟨rfl, rfl⟩

end Go.Proofs.Qxb6003781a
