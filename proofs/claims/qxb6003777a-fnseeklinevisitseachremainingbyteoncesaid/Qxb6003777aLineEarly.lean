/-
  FnSeekLineVisitsEachRemainingByteOnce at an input outside its bounds: it returns true ahead of all making.
-/
import Derived.Test.Qxb6003777aBase
import Derived.Test.Qxb6003777aBounds
namespace Go.Proofs.Qxb6003777a
open Go.RowKit

set_option maxRecDepth 100000 in
set_option maxHeartbeats 1000000 in
theorem line_early (a0 : Option Addr) (n c0 : Nat) (f : Nat → Int) (P R : Int) (w : World) (hm : n ≤ maxLen) (r0 : Row w a0 n c0 f) (hbad : ¬ Good 4096 65536 n f P R) :
    Calls Try.prog 4 #[.slice a0 n c0, .int .i64 P, .int .i64 R] w fun e w' => e = .returned (.bool true) ∧ w' = w := by
  by_cases hn : n ≤ 1024
  · clear hm
    go_enter Try.func4, Try.ntmps4
    go_wp2_with fail
    refine (bytes_line _ _ _ _ _ _ hn).mono ?_
    rintro e w' ⟨rfl, rfl⟩
    have HB : Hid _ := hbad
    clear hbad
    go_wp2_with fail
    go_loop [7, 8] (fun t i => ∃ k : Nat, k ≤ n ∧ i = .int .i64 k ∧ t = .int .i64 (sumI f k) ∧ ∀ j, j < k → 0 ≤ f j ∧ f j ≤ ((4096 : Nat) : Int)) (fun _ i => n - (intOf i).toNat)
    case atStart => exact ⟨0, Nat.zero_le _, rfl, rfl, by omega⟩
    case round =>
      obtain ⟨k, hk, rfl, rfl, hall⟩ := hrel
      have hsb := sumI_bd f 4096 k hall
      have HA : Hid (∀ j, j < k → 0 ≤ f j ∧ f j ≤ ((4096 : Nat) : Int)) := hall
      have hsb0 := hsb.1
      have hsb1 : sumI f k ≤ 4194304 := by have := hsb.2; omega
      clear hall hsb
      by_cases hkn : k < n
      · rcases r0 with ⟨_, h, _⟩ | ⟨x, rfl, hsrc⟩
        · omega
        obtain ⟨b, off, rfl, hbb, hc⟩ := hsrc k hkn
        by_cases h1 : f k < 0
        · go_wp2
          go_ret
          exact ⟨rfl, rfl⟩
        · by_cases h2 : 4096 < f k
          · go_wp2
            go_ret
            exact ⟨rfl, rfl⟩
          · have h3 : 0 ≤ f k := by omega
            have h4 : f k ≤ 4096 := by omega
            clear h1 h2
            go_wp2
            go_round
            case rel =>
              refine ⟨k + 1, by omega, by go_num, by simp [sumI], ?_⟩
              intro j hj
              by_cases e : j = k
              · subst e; exact ⟨h3, h4⟩
              · exact HA.out j (by omega)
            case measure => simp [intOf]; omega
      · have e : n = k := by omega
        subst e
        clear hkn hk
        by_cases hM : 65536 < sumI f n
        · go_wp2
          go_ret
          exact ⟨rfl, rfl⟩
        by_cases hP0 : P < 0
        · go_wp2
          go_ret
          exact ⟨rfl, rfl⟩
        by_cases hP1 : (n : Int) < P
        · go_wp2
          go_ret
          exact ⟨rfl, rfl⟩
        by_cases hPn : P = n
        · have hPn1 : (P == (n : Int)) = true := by simpa using hPn
          by_cases hR : R = 0
          · exact absurd ⟨hn, HA.out, by omega, ⟨by omega, by omega⟩, fun _ => hR, fun h => by omega⟩ HB.out
          · have hR1 : (R != 0) = true := by simpa using hR
            clear hPn hR
            go_wp2
            go_ret
            exact ⟨rfl, rfl⟩
        · have hPn1 : (P == (n : Int)) = false := by simpa using hPn
          have hlt : P < (n : Int) := by omega
          obtain ⟨p, rfl⟩ := Int.eq_ofNat_of_zero_le (by omega : 0 ≤ P)
          rcases r0 with ⟨_, h, _⟩ | ⟨x, rfl, hsrc⟩
          · omega
          obtain ⟨b, off, rfl, hbb, hc⟩ := hsrc p (by omega)
          clear hPn hP1 hP0
          by_cases hR0 : R < 0
          · go_wp2
            go_ret
            exact ⟨rfl, rfl⟩
          · by_cases hR1 : f p < R
            · go_wp2
              go_ret
              exact ⟨rfl, rfl⟩
            · exact absurd ⟨hn, HA.out, by omega, ⟨by omega, by omega⟩, fun h => by simp at hPn1; omega, fun h => ⟨by omega, by simp; omega⟩⟩ HB.out
  · go_enter Try.func4, Try.ntmps4
    go_wp2_with fail
    refine (bytes_line_any _ _ _ _ _ _ hm).mono ?_
    rintro e w' ⟨⟨b, rfl⟩, rfl⟩
    clear hm hbad
    cases b
    · go_wp2
      go_ret
      exact ⟨rfl, rfl⟩
    · go_wp2
      go_ret
      exact ⟨rfl, rfl⟩

end Go.Proofs.Qxb6003777a
