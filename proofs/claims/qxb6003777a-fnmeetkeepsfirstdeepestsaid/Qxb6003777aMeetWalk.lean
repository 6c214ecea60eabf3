/-
  THE WALK OF FnMeetKeepsFirstDeepest.
-/
import Derived.Test.Qxb6003777aMeet
import Derived.Test.Qxb6003777aMeetPlain
import Derived.Deep.RegionHeld3
namespace Go.Proofs.Qxb6003777a
open Go.RowKit

set_option maxRecDepth 100000 in
set_option maxHeartbeats 400000 in
theorem meet_core (a0 a1 : Option Addr) (l0 c0 l1 c1 : Nat) (L D : Nat → Int) (w : World) (h0 : l0 ≤ 1024) (h1 : l1 ≤ 1024) (r0 : Row w a0 l0 c0 L) (r1 : Row w a1 l1 c1 D) :
    Calls Try.prog 5 #[.slice a0 l0 c0, .slice a1 l1 c1] w fun e w' => e = .returned (.bool true) ∧ Below w.heap.size w w' := by
  by_cases hlt : l1 < l0
  · obtain ⟨n, hn⟩ : ∃ n, n = l1 := ⟨_, rfl⟩
    subst hn
    have hn0 : n ≤ l0 := by omega
    have hn1 : n ≤ n := by omega
    go_enter Try.func5, Try.ntmps5
    go_wp2_with fail
    refine (bytes_meet _ _ _ _ _ _ _ h0 h1).mono ?_
    rintro e w' ⟨rfl, rfl⟩
    go_wp2_with fail
    refine (clone_any _ _ _ _ _ h0 r0).mono ?_
    rintro e w1 ⟨b0, rfl, d0, bel1⟩
    go_wp2_with fail
    refine (clone_any _ _ _ _ _ h1 (r1.below bel1)).mono ?_
    rintro e w2 ⟨b1, rfl, d1, bel2⟩
    have d0' := d0.below bel2
    have belw : Below w'.heap.size w' w2 := bel1.trans (bel2.mono bel1.size)
    have e0 : Held w2 b0 n L := fun i hi => d0' i (by omega)
    have e1 : Held w2 b1 n D := fun i hi => d1 i (by omega)
    clear d0 d0' d1 r0 r1 bel1 bel2
    go_wp2_with fail
    go_loopw [6, 7, 8] (fun oL oD i wr => ∃ k : Nat, k ≤ n ∧ i = .int .i64 k ∧ oL = .int .i64 (mst L D k).1 ∧ oD = .int .i64 (mst L D k).2 ∧ Below w2.heap.size w2 wr) (fun _ _ i _ => n - (intOf i).toNat)
    case atStart => exact ⟨0, Nat.zero_le _, rfl, rfl, rfl, Below.refl _ _⟩
    case round =>
      obtain ⟨k, hk, rfl, rfl, rfl, hbel⟩ := hrel
      by_cases hkn : k < n
      · obtain ⟨p0, rfl, q0, _⟩ := e0 k hkn
        obtain ⟨p1, rfl, q1, _⟩ := e1 k hkn
        have hc0 : wr.cell? ⟨p0, k, none⟩ = some (.int .i64 (L k)) := (hbel.cell (by exact q0)).trans (e0.cellAt hkn)
        have hc1 : wr.cell? ⟨p1, k, none⟩ = some (.int .i64 (D k)) := (hbel.cell (by exact q1)).trans (e1.cellAt hkn)
        have z0 : p0 < wr.heap.size := by have := hbel.size; omega
        have z1 : p1 < wr.heap.size := by have := hbel.size; omega
        have i0 : (k : Int) < (l0 : Int) := by omega
        have i1 : (k : Int) < (n : Int) := by omega
        have i2 : (0 : Int) ≤ (k : Int) := by omega
        by_cases hm : (mst L D k).2 < D k
        · go_wp2_with fail
          go_region_held3 (fun w' => w'.cell? ⟨p0, k, none⟩ = some (.int .i64 (L k)) ∧ w'.cell? ⟨p1, k, none⟩ = some (.int .i64 (D k))) (first | exact ⟨hc0, hc1⟩ | exact hS3)
            (first
              | (go_at_call 15; refine (meet_yes _ _ _ _ _ hm).mono ?_; rintro e w3 ⟨rfl, bel3⟩; have hS3 := And.intro ((bel3.cell (p := ⟨p0, k, none⟩) z0).trans hc0) ((bel3.cell (p := ⟨p1, k, none⟩) z1).trans hc1)))
          have hsz : Hid (Below w2.heap.size w2 w3) := hbel.drew.trans (bel3.mono hbel.size)
          have z0' : p0 < w3.heap.size := by have := hsz.out.size; omega
          have z1' : p1 < w3.heap.size := by have := hsz.out.size; omega
          obtain ⟨hd0, hd1⟩ := hS3
          have hall : Hid (∀ j, j < n → w3.cell? ⟨p1, j, none⟩ = some (.int .i64 (D j))) := fun j hj => (hsz.out.cell (by exact q1)).trans (e1.cellAt hj)
          clear bel3 hbel hc0 hc1 z0 z1
          go_wp2_with fail
          go_loopw [12, 13] (fun rc j wq => ∃ m : Nat, m ≤ k ∧ j = .int .i64 m ∧ rc = .bool (mrec D k m) ∧ Below w3.heap.size w3 wq) (fun _ j _ => k - (intOf j).toNat)
          case atStart => exact ⟨0, Nat.zero_le _, rfl, rfl, Below.refl _ _⟩
          case round =>
            obtain ⟨m, hmk, rfl, rfl, hbq⟩ := hrel
            by_cases hmlt : m < k
            · have cj : wr.cell? ⟨p1, m, none⟩ = some (.int .i64 (D m)) := (hbq.cell (by exact z1')).trans (hall.out m (by omega))
              have ck : wr.cell? ⟨p1, k, none⟩ = some (.int .i64 (D k)) := (hbq.cell (by exact z1')).trans hd1
              have j0 : (m : Int) < (n : Int) := by omega
              have j1 : (0 : Int) ≤ (m : Int) := by omega
              by_cases hge : D k ≤ D m
              · go_wp2_with fail
                go_quiet (fail)
                go_wp2
                go_roundw
                case rel => exact ⟨m + 1, by omega, by go_num, by simp [mrec, hge], below_drewN hbq _⟩
                case measure => simp [intOf]; omega
              · go_wp2_with fail
                go_quiet (fail)
                go_wp2
                go_roundw
                case rel => exact ⟨m + 1, by omega, by go_num, by simp [mrec, hge], below_drewN hbq _⟩
                case measure => simp [intOf]; omega
            · have e : k = m := by omega
              subst e
              have hr := mrec_yes L D k hm
              have ck0 : wr.cell? ⟨p0, k, none⟩ = some (.int .i64 (L k)) := (hbq.cell (by exact z0')).trans hd0
              have ck : wr.cell? ⟨p1, k, none⟩ = some (.int .i64 (D k)) := (hbq.cell (by exact z1')).trans hd1
              have R : Hid (Below w2.heap.size w2 wr) := hsz.out.trans (hbq.mono hsz.out.size)
              have HM : Hid (mst L D (k + 1) = (L k, D k)) := mst_yes hm
              clear hbq hd0 hd1 hmk hmlt
              go_wp2
              go_roundw
              case rel => exact ⟨k + 1, by omega, by go_num, by rw [HM.out], by rw [HM.out], R.out⟩
              case measure => simp [intOf]; omega
        · have hm' : D k ≤ (mst L D k).2 := by omega
          go_wp2_with fail
          go_region_held3 (fun w' => w'.cell? ⟨p0, k, none⟩ = some (.int .i64 (L k)) ∧ w'.cell? ⟨p1, k, none⟩ = some (.int .i64 (D k))) (first | exact ⟨hc0, hc1⟩ | exact hS3)
            (first
              | (go_at_call 15; refine (meet_no _ _ _ _ _ hm').mono ?_; rintro e w3 ⟨rfl, bel3⟩; have hS3 := And.intro ((bel3.cell (p := ⟨p0, k, none⟩) z0).trans hc0) ((bel3.cell (p := ⟨p1, k, none⟩) z1).trans hc1)))
          have hsz : Hid (Below w2.heap.size w2 w3) := hbel.drew.trans (bel3.mono hbel.size)
          have z0' : p0 < w3.heap.size := by have := hsz.out.size; omega
          have z1' : p1 < w3.heap.size := by have := hsz.out.size; omega
          obtain ⟨hd0, hd1⟩ := hS3
          have hall : Hid (∀ j, j < n → w3.cell? ⟨p1, j, none⟩ = some (.int .i64 (D j))) := fun j hj => (hsz.out.cell (by exact q1)).trans (e1.cellAt hj)
          clear bel3 hbel hc0 hc1 z0 z1
          go_wp2_with fail
          go_loopw [12, 13] (fun rc j wq => ∃ m : Nat, m ≤ k ∧ j = .int .i64 m ∧ rc = .bool (mrec D k m) ∧ Below w3.heap.size w3 wq) (fun _ j _ => k - (intOf j).toNat)
          case atStart => exact ⟨0, Nat.zero_le _, rfl, rfl, Below.refl _ _⟩
          case round =>
            obtain ⟨m, hmk, rfl, rfl, hbq⟩ := hrel
            by_cases hmlt : m < k
            · have cj : wr.cell? ⟨p1, m, none⟩ = some (.int .i64 (D m)) := (hbq.cell (by exact z1')).trans (hall.out m (by omega))
              have ck : wr.cell? ⟨p1, k, none⟩ = some (.int .i64 (D k)) := (hbq.cell (by exact z1')).trans hd1
              have j0 : (m : Int) < (n : Int) := by omega
              have j1 : (0 : Int) ≤ (m : Int) := by omega
              by_cases hge : D k ≤ D m
              · go_wp2_with fail
                go_quiet (fail)
                go_wp2
                go_roundw
                case rel => exact ⟨m + 1, by omega, by go_num, by simp [mrec, hge], below_drewN hbq _⟩
                case measure => simp [intOf]; omega
              · go_wp2_with fail
                go_quiet (fail)
                go_wp2
                go_roundw
                case rel => exact ⟨m + 1, by omega, by go_num, by simp [mrec, hge], below_drewN hbq _⟩
                case measure => simp [intOf]; omega
            · have e : k = m := by omega
              subst e
              have hr := mrec_no L D k (by omega)
              have ck0 : wr.cell? ⟨p0, k, none⟩ = some (.int .i64 (L k)) := (hbq.cell (by exact z0')).trans hd0
              have ck : wr.cell? ⟨p1, k, none⟩ = some (.int .i64 (D k)) := (hbq.cell (by exact z1')).trans hd1
              have R : Hid (Below w2.heap.size w2 wr) := hsz.out.trans (hbq.mono hsz.out.size)
              have HM : Hid (mst L D (k + 1) = mst L D k) := mst_no (by omega)
              clear hbq hd0 hd1 hmk hmlt
              go_wp2
              go_roundw
              case rel => exact ⟨k + 1, by omega, by go_num, by rw [HM.out], by rw [HM.out], R.out⟩
              case measure => simp [intOf]; omega
      · have e : n = k := by omega
        subst e
        have hall : ∀ j, j < n → ∃ p, b1 = some ⟨p, 0, none⟩ ∧ wr.cell? ⟨p, j, none⟩ = some (.int .i64 (D j)) := fun j hj => by
          obtain ⟨p, e, q, c⟩ := e1 j hj
          exact ⟨p, e, (hbel.cell (by exact q)).trans c⟩
        have hall0 : ∀ j, j < n → ∃ p, b0 = some ⟨p, 0, none⟩ ∧ wr.cell? ⟨p, j, none⟩ = some (.int .i64 (L j)) := fun j hj => by
          obtain ⟨p, e, q, c⟩ := e0 j hj
          exact ⟨p, e, (hbel.cell (by exact q)).trans c⟩
        have HA := show Hid _ from hall
        have HB := show Hid _ from hall0
        have R : Hid (Below w'.heap.size w' wr) := belw.trans (hbel.mono belw.size)
        clear hall hall0 e0 e1 hbel belw
        go_wp2_with fail
        go_loop [14, 15] (fun m i => ∃ q : Nat, q ≤ n ∧ i = .int .i64 q ∧ m = .int .i64 (mst L D q).2) (fun _ i => n - (intOf i).toNat)
        case atStart => exact ⟨0, Nat.zero_le _, rfl, rfl⟩
        case round =>
          obtain ⟨q, hq, rfl, rfl⟩ := hrel
          by_cases hqn : q < n
          · obtain ⟨p, rfl, hc⟩ := HA.out q hqn
            by_cases hm : (mst L D q).2 < D q
            · have HM : Hid (mst L D (q + 1) = (L q, D q)) := mst_yes hm
              go_wp2
              go_round
              case rel => exact ⟨q + 1, by omega, by go_num, by rw [HM.out]⟩
              case measure => simp [intOf]; omega
            · have HM : Hid (mst L D (q + 1) = mst L D q) := mst_no hm
              go_wp2
              go_round
              case rel => exact ⟨q + 1, by omega, by go_num, by rw [HM.out]⟩
              case measure => simp [intOf]; omega
          · have e : n = q := by omega
            subst e
            by_cases hz : (mst L D n).2 = 0
            · have hz1 := mst_zero L D n hz
              go_wp2
              go_ret
              exact ⟨rfl, R.out⟩
            · have hz1 : ((mst L D n).2 == 0) = false := by simpa using hz
              have HZ := show Hid _ from hz
              clear hz
              go_wp2_with fail
              go_loop [16] (fun i => ∃ q : Nat, q ≤ n ∧ i = .int .i64 q ∧ ∀ j, j < q → D j ≠ (mst L D n).2) (fun i => n - (intOf i).toNat)
              case atStart => exact ⟨0, Nat.zero_le _, rfl, by omega⟩
              case round =>
                obtain ⟨q, hq, rfl, hf⟩ := hrel
                have HF := show Hid _ from hf
                clear hf
                by_cases hqn : q < n
                · obtain ⟨p, rfl, hc⟩ := HA.out q hqn
                  obtain ⟨p', rfl, hc'⟩ := HB.out q hqn
                  by_cases hm : D q = (mst L D n).2
                  · have hm1 : (D q == (mst L D n).2) = true := by simpa using hm
                    have hl : (mst L D n).1 = L q := mst_first L D n q HZ.out hqn hm HF.out
                    clear hm
                    have i0 : (q : Int) < (l0 : Int) := by omega
                    go_wp2
                    go_ret
                    exact ⟨rfl, R.out⟩
                  · have hm1 : (D q == (mst L D n).2) = false := by simpa using hm
                    have HM := show Hid _ from hm
                    clear hm
                    go_wp2
                    go_round
                    case rel =>
                      refine ⟨q + 1, by omega, by go_num, ?_⟩
                      intro j hj
                      by_cases e : j = q
                      · rw [e]; exact HM.out
                      · exact HF.out j (by omega)
                    case measure => simp [intOf]; omega
                · exact (mst_some L D n HZ.out (fun j hj => HF.out j (by omega))).elim
  · obtain ⟨n, hn⟩ : ∃ n, n = l0 := ⟨_, rfl⟩
    subst hn
    have hn0 : n ≤ n := by omega
    have hn1 : n ≤ l1 := by omega
    go_enter Try.func5, Try.ntmps5
    go_wp2_with fail
    refine (bytes_meet _ _ _ _ _ _ _ h0 h1).mono ?_
    rintro e w' ⟨rfl, rfl⟩
    go_wp2_with fail
    refine (clone_any _ _ _ _ _ h0 r0).mono ?_
    rintro e w1 ⟨b0, rfl, d0, bel1⟩
    go_wp2_with fail
    refine (clone_any _ _ _ _ _ h1 (r1.below bel1)).mono ?_
    rintro e w2 ⟨b1, rfl, d1, bel2⟩
    have d0' := d0.below bel2
    have belw : Below w'.heap.size w' w2 := bel1.trans (bel2.mono bel1.size)
    have e0 : Held w2 b0 n L := fun i hi => d0' i (by omega)
    have e1 : Held w2 b1 n D := fun i hi => d1 i (by omega)
    clear d0 d0' d1 r0 r1 bel1 bel2
    go_wp2_with fail
    go_loopw [6, 7, 8] (fun oL oD i wr => ∃ k : Nat, k ≤ n ∧ i = .int .i64 k ∧ oL = .int .i64 (mst L D k).1 ∧ oD = .int .i64 (mst L D k).2 ∧ Below w2.heap.size w2 wr) (fun _ _ i _ => n - (intOf i).toNat)
    case atStart => exact ⟨0, Nat.zero_le _, rfl, rfl, rfl, Below.refl _ _⟩
    case round =>
      obtain ⟨k, hk, rfl, rfl, rfl, hbel⟩ := hrel
      by_cases hkn : k < n
      · obtain ⟨p0, rfl, q0, _⟩ := e0 k hkn
        obtain ⟨p1, rfl, q1, _⟩ := e1 k hkn
        have hc0 : wr.cell? ⟨p0, k, none⟩ = some (.int .i64 (L k)) := (hbel.cell (by exact q0)).trans (e0.cellAt hkn)
        have hc1 : wr.cell? ⟨p1, k, none⟩ = some (.int .i64 (D k)) := (hbel.cell (by exact q1)).trans (e1.cellAt hkn)
        have z0 : p0 < wr.heap.size := by have := hbel.size; omega
        have z1 : p1 < wr.heap.size := by have := hbel.size; omega
        have i0 : (k : Int) < (l1 : Int) := by omega
        have i1 : (k : Int) < (n : Int) := by omega
        have i2 : (0 : Int) ≤ (k : Int) := by omega
        by_cases hm : (mst L D k).2 < D k
        · go_wp2_with fail
          go_region_held3 (fun w' => w'.cell? ⟨p0, k, none⟩ = some (.int .i64 (L k)) ∧ w'.cell? ⟨p1, k, none⟩ = some (.int .i64 (D k))) (first | exact ⟨hc0, hc1⟩ | exact hS3)
            (first
              | (go_at_call 15; refine (meet_yes _ _ _ _ _ hm).mono ?_; rintro e w3 ⟨rfl, bel3⟩; have hS3 := And.intro ((bel3.cell (p := ⟨p0, k, none⟩) z0).trans hc0) ((bel3.cell (p := ⟨p1, k, none⟩) z1).trans hc1)))
          have hsz : Hid (Below w2.heap.size w2 w3) := hbel.drew.trans (bel3.mono hbel.size)
          have z0' : p0 < w3.heap.size := by have := hsz.out.size; omega
          have z1' : p1 < w3.heap.size := by have := hsz.out.size; omega
          obtain ⟨hd0, hd1⟩ := hS3
          have hall : Hid (∀ j, j < n → w3.cell? ⟨p1, j, none⟩ = some (.int .i64 (D j))) := fun j hj => (hsz.out.cell (by exact q1)).trans (e1.cellAt hj)
          clear bel3 hbel hc0 hc1 z0 z1
          go_wp2_with fail
          go_loopw [12, 13] (fun rc j wq => ∃ m : Nat, m ≤ k ∧ j = .int .i64 m ∧ rc = .bool (mrec D k m) ∧ Below w3.heap.size w3 wq) (fun _ j _ => k - (intOf j).toNat)
          case atStart => exact ⟨0, Nat.zero_le _, rfl, rfl, Below.refl _ _⟩
          case round =>
            obtain ⟨m, hmk, rfl, rfl, hbq⟩ := hrel
            by_cases hmlt : m < k
            · have cj : wr.cell? ⟨p1, m, none⟩ = some (.int .i64 (D m)) := (hbq.cell (by exact z1')).trans (hall.out m (by omega))
              have ck : wr.cell? ⟨p1, k, none⟩ = some (.int .i64 (D k)) := (hbq.cell (by exact z1')).trans hd1
              have j0 : (m : Int) < (l1 : Int) := by omega
              have j1 : (0 : Int) ≤ (m : Int) := by omega
              by_cases hge : D k ≤ D m
              · go_wp2_with fail
                go_quiet (fail)
                go_wp2
                go_roundw
                case rel => exact ⟨m + 1, by omega, by go_num, by simp [mrec, hge], below_drewN hbq _⟩
                case measure => simp [intOf]; omega
              · go_wp2_with fail
                go_quiet (fail)
                go_wp2
                go_roundw
                case rel => exact ⟨m + 1, by omega, by go_num, by simp [mrec, hge], below_drewN hbq _⟩
                case measure => simp [intOf]; omega
            · have e : k = m := by omega
              subst e
              have hr := mrec_yes L D k hm
              have ck0 : wr.cell? ⟨p0, k, none⟩ = some (.int .i64 (L k)) := (hbq.cell (by exact z0')).trans hd0
              have ck : wr.cell? ⟨p1, k, none⟩ = some (.int .i64 (D k)) := (hbq.cell (by exact z1')).trans hd1
              have R : Hid (Below w2.heap.size w2 wr) := hsz.out.trans (hbq.mono hsz.out.size)
              have HM : Hid (mst L D (k + 1) = (L k, D k)) := mst_yes hm
              clear hbq hd0 hd1 hmk hmlt
              go_wp2
              go_roundw
              case rel => exact ⟨k + 1, by omega, by go_num, by rw [HM.out], by rw [HM.out], R.out⟩
              case measure => simp [intOf]; omega
        · have hm' : D k ≤ (mst L D k).2 := by omega
          go_wp2_with fail
          go_region_held3 (fun w' => w'.cell? ⟨p0, k, none⟩ = some (.int .i64 (L k)) ∧ w'.cell? ⟨p1, k, none⟩ = some (.int .i64 (D k))) (first | exact ⟨hc0, hc1⟩ | exact hS3)
            (first
              | (go_at_call 15; refine (meet_no _ _ _ _ _ hm').mono ?_; rintro e w3 ⟨rfl, bel3⟩; have hS3 := And.intro ((bel3.cell (p := ⟨p0, k, none⟩) z0).trans hc0) ((bel3.cell (p := ⟨p1, k, none⟩) z1).trans hc1)))
          have hsz : Hid (Below w2.heap.size w2 w3) := hbel.drew.trans (bel3.mono hbel.size)
          have z0' : p0 < w3.heap.size := by have := hsz.out.size; omega
          have z1' : p1 < w3.heap.size := by have := hsz.out.size; omega
          obtain ⟨hd0, hd1⟩ := hS3
          have hall : Hid (∀ j, j < n → w3.cell? ⟨p1, j, none⟩ = some (.int .i64 (D j))) := fun j hj => (hsz.out.cell (by exact q1)).trans (e1.cellAt hj)
          clear bel3 hbel hc0 hc1 z0 z1
          go_wp2_with fail
          go_loopw [12, 13] (fun rc j wq => ∃ m : Nat, m ≤ k ∧ j = .int .i64 m ∧ rc = .bool (mrec D k m) ∧ Below w3.heap.size w3 wq) (fun _ j _ => k - (intOf j).toNat)
          case atStart => exact ⟨0, Nat.zero_le _, rfl, rfl, Below.refl _ _⟩
          case round =>
            obtain ⟨m, hmk, rfl, rfl, hbq⟩ := hrel
            by_cases hmlt : m < k
            · have cj : wr.cell? ⟨p1, m, none⟩ = some (.int .i64 (D m)) := (hbq.cell (by exact z1')).trans (hall.out m (by omega))
              have ck : wr.cell? ⟨p1, k, none⟩ = some (.int .i64 (D k)) := (hbq.cell (by exact z1')).trans hd1
              have j0 : (m : Int) < (l1 : Int) := by omega
              have j1 : (0 : Int) ≤ (m : Int) := by omega
              by_cases hge : D k ≤ D m
              · go_wp2_with fail
                go_quiet (fail)
                go_wp2
                go_roundw
                case rel => exact ⟨m + 1, by omega, by go_num, by simp [mrec, hge], below_drewN hbq _⟩
                case measure => simp [intOf]; omega
              · go_wp2_with fail
                go_quiet (fail)
                go_wp2
                go_roundw
                case rel => exact ⟨m + 1, by omega, by go_num, by simp [mrec, hge], below_drewN hbq _⟩
                case measure => simp [intOf]; omega
            · have e : k = m := by omega
              subst e
              have hr := mrec_no L D k (by omega)
              have ck0 : wr.cell? ⟨p0, k, none⟩ = some (.int .i64 (L k)) := (hbq.cell (by exact z0')).trans hd0
              have ck : wr.cell? ⟨p1, k, none⟩ = some (.int .i64 (D k)) := (hbq.cell (by exact z1')).trans hd1
              have R : Hid (Below w2.heap.size w2 wr) := hsz.out.trans (hbq.mono hsz.out.size)
              have HM : Hid (mst L D (k + 1) = mst L D k) := mst_no (by omega)
              clear hbq hd0 hd1 hmk hmlt
              go_wp2
              go_roundw
              case rel => exact ⟨k + 1, by omega, by go_num, by rw [HM.out], by rw [HM.out], R.out⟩
              case measure => simp [intOf]; omega
      · have e : n = k := by omega
        subst e
        have hall : ∀ j, j < n → ∃ p, b1 = some ⟨p, 0, none⟩ ∧ wr.cell? ⟨p, j, none⟩ = some (.int .i64 (D j)) := fun j hj => by
          obtain ⟨p, e, q, c⟩ := e1 j hj
          exact ⟨p, e, (hbel.cell (by exact q)).trans c⟩
        have hall0 : ∀ j, j < n → ∃ p, b0 = some ⟨p, 0, none⟩ ∧ wr.cell? ⟨p, j, none⟩ = some (.int .i64 (L j)) := fun j hj => by
          obtain ⟨p, e, q, c⟩ := e0 j hj
          exact ⟨p, e, (hbel.cell (by exact q)).trans c⟩
        have HA := show Hid _ from hall
        have HB := show Hid _ from hall0
        have R : Hid (Below w'.heap.size w' wr) := belw.trans (hbel.mono belw.size)
        clear hall hall0 e0 e1 hbel belw
        go_wp2_with fail
        go_loop [14, 15] (fun m i => ∃ q : Nat, q ≤ n ∧ i = .int .i64 q ∧ m = .int .i64 (mst L D q).2) (fun _ i => n - (intOf i).toNat)
        case atStart => exact ⟨0, Nat.zero_le _, rfl, rfl⟩
        case round =>
          obtain ⟨q, hq, rfl, rfl⟩ := hrel
          by_cases hqn : q < n
          · obtain ⟨p, rfl, hc⟩ := HA.out q hqn
            have j0 : (q : Int) < (l1 : Int) := by omega
            by_cases hm : (mst L D q).2 < D q
            · have HM : Hid (mst L D (q + 1) = (L q, D q)) := mst_yes hm
              go_wp2
              go_round
              case rel => exact ⟨q + 1, by omega, by go_num, by rw [HM.out]⟩
              case measure => simp [intOf]; omega
            · have HM : Hid (mst L D (q + 1) = mst L D q) := mst_no hm
              go_wp2
              go_round
              case rel => exact ⟨q + 1, by omega, by go_num, by rw [HM.out]⟩
              case measure => simp [intOf]; omega
          · have e : n = q := by omega
            subst e
            by_cases hz : (mst L D n).2 = 0
            · have hz1 := mst_zero L D n hz
              go_wp2
              go_ret
              exact ⟨rfl, R.out⟩
            · have hz1 : ((mst L D n).2 == 0) = false := by simpa using hz
              have HZ := show Hid _ from hz
              clear hz
              go_wp2_with fail
              go_loop [16] (fun i => ∃ q : Nat, q ≤ n ∧ i = .int .i64 q ∧ ∀ j, j < q → D j ≠ (mst L D n).2) (fun i => n - (intOf i).toNat)
              case atStart => exact ⟨0, Nat.zero_le _, rfl, by omega⟩
              case round =>
                obtain ⟨q, hq, rfl, hf⟩ := hrel
                have HF := show Hid _ from hf
                clear hf
                by_cases hqn : q < n
                · obtain ⟨p, rfl, hc⟩ := HA.out q hqn
                  obtain ⟨p', rfl, hc'⟩ := HB.out q hqn
                  have j0 : (q : Int) < (l1 : Int) := by omega
                  by_cases hm : D q = (mst L D n).2
                  · have hm1 : (D q == (mst L D n).2) = true := by simpa using hm
                    have hl : (mst L D n).1 = L q := mst_first L D n q HZ.out hqn hm HF.out
                    clear hm
                    have i0 : (q : Int) < (l1 : Int) := by omega
                    go_wp2
                    go_ret
                    exact ⟨rfl, R.out⟩
                  · have hm1 : (D q == (mst L D n).2) = false := by simpa using hm
                    have HM := show Hid _ from hm
                    clear hm
                    go_wp2
                    go_round
                    case rel =>
                      refine ⟨q + 1, by omega, by go_num, ?_⟩
                      intro j hj
                      by_cases e : j = q
                      · rw [e]; exact HM.out
                      · exact HF.out j (by omega)
                    case measure => simp [intOf]; omega
                · exact (mst_some L D n HZ.out (fun j hj => HF.out j (by omega))).elim

end Go.Proofs.Qxb6003777a
