/-
  THE WALK OF FnSeekLineVisitsEachRemainingByteOnce.
-/
import Derived.Test.Qxb6003777aParts
import Derived.Test.Qxb6003777aSeekLine
namespace Go.Proofs.Qxb6003777a
open Go.RowKit

theorem Try.info5 : (Try.prog.info? 5).map (fun i => (i.zero, i.size, i.bytes)) = some (some (.int .u8 0), 1, 1) := by kernel_rfl
/-- The new block of m bytes. -/
def byteObj (m : Nat) : Obj := .cells (madeCells #[.int .u8 0] (m * 1)) 5
theorem run_make_bytes (m : Nat) (h : m ≤ 4096) (w : World) :
    (Instr.makeSlice 27 (.int .i64 (m : Int)) (.int .i64 (m : Int))).run Try.prog w = .ok (.slice (some ⟨w.heap.size, 0, none⟩) m m) (w.alloc (byteObj m)) :=
  run_make_any 27 5 (.int .u8 0) 1 1 Try.underlying27 Try.info5 m (by omega) (by omega) w

set_option maxRecDepth 100000 in
set_option maxHeartbeats 4000000 in
theorem line_core (a0 : Option Addr) (n c0 : Nat) (g : Nat → Nat) (P0 R0 : Nat) (w : World) (hn : n ≤ 1024) (r0 : Row w a0 n c0 (fun i => (g i : Int))) (hg : ∀ i, i < n → g i ≤ 4096) (hs : sumN g n ≤ 65536)
    (hP : P0 ≤ n) (hR : P0 < n → R0 ≤ g P0) (hR' : P0 = n → R0 = 0) :
    Calls Try.prog 4 #[.slice a0 n c0, .int .i64 P0, .int .i64 R0] w fun e w' => e = .returned (.bool true) ∧ Below w.heap.size w w' := by
  have HR := show Hid _ from hR
  have HR' := show Hid _ from hR'
  have HG := show Hid _ from hg
  clear hR hR' hg
  go_enter Try.func4, Try.ntmps4
  go_wp2_with fail
  refine (bytes_line _ _ _ _ _ _ hn).mono ?_
  rintro e w' ⟨rfl, rfl⟩
  go_wp2_with fail
  go_loop [7, 8] (fun t i => ∃ k : Nat, k ≤ n ∧ i = .int .i64 k ∧ t = .int .i64 (sumN g k)) (fun _ i => n - (intOf i).toNat)
  case atStart => exact ⟨0, Nat.zero_le _, rfl, rfl⟩
  case round =>
    obtain ⟨k, hk, rfl, rfl⟩ := hrel
    by_cases hkn : k < n
    · rcases r0 with ⟨_, h, _⟩ | ⟨x, rfl, hsrc⟩
      · omega
      obtain ⟨b, off, rfl, hbb, hc⟩ := hsrc k hkn
      have hgk := HG.out k hkn
      have hsk := sumN_mono g (k + 1) n (by omega)
      have HS : Hid (sumN g (k + 1) = sumN g k + g k) := rfl
      have hsk2 : sumN g k + g k ≤ 65536 := by have := HS.out; omega
      clear hsk
      go_wp2
      go_round
      case rel => exact ⟨k + 1, by omega, by go_num, by rw [HS.out]; go_num⟩
      case measure => simp [intOf]; omega
    · have e : n = k := by omega
      subst e
      clear hkn hk
      have hcase : (((P0 : Int) == (n : Int)) = true ∧ ((R0 : Int) != 0) = false) ∨ (((P0 : Int) == (n : Int)) = false ∧ (R0 : Int) ≤ (g P0 : Int) ∧ ∃ b off, a0 = some ⟨b, off, none⟩ ∧ w'.cell? ⟨b, off + P0, none⟩ = some (.int .i64 (g P0)) ∧ (P0 : Int) < (n : Int)) := by
        by_cases hPn : P0 = n
        · refine .inl ⟨by simp [hPn], ?_⟩
          have := HR'.out hPn
          simp [this]
        · have hPlt : P0 < n := by omega
          have hRb := HR.out hPlt
          refine .inr ⟨by simp; omega, by omega, ?_⟩
          rcases r0 with ⟨_, h, _⟩ | ⟨x, rfl, hsrc⟩
          · omega
          obtain ⟨b, off, rfl, hbb, hc⟩ := hsrc P0 hPlt
          exact ⟨b, off, rfl, hc, by omega⟩
      have r1 := show Hid _ from r0
      clear r0
      have hmk := run_make_parts n hn
      rcases hcase with ⟨q1, q2⟩ | ⟨q1, q2, b, off, rfl, q3, q4⟩
      all_goals
        go_wp2_with fail
        refine (clone_any _ _ _ _ _ hn r1.out).mono ?_
        rintro e w1 ⟨b1, rfl, d1, bel1⟩
        have D1 : Hid (Held w1 b1 n (fun i => (g i : Int))) := d1
        have B1 : Hid (Below w'.heap.size w' w1) := bel1
        clear d1 bel1
        go_wp2_with fail
        go_loopw [12] (fun i wr => ∃ k : Nat, k ≤ n ∧ i = .int .i64 k ∧ Laid wr w1.heap.size n k 2 g ∧ Below w1.heap.size w1 wr) (fun i _ => n - (intOf i).toNat)
        case atStart => exact ⟨0, Nat.zero_le _, rfl, laid_new w1 n 2 g, (Below.refl _ _).alloc (Nat.le_refl _) _⟩
        case round =>
          obtain ⟨k, hk, rfl, hlaid, hbel⟩ := hrel
          by_cases hkn : k < n
          · obtain ⟨F, hrow, hF⟩ := hlaid
            obtain ⟨p, rfl, q0, hc⟩ := D1.out k hkn
            have hck : wr.cell? ⟨p, k, none⟩ = some (.int .i64 (g k)) := (hbel.cell (by exact q0)).trans hc
            have hgk := HG.out k hkn
            have hmk2 := run_make_bytes (g k) (by omega)
            have hkl : (k : Int) < (n : Int) := by omega
            have hA := hrow.alloc (byteObj (g k))
            have x0 := hA.cell (i := k * 5) (by omega)
            have x1 := hA.cell (i := k * 5 + 1) (by omega)
            have x2 := hA.cell (i := k * 5 + 2) (by omega)
            have x3 := hA.cell (i := k * 5 + 3) (by omega)
            have x4 := hA.cell (i := k * 5 + 4) (by omega)
            have y0 := fun o => hA.frozen o
            clear hA
            have L1 : Hid _ := laid_step ⟨F, hrow, hF⟩ (by omega) (byteObj (g k)) (.string { data := #[] }) (.int .i64 0) (.slice (some ⟨wr.heap.size, 0, none⟩) (g k) (g k)) (.bool false) (.slice none 0 0) ⟨_, rfl⟩
            have L2 : Hid _ := below_step (B := w1.heap.size) (k := k) hbel (Nat.le_refl _) hbel.size (byteObj (g k)) (.string { data := #[] }) (.int .i64 0) (.slice (some ⟨wr.heap.size, 0, none⟩) (g k) (g k)) (.bool false) (.slice none 0 0)
            clear hrow hF hbel
            go_wp2
            go_roundw
            case rel => exact ⟨k + 1, by omega, by go_num, L1.out, L2.out⟩
            case measure => simp [intOf]; omega
          · have e : n = k := by omega
            subst e
            clear hkn hk hmk
            have Q1 : Hid (LineParts wr w1.heap.size n g) := laid_cells hlaid (by omega)
            have hBs := laid_lt hlaid
            have D2 : Hid (Held wr b1 n (fun i => (g i : Int))) := Held.below D1.out hbel
            have B2 : Hid (Below w'.heap.size w' wr) := B1.out.trans (hbel.mono B1.out.size)
            clear hlaid hbel
            have hs0 := sumN_mono g P0 n hP
            go_wp2_with fail
            go_loop [13, 14] (fun x i => ∃ j : Nat, P0 ≤ j ∧ j ≤ n ∧ i = .int .i64 j ∧ x = .int .i64 ((sumN g j : Int) - (sumN g P0 : Int))) (fun _ i => n - (intOf i).toNat)
            case atStart => exact ⟨P0, Nat.le_refl _, hP, rfl, by simp⟩
            case round =>
              obtain ⟨j, hj0, hj1, rfl, rfl⟩ := hrel
              by_cases hjn : j < n
              · obtain ⟨p, rfl, q0, hc⟩ := D2.out j hjn
                have hgk := HG.out j hjn
                have hs1 := sumN_mono g j n hj1
                have hs2 := sumN_mono g P0 j hj0
                have HS : Hid (sumN g (j + 1) = sumN g j + g j) := rfl
                have hkl : (j : Int) < (n : Int) := by omega
                go_wp2
                go_round
                case rel => exact ⟨j + 1, by omega, by omega, by go_num, by rw [HS.out]; go_num⟩
                case measure => simp [intOf]; omega
              · have e : n = j := by omega
                subst e
                clear hjn hj0 hj1
                have hL : Hid (Left g n ((sumN g n : Int) - (sumN g P0 : Int) - (R0 : Int)) 0 P0 R0) := ⟨hP, by omega, fun h => by have := HR.out h; omega, fun h => by have := HR'.out h; omega, by omega⟩
                have hE := hL.out.pos
                go_wp2_with fail
                refine (new_chunk _ _ _ _ _ _ _).mono ?_
                rintro e w3 ⟨rfl, hch3, hb3, hz3⟩
                have Q3 : Hid (LineParts w3 w1.heap.size n g) := fun i hi => by
                  obtain ⟨a, ha⟩ := Q1.out i hi
                  exact ⟨a, (hb3.cell (by exact hBs)).trans ha⟩
                have D3 : Hid (Held w3 b1 n (fun i => (g i : Int))) := Held.below D2.out hb3
                have B3 : Hid (Below w'.heap.size w' w3) := B2.out.trans (hb3.mono B2.out.size)
                have hCs : w'.heap.size ≤ wr.heap.size := B2.out.size
                obtain ⟨C, hC⟩ : ∃ C, C = wr.heap.size := ⟨_, rfl⟩
                rw [← hC] at hch3 hBs hCs hz3 ⊢
                have HC : Hid (C = wr.heap.size) := hC
                have hCB : w1.heap.size ≠ C := by omega
                obtain ⟨E, hEE⟩ : ∃ E, E = (sumN g n : Int) - (sumN g P0 : Int) - (R0 : Int) := ⟨_, rfl⟩
                have hE2 : E ≤ 65536 := by omega
                rw [← hEE] at hL hE
                have HC3 : Hid (Chunk w3 C w1.heap.size n P0 4 R0 3) := hch3
                have HEE : Hid (E = (sumN g n : Int) - (sumN g P0 : Int) - (R0 : Int)) := hEE
                have hE0 : 0 ≤ E := by omega
                have HD3 : Hid (HeldC w3 b1 n C (fun i => (g i : Int))) := heldC_of D1.out D3.out hBs
                clear hC hb3 Q1 D2 B2 hch3 hEE hE
                go_wp2_with fail
                rw [← HEE.out]
                go_loopw [16, 17, 18, 19, 20] (fun xp xr xs xl xc wr => ∃ (c p : Nat) (r s l : Int), xp = .int .i64 p ∧ xr = .int .i64 r ∧ xs = .int .i64 s ∧ xl = .int .i64 l ∧ xc = .int .i64 c ∧ Left g n E c p s ∧ Chunk wr C w1.heap.size n p r s l ∧ OnlyAt C w3 wr) (fun _ _ _ _ xc _ => (E + 1 - intOf xc).toNat)
                case atStart => exact ⟨0, P0, 4, R0, 3, rfl, rfl, rfl, rfl, rfl, hL.out, HC3.out, OnlyAt.refl _ _⟩
                case round =>
                  obtain ⟨c, p, r, s, l, rfl, rfl, rfl, rfl, rfl, hleft, hch, honly⟩ := hrel
                  have hcE := hleft.pos
                  have hpn := hleft.1
                  have HL : Hid (Left g n E c p s) := hleft
                  have HO : Hid (OnlyAt C w3 wr) := honly
                  have HCH : Hid (Chunk wr C w1.heap.size n p r s l) := hch
                  have HQ : Hid (LineParts wr w1.heap.size n g) := fun i hi => by
                    obtain ⟨a, ha⟩ := Q3.out i hi
                    exact ⟨a, (honly.cell (by exact hCB)).trans ha⟩
                  clear hleft hch honly
                  go_wp2_with fail
                  refine (zz_seek_line C w1.heap.size n g p r s l _ hn hpn (fun i hi => by have := HG.out i hi; omega) HCH.out HQ.out hCB).mono ?_
                  rintro e w4 ⟨p', r', s', l', rfl, h1, h2, h3, h4, h5⟩
                  have HO4 : Hid (OnlyAt C w3 w4) := HO.out.trans h5
                  have HC4 : Hid (Chunk w4 C w1.heap.size n p' r' s' l') := h4
                  have HQ4 : Hid (LineParts w4 w1.heap.size n g) := fun i hi => by
                    obtain ⟨a, ha⟩ := Q3.out i hi
                    exact ⟨a, (HO4.out.cell (by exact hCB)).trans ha⟩
                  clear h4 h5 HO HCH HQ
                  by_cases hlt : p' < n
                  · have hd : decide (p' < n) = true := by simpa using hlt
                    go_wp2_with fail
                    refine (frame_any C w1.heap.size n p' r' s' l' _ HC4.out).mono ?_
                    rintro e w5 ⟨rfl, m1, rfl⟩
                    have HD4 : Hid (HeldC w4 b1 n C (fun i => (g i : Int))) := HeldC.only HD3.out HO4.out
                    have hne := h2 hlt
                    have HNE : Hid (s' ≠ g p') := hne
                    have hgb := HG.out p' hlt
                    clear h2
                    have hlt2 : (p' : Int) < (n : Int) := by omega
                    rcases h3 with ⟨e1, e2, e3, e4⟩ | ⟨m1', m2, m3, e2, e3, e4⟩
                    · subst p r s l
                      have HN : Hid (Left g n E (c + 1) p' (s' + 1)) := HL.out.step hlt HNE.out
                      have hr0 : 0 ≤ s' := HL.out.2.1
                      have hr1 : s' < (g p' : Int) := by have := HL.out.2.2.1 hlt; omega
                      obtain ⟨q, rfl, hqC, hcp⟩ := HD4.out p' hlt
                      clear hne
                      go_wp2_with fail
                      refine (zz_seek_line C w1.heap.size n g p' r' s' l' _ hn h1 (fun i hi => by have := HG.out i hi; omega) (HC4.out.drewN _) (by exact HQ4.out) hCB).mono ?_
                      rintro e w6 ⟨p2, r2, s2, l2, rfl, k1, k2, k3, k4, k5⟩
                      have k6 : p2 = p' ∧ r2 = r' ∧ s2 = s' ∧ l2 = l' := by
                        rcases k3 with h | ⟨_, e, _⟩
                        · exact h
                        · exact absurd e HNE.out
                      obtain ⟨e1, e2, e3, e4⟩ := k6
                      subst p2 r2 s2 l2
                      have HC6 : Hid (Chunk w6 C w1.heap.size n p' r' s' l') := k4
                      have HO6 : Hid (OnlyAt C w3 w6) := (HO4.out.drewN _).trans k5
                      clear k1 k2 k3 k4 k5
                      go_wp2_with fail
                      refine (frame_any C w1.heap.size n p' r' s' l' _ HC6.out).mono ?_
                      rintro e w7 ⟨rfl, m7, rfl⟩
                      go_wp2_with fail
                      refine (set_frame C w1.heap.size n p' r' s' l' p' r' (s' + 1) l' _ (HC6.out.drewN _)).mono ?_
                      rintro e w8 ⟨rfl, k4, k5⟩
                      have HC8 : Hid (Chunk w8 C w1.heap.size n p' r' (s' + 1) l') := k4
                      have HO8 : Hid (OnlyAt C w3 w8) := (HO6.out.drewN _).trans k5
                      clear k4 k5
                      go_wp2
                      go_roundw
                      case rel => exact ⟨c + 1, p', r', (s' + 1), l', rfl, rfl, rfl, rfl, by go_num, HN.out, HC8.out, HO8.out⟩
                      case measure => simp [intOf]; omega
                    · subst r' s' l'
                      have HN : Hid (Left g n E (c + 1) p' 1) := (HL.out.move m1' h1 m2 m3).step hlt HNE.out
                      have hr1 : (0 : Int) < (g p' : Int) := by omega
                      obtain ⟨q, rfl, hqC, hcp⟩ := HD4.out p' hlt
                      have hcq := HD4.out.cellAt (i := p) (by omega)
                      have hpp : ((p' : Int) == (p : Int)) = false := by simp; omega
                      have hp2 : (p : Int) < (p' : Int) := by omega
                      have hp3 : (p : Int) < (n : Int) := by omega
                      have hr2 : (s != (g p : Int)) = false := by simp [m2]
                      have M3 : Hid (∀ q : Nat, p < q → q < p' → g q = 0) := m3
                      clear hne m2 m3
                      go_wp2_with fail
                      go_loop [25] (fun x => ∃ t : Nat, p < t ∧ t ≤ p' ∧ x = .int .i64 t) (fun x => p' - (intOf x).toNat)
                      case atStart => exact ⟨p + 1, by omega, by omega, by go_num⟩
                      case round =>
                        obtain ⟨t, ht0, ht1, rfl⟩ := hrel
                        by_cases htp : t < p'
                        · have hct := HD4.out.cellAt (i := t) (by omega)
                          have hz := M3.out t ht0 htp
                          have hz1 : ((g t : Int) != 0) = false := by simp [hz]
                          have hg2 : (t : Int) < (n : Int) := by omega
                          clear hz
                          go_wp2
                          go_round
                          case rel => exact ⟨t + 1, by omega, by omega, by go_num⟩
                          case measure => simp [intOf]; omega
                        · have e : p' = t := by omega
                          subst e
                          clear htp ht0 ht1
                          go_wp2_with fail
                          refine (zz_seek_line C w1.heap.size n g p' 0 0 0 _ hn h1 (fun i hi => by have := HG.out i hi; omega) (HC4.out.drewN _) (by exact HQ4.out) hCB).mono ?_
                          rintro e w6 ⟨p2, r2, s2, l2, rfl, k1, k2, k3, k4, k5⟩
                          have k6 : p2 = p' ∧ r2 = 0 ∧ s2 = 0 ∧ l2 = 0 := by
                            rcases k3 with h | ⟨_, e, _⟩
                            · exact h
                            · exact absurd e HNE.out
                          obtain ⟨e1, e2, e3, e4⟩ := k6
                          subst p2 r2 s2 l2
                          have HC6 : Hid (Chunk w6 C w1.heap.size n p' 0 0 0) := k4
                          have HO6 : Hid (OnlyAt C w3 w6) := (HO4.out.drewN _).trans k5
                          clear k1 k2 k3 k4 k5
                          go_wp2_with fail
                          refine (frame_any C w1.heap.size n p' 0 0 0 _ HC6.out).mono ?_
                          rintro e w7 ⟨rfl, m7, rfl⟩
                          go_wp2_with fail
                          refine (set_frame C w1.heap.size n p' 0 0 0 p' 0 1 0 _ (HC6.out.drewN _)).mono ?_
                          rintro e w8 ⟨rfl, k4, k5⟩
                          have HC8 : Hid (Chunk w8 C w1.heap.size n p' 0 1 0) := k4
                          have HO8 : Hid (OnlyAt C w3 w8) := (HO6.out.drewN _).trans k5
                          clear k4 k5
                          go_wp2
                          go_roundw
                          case rel => exact ⟨c + 1, p', 0, 1, 0, rfl, rfl, rfl, rfl, by go_num, HN.out, HC8.out, HO8.out⟩
                          case measure => simp [intOf]; omega
                  · have hd : decide (p' < n) = false := by simpa using hlt
                    have e : n = p' := by omega
                    have hce : (c : Int) = E := by
                      rcases h3 with ⟨e1, e2, e3, e4⟩ | ⟨m1', m2, m3, e2, e3, e4⟩
                      · exact HL.out.done (by omega)
                      · exact (HL.out.move m1' h1 m2 m3).done (by omega)
                    have hce1 : ((c : Int) != E) = false := by simp [hce]
                    clear hce h2 h3
                    go_wp2_with fail
                    refine (zz_seek_line C w1.heap.size n g p' r' s' l' _ hn h1 (fun i hi => by have := HG.out i hi; omega) HC4.out HQ4.out hCB).mono ?_
                    rintro e w6 ⟨p2, r2, s2, l2, rfl, k1, k2, k3, k4, k5⟩
                    have k6 : p2 = p' := by
                      rcases k3 with h | ⟨h, _⟩
                      · exact h.1
                      · omega
                    subst p2
                    have HC6 : Hid (Chunk w6 C w1.heap.size n p' r2 s2 l2) := k4
                    have HO6 : Hid (OnlyAt C w3 w6) := HO4.out.trans k5
                    clear k1 k2 k3 k4 k5
                    go_wp2_with fail
                    refine (frame_any C w1.heap.size n p' r2 s2 l2 _ HC6.out).mono ?_
                    rintro e w7 ⟨rfl, m7, rfl⟩
                    have hpe : ((p' : Int) == (n : Int)) = true := by simp; omega
                    go_wp2
                    go_ret
                    exact ⟨by simp, B3.out.trans ((HO6.out.drewN _).below hCs)⟩

end Go.Proofs.Qxb6003777a
