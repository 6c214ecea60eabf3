/-
  THE WALK OF FnJcsEscapedUnitReadsAppendStringBack.
-/
import Derived.Test.Qxb6606060aDoorText
import Derived.Test.Qxb6606060aDoorUnit
import Derived.Test.Qxb6606060aDoorSmall
namespace Go.Proofs.Qxb6606060aDoor
open Go.RowKit

/-- The new block of make([]byte, 0, n). -/
def outObj (n : Nat) : Obj := .cells (madeCells #[.int .u8 0] (n * 1)) 5
theorem run_make_out (n : Nat) (h : n ≤ 65536) (w : World) :
    (Instr.makeSlice 23 (.int .i64 0) (.int .i64 (n : Int))).run Tryd.prog w = .ok (.slice (some ⟨w.heap.size, 0, none⟩) 0 n) (w.alloc (outObj n)) := by
  obtain ⟨i, hi, hz0, hz1, hz2⟩ := info_parts Tryd.info5
  have hr := run_make (P := Tryd.prog) w 23 5 i (.int .u8 0) Tryd.underlying23 hi hz0 .i64 .i64 0 n (by omega) (by omega) (by rw [hz2]; omega) (by omega)
  simp only [Int.toNat_natCast, hz1] at hr
  exact hr
theorem own_out (w : World) (base n : Nat) (hb : base ≤ w.heap.size) (h : n ≤ 65536) : (w.alloc (outObj n)).ownsRow base 5 1 (.slice (some ⟨w.heap.size, 0, none⟩) 0 n) 0 [] :=
  World.ownsRow_made w _ n hb (by unfold maxLen; omega) (size_madeCells _ _)

/-- A two-character escape's letter and its byte. -/
def PairIs (l b : Int) : Prop := (l = 34 ∧ b = 34) ∨ (l = 92 ∧ b = 92) ∨ (l = 98 ∧ b = 8) ∨ (l = 102 ∧ b = 12) ∨ (l = 110 ∧ b = 10) ∨ (l = 114 ∧ b = 13) ∨ (l = 116 ∧ b = 9)

/-- A byte without a two-character escape. -/
def NoShort (c : Int) : Prop := c ≠ 34 ∧ c ≠ 92 ∧ c ≠ 8 ∧ c ≠ 12 ∧ c ≠ 10 ∧ c ≠ 13 ∧ c ≠ 9

set_option maxRecDepth 100000 in
set_option maxHeartbeats 1000000 in
theorem jcs_core (s : ByteArray) (w : World) (hs : s.size ≤ 65536) :
    Calls Tryd.prog 3 #[.string s] w fun e w' => e = .returned (.bool true) ∧ Below w.heap.size w w' := by
  have hmk := run_make_out s.size hs
  go_enter Tryd.func3, Tryd.ntmps3
  go_wp2_with fail
  refine (bytes_ok s _ hs).mono ?_
  rintro e w' ⟨rfl, rfl⟩
  go_wp2_with fail
  refine (zz_append s _ hs).mono ?_
  rintro e w1 ⟨v, rfl, hown, hbel⟩
  obtain ⟨g, cap, hv, hcap, hg0, hg1, hcell⟩ := own_open hown (by have := text_len s; omega)
  rw [hv]
  clear hv hown
  have t0 := hcell 0 34 (text_first s)
  have t1 := hcell _ 34 (text_end s)
  have hlen := text_len s
  have hpl := pos_last s
  have hpb := pos_le s s.size
  obtain ⟨n, hn⟩ : ∃ n, n = (text s).length := ⟨_, rfl⟩
  rw [← hn] at t1 hlen hpl hcap ⊢
  have hn2 : n ≤ 393218 := by omega
  have HN : Hid (n = (text s).length) := hn
  have HCELL : Hid (∀ j b, (text s)[j]? = some b → w1.cell? ⟨g, j, none⟩ = some (.int .u8 (b.toNat : Int))) := hcell
  have t1' : w1.cell? ⟨g, n - 1, none⟩ = some (.int .u8 34) := t1
  have t0' : w1.cell? ⟨g, 0, none⟩ = some (.int .u8 34) := t0
  have HB : Hid (Below w'.heap.size w' w1) := hbel
  clear hn hcell t0 t1 hbel
  go_wp2_with fail
  go_loopw [5, 6] (fun vo i wr => ∃ j : Nat, j ≤ s.size ∧ i = .int .i64 (pos s j) ∧ wr.ownsRow w1.heap.size 5 1 vo (s.data.toList.take j).length ((s.data.toList.take j).map bv) ∧ Below w1.heap.size w1 wr) (fun _ i _ => n - (intOf i).toNat)
  case atStart => exact ⟨0, Nat.zero_le _, rfl, own_out w1 w1.heap.size s.size (Nat.le_refl _) hs, (Below.refl _ _).alloc (Nat.le_refl _) _⟩
  case round =>
    obtain ⟨j, hj, rfl, hown, hbel⟩ := hrel
    have hsz := hbel.size
    by_cases hjs : j < s.size
    · obtain ⟨b, htake, hpos, hat⟩ := piece s j hjs
      have hpm := pos_mono s j
      have hcl : ∀ q c, (enc1 b)[q]? = some c → wr.cell? ⟨g, pos s j + q, none⟩ = some (.int .u8 (c.toNat : Int)) := fun q c h => (hbel.cell (by exact hg1)).trans (HCELL.out _ _ (hat q c h))
      have HT : Hid _ := htake
      have HP : Hid _ := hpos
      have hj64 : (s.data.toList.take j).length ≤ 65536 := by have := List.length_take_le j s.data.toList; omega
      generalize hLL : s.data.toList.take j = L at *
      have HLL : Hid _ := hLL
      clear hLL
      generalize hp : pos s j = p at *
      have HPP : Hid _ := hp
      have hbt := b.toNat_lt
      rcases enc1_cases b with ⟨hb92, hE⟩ | ⟨c, hE, hc117, hpair⟩ | ⟨hb32, hbne, hE⟩
      · have c0 := hcl 0 b (by rw [hE]; rfl)
        have e92 : ((b.toNat : Int) != 92) = true := by simp; omega
        have hq : pos s (j + 1) = p + 1 := by rw [HP.out, hE]; rfl
        have hpn : p + 1 < n := by omega
        have HQ : Hid _ := hq
        simp only [Nat.add_zero] at c0
        have i0 : (p : Int) < (n : Int) - 1 := by omega
        clear hcl hat htake hpos hp hq hpm hb92 hE t0' t1' hmk
        go_wp2_with (at_builtin; refine wpList_app wr [.int .u8 (b.toNat : Int)] rfl _ _ rfl w1.heap.size _ _ _ rfl hown rfl (ints_oneCell .u8 [(b.toNat : Int)]) (by simp; omega) hsz ?_)
        intro v2 w2 hown2 hbel2
        have HO2 : Hid (w2.ownsRow w1.heap.size 5 1 v2 (L.length + 1) (L.map bv ++ [.int .u8 (b.toNat : Int)])) := hown2
        have HB2 : Hid (Below w1.heap.size w1 w2) := hbel.trans hbel2
        clear hown2 hbel2
        go_wp2
        go_roundw
        case rel => exact ⟨j + 1, by omega, by rw [HQ.out]; go_num, by rw [HT.out]; exact own_step HO2.out (E := [b]) rfl rfl, HB2.out⟩
        case measure => simp [intOf]; omega
      · have c0 := hcl 0 92 (by rw [hE]; rfl)
        have c1 := hcl 1 c (by rw [hE]; rfl)
        have hq : pos s (j + 1) = p + 2 := by rw [HP.out, hE]; rfl
        have hpn : p + 2 < n := by omega
        have HQ : Hid _ := hq
        have HW : Hid (wr.ownsRow w1.heap.size 5 1 _ L.length (L.map bv)) := hown
        simp only [Nat.add_zero] at c0
        have c0' : wr.cell? ⟨g, p, none⟩ = some (.int .u8 92) := c0
        have i0 : (p : Int) < (n : Int) - 1 := by omega
        have i1 : (p : Int) + 1 < (n : Int) - 1 := by omega
        have HPR : PairIs (c.toNat : Int) (b.toNat : Int) := hpair
        clear c0 hcl hat htake hpos hp hq hpm hE t0' t1' hmk hown hpair
        go_wp2_with fail
        refine (zz_unit_no g n cap p (c.toNat : Int) _ (by omega) (by omega) c0' c1 (by omega)).mono ?_
        rintro e w2 ⟨rfl, rfl⟩
        go_wp2_with fail
        refine (short_byte (c.toNat : Int) (b.toNat : Int) _ HPR).mono ?_
        rintro e w3 ⟨rfl, hbel3⟩
        have hown3 := own_below HW.out hbel3
        have HB3 : Hid (Below w1.heap.size w1 w3) := hbel.trans (hbel3.mono hsz)
        have hsz3 := HB3.out.size
        clear hbel hbel3 HW
        go_wp2_with (at_builtin; refine wpList_app w3 [.int .u8 (b.toNat : Int)] rfl _ _ rfl w1.heap.size _ _ _ rfl hown3 rfl (ints_oneCell .u8 [(b.toNat : Int)]) (by simp; omega) hsz3 ?_)
        intro v2 w2 hown2 hbel2
        have HO2 : Hid (w2.ownsRow w1.heap.size 5 1 v2 (L.length + 1) (L.map bv ++ [.int .u8 (b.toNat : Int)])) := hown2
        have HB2 : Hid (Below w1.heap.size w1 w2) := HB3.out.trans hbel2
        clear hown2 hbel2 hown3
        go_wp2
        go_roundw
        case rel => exact ⟨j + 1, by omega, by rw [HQ.out]; go_num, by rw [HT.out]; exact own_step HO2.out (E := [b]) rfl rfl, HB2.out⟩
        case measure => simp [intOf]; omega
      · have c0 := hcl 0 92 (by rw [hE]; rfl)
        have c1 := hcl 1 117 (by rw [hE]; rfl)
        have c2 := hcl 2 48 (by rw [hE]; rfl)
        have c3 := hcl 3 48 (by rw [hE]; rfl)
        have c4 := hcl 4 (hexDig (b.toNat / 16)) (by rw [hE]; rfl)
        have c5 := hcl 5 (hexDig (b.toNat % 16)) (by rw [hE]; rfl)
        have hq : pos s (j + 1) = p + 6 := by rw [HP.out, hE]; rfl
        have hpn : p + 6 < n := by omega
        have HQ : Hid _ := hq
        have HW : Hid (wr.ownsRow w1.heap.size 5 1 _ L.length (L.map bv)) := hown
        simp only [Nat.add_zero] at c0
        have c0' : wr.cell? ⟨g, p, none⟩ = some (.int .u8 92) := c0
        have c1' : wr.cell? ⟨g, p + 1, none⟩ = some (.int .u8 117) := c1
        have i0 : (p : Int) < (n : Int) - 1 := by omega
        have hx0 : isHex 48 := .inl (by decide)
        have hx2 := hexDig_isHex (b.toNat / 16) (by omega)
        have hx3 := hexDig_isHex (b.toNat % 16) (by omega)
        have U : ∀ wx, wx = wr → Calls Tryd.prog 9 #[.slice (some ⟨g, 0, none⟩) n cap, .int .i64 p] wx fun e w' => e = .returned (.tuple #[.int .u16 (b.toNat : Int), .bool true]) ∧ Below wr.heap.size wr w' := by
          rintro wx rfl
          have h := zz_unit_yes g n cap p 48 48 (hexDig (b.toNat / 16)) (hexDig (b.toNat % 16)) wx (by omega) (by omega) hcap c0' c1' c2 c3 c4 c5 hx0 hx0 hx2 hx3
          rw [hexVal_ctl b.toNat (by omega)] at h
          exact h
        have HU : Hid _ := U
        obtain ⟨n8, n9, n10, n12, n13⟩ := hbne
        have k0 : (b.toNat : Int) < 32 := by omega
        have k1 : (0 : Int) ≤ (b.toNat : Int) := by omega
        have KN : NoShort (b.toNat : Int) := by unfold NoShort; omega
        clear c0 c1 c2 c3 c4 c5 c1' hcl hat htake hpos hp hq hpm hE t0' t1' hmk hown U n8 n9 n10 n12 n13 hx0 hx2 hx3
        go_wp2_with fail
        refine (HU.out _ rfl).mono ?_
        rintro e w3 ⟨rfl, hbel3⟩
        have HW3 : Hid _ := own_below HW.out hbel3
        have HB3 : Hid (Below w1.heap.size w1 w3) := hbel.trans (hbel3.mono hsz)
        clear hbel hbel3 HW HU c0'
        go_wp2_with fail
        refine (letter_none (b.toNat : Int) _ KN).mono ?_
        rintro e w4 ⟨rfl, hbel4⟩
        have hown4 := own_below HW3.out hbel4
        have HB4 : Hid (Below w1.heap.size w1 w4) := HB3.out.trans (hbel4.mono HB3.out.size)
        have hsz4 := HB4.out.size
        have i6 : ¬ (n : Int) - 1 < (p : Int) + 6 := by omega
        clear hbel4 HW3 HB3 KN
        go_wp2_with (at_builtin; refine wpList_app w4 [.int .u8 (b.toNat : Int)] rfl _ _ rfl w1.heap.size _ _ _ rfl hown4 rfl (ints_oneCell .u8 [(b.toNat : Int)]) (by simp; omega) hsz4 ?_)
        intro v2 w2 hown2 hbel2
        have HO2 : Hid (w2.ownsRow w1.heap.size 5 1 v2 (L.length + 1) (L.map bv ++ [.int .u8 (b.toNat : Int)])) := hown2
        have HB2 : Hid (Below w1.heap.size w1 w2) := HB4.out.trans hbel2
        clear hown2 hbel2 hown4
        go_wp2
        go_roundw
        case rel => exact ⟨j + 1, by omega, by rw [HQ.out]; go_num, by rw [HT.out]; exact own_step HO2.out (E := [b]) rfl rfl, HB2.out⟩
        case measure => simp [intOf]; omega
    · have ej : s.size = j := by omega
      have ep : (pos s j : Int) = (n : Int) - 1 := by rw [← ej]; omega
      have etk : s.data.toList.take j = s.data.toList := List.take_of_length_le (by simp; omega)
      have e1 : ((pos s j : Int) == (n : Int) - 1) = true := by simp [ep]
      have hlt : ¬ (pos s j : Int) < (n : Int) - 1 := by omega
      rw [etk] at hown
      obtain ⟨a, cap2, hv2, hcs⟩ := own_slice hown
      have hsl : s.data.toList.length = s.size := by simp
      rw [hsl] at hv2
      have HE : Hid (∀ q (hq : q < s.size), ∃ g, a = some ⟨g, 0, none⟩ ∧ wr.cell? ⟨g, q, none⟩ = some (.int .u8 (s[q].toNat : Int))) := fun q hq => hcs q s[q] (by
        rw [List.getElem?_eq_some_iff]; exact ⟨by simpa using hq, rfl⟩)
      have HB5 : Hid (Below w1.heap.size w1 wr) := hbel
      rw [hv2]
      clear hcs hown etk ep hmk t0' t1' hbel hsl hv2 ej
      go_wp2_with fail
      refine (equal_string a cap2 s _ hs HE.out).mono ?_
      rintro e w5 ⟨rfl, hbel5⟩
      have HF : Hid (Below w'.heap.size w' w5) := (HB.out.trans (HB5.out.mono HB.out.size)).trans (hbel5.mono (Nat.le_trans HB.out.size HB5.out.size))
      clear hbel5
      go_wp2
      go_ret
      exact ⟨rfl, HF.out⟩

set_option maxRecDepth 100000 in
theorem jcs_long (s : ByteArray) (w : World) (hm : s.size ≤ maxLen) (h : ¬ s.size ≤ 65536) :
    Calls Tryd.prog 3 #[.string s] w fun e w' => e = .returned (.bool true) ∧ Below w.heap.size w w' := by
  go_enter Tryd.func3, Tryd.ntmps3
  go_wp2_with fail
  refine (bytes_any s _ hm).mono ?_
  rintro e w' ⟨⟨x, rfl⟩, rfl⟩
  clear hm
  cases x
  · go_wp2
    go_ret
    exact ⟨rfl, Below.refl _ _⟩
  · go_wp2
    go_ret
    exact ⟨rfl, Below.refl _ _⟩

theorem jcs_law (s : ByteArray) (w : World) (hm : s.size ≤ maxLen) :
    Calls Tryd.prog 3 #[.string s] w fun e w' => e = .returned (.bool true) ∧ Below w.heap.size w w' := by
  by_cases h : s.size ≤ 65536
  · exact jcs_core s w h
  · exact jcs_long s w hm h

end Go.Proofs.Qxb6606060aDoor
