/-
  strconv.ParseUint AT A SHORT ROW OF LOWER-CASE HEXADECIMAL DIGITS, base 16, 16 bits.
-/
import Derived.Test.Qxb6606060aDoorRows
import Derived.Test.Qxb6606060aDoorPlain
import Derived.WalkKit
import Derived.WalkSpells
import Derived.WalkLawsBesides
import Derived.Deep.OwnRows
namespace Go.Proofs.Qxb6606060aDoor
open Go.RowKit

theorem or_low (c : UInt8) (h0 : 97 ≤ c.toNat) (h1 : c.toNat ≤ 102) : bits BinOp.or IntKind.u8 (c.toNat : Int) 32 = (c.toNat : Int) := by
  have hcs : c.toNat = 97 ∨ c.toNat = 98 ∨ c.toNat = 99 ∨ c.toNat = 100 ∨ c.toNat = 101 ∨ c.toNat = 102 := by omega
  rcases hcs with h | h | h | h | h | h <;> rw [h] <;> rfl

set_option maxRecDepth 100000 in
set_option maxHeartbeats 1000000 in
theorem parse_core (z : ByteArray) (w : World) (he : z.toList.isEmpty = false) (h1 : z.size ≤ 4) (hx : ∀ c ∈ z.data.toList, isHex c) :
    Calls Tryd.prog 30 #[.string z, .int .i64 16, .int .i64 16] w fun e w' => e = .returned (.tuple #[.int .u64 (hexVal z.data.toList), .nilIface]) ∧ Below w.heap.size w w' := by
  have hcv := fun (w : World) => run_bytes_of_string (P := Tryd.prog) w 9 23 5 z Tryd.underlying9 Tryd.underlying23 Tryd.underlying5
  have HX : Hid _ := hx
  clear hx
  go_enter Tryd.func30, Tryd.ntmps30
  go_wp2
  go_loop [12, 13, 101] (fun u n i => ∃ k : Nat, k ≤ z.size ∧ u = .bool false ∧ i = .int .i64 k ∧ n = .int .u64 (hexVal (z.data.toList.take k))) (fun _ _ i => z.size - (intOf i).toNat)
  case atStart => exact ⟨0, Nat.zero_le _, rfl, rfl, rfl⟩
  case round =>
    obtain ⟨k, hk, rfl, rfl, rfl⟩ := hrel
    by_cases hkz : k < z.size
    · have hkd : k < z.data.size := hkz
      have hcell := bytesRow_at z (grownCap w z.size 0 5) k hkd
      have hhex := HX.out z.data[k] (by simp)
      obtain ⟨c, hc⟩ : ∃ c, c = z.data[k] := ⟨_, rfl⟩
      rw [← hc] at hcell hhex
      have hcell2 := (World.cell?_alloc_mark w (bytesRow z (grownCap w z.size 0 5)) 5 ((bytesRow z (grownCap w z.size 0 5)).size, (bytesRow z (grownCap w z.size 0 5)).size + 1) k).trans hcell
      have hv1 := hv_lt hhex
      have hV : hexVal (z.data.toList.take (k + 1)) = hexVal (z.data.toList.take k) * 16 + hv c := by
        rw [List.take_succ_eq_append_getElem (by simpa using hkd), hexVal_snoc, hc]; simp
      have HV : Hid _ := hV
      clear hV
      have hlt := hexVal_lt (z.data.toList.take k) (fun d hd => HX.out d (List.mem_of_mem_take hd))
      have hb : hexVal (z.data.toList.take k) < 4096 := by
        refine Nat.lt_of_lt_of_le hlt ?_
        have hl : (z.data.toList.take k).length ≤ 3 := by
          have := List.length_take_le k z.data.toList; omega
        exact Nat.le_trans (Nat.pow_le_pow_right (by omega) hl) (by decide)
      have HC : Hid (c = z.data[k]) := hc
      clear hc hlt hcell
      generalize hN : hexVal (z.data.toList.take k) = N at *
      have HN : Hid _ := hN
      clear hN
      have q0 : (0 : Int) ≤ (N : Int) := by omega
      have q1 : (N : Int) < 4096 := by omega
      have q2 : decide ((1152921504606846976 : Int) ≤ (N : Int)) = false := by simp; omega
      have q3 : ¬ (1152921504606846976 : Int) ≤ (N : Int) := by omega
      rcases hhex with ⟨g0, g1⟩ | ⟨g0, g1⟩
      · have hh : hv c = c.toNat - 48 := by unfold hv; rw [if_pos g1]
        have HH : Hid _ := hh
        have i0 : (48 : Int) ≤ (c.toNat : Int) := by omega
        have i1 : (c.toNat : Int) ≤ 57 := by omega
        clear hh HN HC hb hv1 HX hcv he
        go_wp2
        go_round
        case rel => exact ⟨k + 1, by omega, rfl, by go_num, by rw [HV.out, HH.out]; congr 1; omega⟩
        case measure => simp [intOf]; omega
      · have hh : hv c = c.toNat - 87 := by unfold hv; rw [if_neg (by omega)]
        have HH : Hid _ := hh
        have hor := or_low c g0 g1
        have i0 : (97 : Int) ≤ (c.toNat : Int) := by omega
        have i1 : (c.toNat : Int) ≤ 102 := by omega
        clear hh HN HC hb hv1 HX hcv he
        go_wp2
        go_round
        case rel => exact ⟨k + 1, by omega, rfl, by go_num, by rw [HV.out, HH.out]; congr 1; omega⟩
        case measure => simp [intOf]; omega
    · have e : z.size = k := by omega
      have et : z.data.toList.take k = z.data.toList := List.take_of_length_le (by simp; omega)
      have ET : Hid _ := et
      clear et
      go_wp2
      go_ret2
      exact ⟨by simp [ET.out], ((Below.refl _ _).alloc (Nat.le_refl _) _).drew⟩

end Go.Proofs.Qxb6606060aDoor
