/-
  escapedUnit BY ITS CONTRACTS.
-/
import Derived.Test.Qxb6606060aDoorParse
namespace Go.Proofs.Qxb6606060aDoor
open Go.RowKit

theorem parse_uint (z : ByteArray) (w : World) (he : z.toList.isEmpty = false) (h1 : z.size ≤ 4) (hx : ∀ c ∈ z.data.toList, isHex c) :
    Calls Tryd.prog 23 #[.string z, .int .i64 16, .int .i64 16] w fun e w' => e = .returned (.tuple #[.int .u64 (hexVal z.data.toList), .nilIface]) ∧ Below w.heap.size w w' := by
  go_enter Tryd.func23, Tryd.ntmps23
  go_wp2_with fail
  refine (parse_core z _ he h1 hx).mono ?_
  rintro e w1 ⟨rfl, hb⟩
  go_wp2
  go_ret2
  exact ⟨rfl, hb⟩

set_option maxRecDepth 100000 in
set_option maxHeartbeats 400000 in
theorem unit_no (g n cap i : Nat) (c : Int) (w : World) (hn : n ≤ 1000000) (hi : i + 1 < n) (h0 : w.cell? ⟨g, i, none⟩ = some (.int .u8 92)) (h1 : w.cell? ⟨g, i + 1, none⟩ = some (.int .u8 c)) (hc : c ≠ 117) :
    Calls Tryd.prog 20 #[.slice (some ⟨g, 0, none⟩) n cap, .int .i64 i] w fun e w' => e = .returned (.tuple #[.int .u16 0, .bool false]) ∧ w' = w := by
  have hc1 : (c != 117) = true := by simpa using hc
  clear hc
  by_cases hl : n < i + 6
  · go_enter Tryd.func20, Tryd.ntmps20
    go_wp2
    go_ret2
    exact ⟨rfl, rfl⟩
  · go_enter Tryd.func20, Tryd.ntmps20
    go_wp2
    go_ret2
    exact ⟨rfl, rfl⟩

set_option maxRecDepth 100000 in
set_option maxHeartbeats 400000 in
theorem unit_yes (g n cap i : Nat) (z0 z1 z2 z3 : UInt8) (w : World) (hn : n ≤ 1000000) (hi : i + 6 ≤ n) (hnc : n ≤ cap) (h0 : w.cell? ⟨g, i, none⟩ = some (.int .u8 92)) (h1 : w.cell? ⟨g, i + 1, none⟩ = some (.int .u8 117))
    (k0 : w.cell? ⟨g, i + 2, none⟩ = some (.int .u8 (z0.toNat : Int))) (k1 : w.cell? ⟨g, i + 3, none⟩ = some (.int .u8 (z1.toNat : Int))) (k2 : w.cell? ⟨g, i + 4, none⟩ = some (.int .u8 (z2.toNat : Int))) (k3 : w.cell? ⟨g, i + 5, none⟩ = some (.int .u8 (z3.toNat : Int)))
    (x0 : isHex z0) (x1 : isHex z1) (x2 : isHex z2) (x3 : isHex z3) :
    Calls Tryd.prog 20 #[.slice (some ⟨g, 0, none⟩) n cap, .int .i64 i] w fun e w' => e = .returned (.tuple #[.int .u16 (hexVal [z0, z1, z2, z3]), .bool true]) ∧ Below w.heap.size w w' := by
  have hcv : ∀ C, (convert 23 9 (.slice (some ⟨g, i + 2, none⟩) 4 C)).run Tryd.prog w = .ok (.string ⟨#[z0, z1, z2, z3]⟩) w := fun C => by
    refine run_convert_bytes_back (P := Tryd.prog) w 23 9 5 ⟨g, i + 2, none⟩ C [z0, z1, z2, z3] Tryd.underlying23 Tryd.underlying5 Tryd.underlying9 ?_
    intro j hj
    have hcs : j = 0 ∨ j = 1 ∨ j = 2 ∨ j = 3 := by simp at hj; omega
    rcases hcs with rfl | rfl | rfl | rfl
    · simpa [Addr.add] using k0
    · simpa [Addr.add] using k1
    · simpa [Addr.add] using k2
    · simpa [Addr.add] using k3
  have hx : ∀ c ∈ (⟨#[z0, z1, z2, z3]⟩ : ByteArray).data.toList, isHex c := by
    intro c hc
    simp at hc
    rcases hc with rfl | rfl | rfl | rfl <;> assumption
  have hb := hexVal_lt [z0, z1, z2, z3] (by simpa using hx)
  have hv : hexVal [z0, z1, z2, z3] < 65536 := by simpa using hb
  have HX : Hid _ := hx
  clear hx hb x0 x1 x2 x3 k0 k1 k2 k3
  go_enter Tryd.func20, Tryd.ntmps20
  go_wp2_with fail
  refine (parse_uint ⟨#[z0, z1, z2, z3]⟩ _ (by simp) (Nat.le_refl _) HX.out).mono ?_
  rintro e w1 ⟨rfl, hb⟩
  have hg : hexVal (⟨#[z0, z1, z2, z3]⟩ : ByteArray).data.toList = hexVal [z0, z1, z2, z3] := rfl
  rw [hg]
  generalize hV : hexVal [z0, z1, z2, z3] = V at *
  have HV : Hid _ := hV
  clear hV
  have v0 : (0 : Int) ≤ (V : Int) := by omega
  have v1 : (V : Int) < 65536 := by omega
  clear HX hcv h0 h1 hg
  go_wp2
  go_ret2
  exact ⟨by rw [HV.out]; rfl, hb⟩

theorem zz_unit_no (g n cap i : Nat) (c : Int) (w : World) (hn : n ≤ 1000000) (hi : i + 1 < n) (h0 : w.cell? ⟨g, i, none⟩ = some (.int .u8 92)) (h1 : w.cell? ⟨g, i + 1, none⟩ = some (.int .u8 c)) (hc : c ≠ 117) :
    Calls Tryd.prog 9 #[.slice (some ⟨g, 0, none⟩) n cap, .int .i64 i] w fun e w' => e = .returned (.tuple #[.int .u16 0, .bool false]) ∧ w' = w := by
  go_enter Tryd.func9, Tryd.ntmps9
  go_wp2_with fail
  refine (unit_no g n cap i c _ hn hi h0 h1 hc).mono ?_
  rintro e w1 ⟨rfl, rfl⟩
  go_wp2
  go_ret2
  exact ⟨rfl, rfl⟩
theorem zz_unit_yes (g n cap i : Nat) (z0 z1 z2 z3 : UInt8) (w : World) (hn : n ≤ 1000000) (hi : i + 6 ≤ n) (hnc : n ≤ cap) (h0 : w.cell? ⟨g, i, none⟩ = some (.int .u8 92)) (h1 : w.cell? ⟨g, i + 1, none⟩ = some (.int .u8 117))
    (k0 : w.cell? ⟨g, i + 2, none⟩ = some (.int .u8 (z0.toNat : Int))) (k1 : w.cell? ⟨g, i + 3, none⟩ = some (.int .u8 (z1.toNat : Int))) (k2 : w.cell? ⟨g, i + 4, none⟩ = some (.int .u8 (z2.toNat : Int))) (k3 : w.cell? ⟨g, i + 5, none⟩ = some (.int .u8 (z3.toNat : Int)))
    (x0 : isHex z0) (x1 : isHex z1) (x2 : isHex z2) (x3 : isHex z3) :
    Calls Tryd.prog 9 #[.slice (some ⟨g, 0, none⟩) n cap, .int .i64 i] w fun e w' => e = .returned (.tuple #[.int .u16 (hexVal [z0, z1, z2, z3]), .bool true]) ∧ Below w.heap.size w w' := by
  go_enter Tryd.func9, Tryd.ntmps9
  go_wp2_with fail
  refine (unit_yes g n cap i z0 z1 z2 z3 _ hn hi hnc h0 h1 k0 k1 k2 k3 x0 x1 x2 x3).mono ?_
  rintro e w1 ⟨rfl, hb⟩
  generalize hV : hexVal [z0, z1, z2, z3] = V at *
  have HV : Hid _ := hV
  clear hV
  go_wp2
  go_ret2
  exact ⟨by rw [HV.out]; rfl, hb⟩

end Go.Proofs.Qxb6606060aDoor
