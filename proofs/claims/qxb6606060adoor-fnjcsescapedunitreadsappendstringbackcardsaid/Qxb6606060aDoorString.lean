/-
  appendString BY ITS CONTRACT.
-/
import Derived.Test.Qxb6606060aDoorApp
namespace Go.Proofs.Qxb6606060aDoor
open Go.RowKit

/-- What is written of the first k bytes. -/
def encP (s : ByteArray) (k : Nat) : List UInt8 := 34 :: (s.data.toList.take k).flatMap enc1

theorem enc1_len (b : UInt8) : (enc1 b).length ≤ 6 := by
  unfold enc1
  repeat' split
  all_goals simp
theorem encP_len (s : ByteArray) (k : Nat) : (encP s k).length ≤ 1 + 6 * k := by
  have : ∀ l : List UInt8, (l.flatMap enc1).length ≤ 6 * l.length := by
    intro l
    induction l with
    | nil => simp
    | cons b l ih => have := enc1_len b; simp only [List.flatMap_cons, List.length_append, List.length_cons]; omega
  have h := this (s.data.toList.take k)
  have h2 := List.length_take_le k s.data.toList
  simp only [encP, List.length_cons]
  omega
theorem encP_succ (s : ByteArray) (k : Nat) (h : k < s.size) : encP s (k + 1) = encP s k ++ enc1 s[k] := by
  have h' : k < s.data.toList.length := by simpa using h
  simp only [encP]
  rw [List.take_succ_eq_append_getElem h', List.flatMap_append]
  simp
  rfl

theorem enc1_plain (b : UInt8) (h : 32 ≤ b.toNat) (h34 : b.toNat ≠ 34) (h92 : b.toNat ≠ 92) : enc1 b = [b] := by
  have e : ∀ n : UInt8, b.toNat ≠ n.toNat → ¬ b = n := fun n h e => h (by rw [e])
  unfold enc1
  rw [if_neg (e 34 h34), if_neg (e 92 h92), if_neg (e 8 (by show b.toNat ≠ 8; omega)), if_neg (e 9 (by show b.toNat ≠ 9; omega)), if_neg (e 10 (by show b.toNat ≠ 10; omega)), if_neg (e 12 (by show b.toNat ≠ 12; omega)), if_neg (e 13 (by show b.toNat ≠ 13; omega)),
    if_neg (by rw [UInt8.lt_iff_toNat_lt]; show ¬ b.toNat < 32; omega)]
theorem enc1_ctl (b : UInt8) (h : b.toNat < 32) (h8 : b.toNat ≠ 8) (h9 : b.toNat ≠ 9) (h10 : b.toNat ≠ 10) (h12 : b.toNat ≠ 12) (h13 : b.toNat ≠ 13) : enc1 b = [92, 117, 48, 48, hexDig (b.toNat / 16), hexDig (b.toNat % 16)] := by
  have e : ∀ n : UInt8, b.toNat ≠ n.toNat → ¬ b = n := fun n h e => h (by rw [e])
  unfold enc1
  rw [if_neg (e 34 (by show b.toNat ≠ 34; omega)), if_neg (e 92 (by show b.toNat ≠ 92; omega)), if_neg (e 8 h8), if_neg (e 9 h9), if_neg (e 10 h10), if_neg (e 12 h12), if_neg (e 13 h13),
    if_pos (by rw [UInt8.lt_iff_toNat_lt]; show b.toNat < 32; omega)]

theorem and15 (c : Nat) (h : c < 32) : bits BinOp.and IntKind.u8 (c : Int) 15 = ((c % 16 : Nat) : Int) := by
  have hall : ∀ c : Fin 32, bits BinOp.and IntKind.u8 (c.val : Int) 15 = ((c.val % 16 : Nat) : Int) := by decide +kernel
  exact hall ⟨c, h⟩
theorem hex_idx (d : Nat) (hd : d < 16) (i : Int) (hi : i = (d : Int)) (w : World) :
    (Instr.index 9 (.string { data := #[48, 49, 50, 51, 52, 53, 54, 55, 56, 57, 97, 98, 99, 100, 101, 102] }) (.int .u8 i)).run Tryd.prog w = .ok (.int .u8 ((hexDig d).toNat : Int)) w := by
  subst hi
  have hcs : d = 0 ∨ d = 1 ∨ d = 2 ∨ d = 3 ∨ d = 4 ∨ d = 5 ∨ d = 6 ∨ d = 7 ∨ d = 8 ∨ d = 9 ∨ d = 10 ∨ d = 11 ∨ d = 12 ∨ d = 13 ∨ d = 14 ∨ d = 15 := by omega
  rcases hcs with rfl | rfl | rfl | rfl | rfl | rfl | rfl | rfl | rfl | rfl | rfl | rfl | rfl | rfl | rfl | rfl
  all_goals (simp [go_sem, hexDig, Tryd.underlying9]; rfl)

set_option maxRecDepth 100000 in
set_option maxHeartbeats 1000000 in
theorem append_string (s : ByteArray) (w : World) (hs : s.size ≤ 65536) :
    Calls Tryd.prog 19 #[.slice none 0 0, .string s] w fun e w' => ∃ v, e = .returned v ∧ w'.ownsRow w.heap.size 5 1 v (encP s s.size ++ [34]).length ((encP s s.size ++ [34]).map bv) ∧ Below w.heap.size w w' := by
  have hnil := World.ownsRow_nil w w.heap.size 5 1
  have hone : ∀ u ∈ [Value.int .u8 34], u.oneCell' = true := by intro u hu; simp at hu; subst hu; rfl
  go_enter Tryd.func19, Tryd.ntmps19
  go_wp2_with (at_builtin; refine wpList_app w [.int .u8 34] rfl _ _ rfl w.heap.size _ _ _ rfl hnil rfl hone (by decide) (Nat.le_refl _) ?_)
  intro v0 w0 hown0 hbel0
  have hz0 := hbel0.size
  go_wp2_with fail
  go_loopw [0, 5] (fun v i wr => ∃ k : Nat, k ≤ s.size ∧ i = .int .i64 k ∧ wr.ownsRow w.heap.size 5 1 v (encP s k).length ((encP s k).map bv) ∧ Below w.heap.size w wr) (fun _ i _ => s.size - (intOf i).toNat)
  case atStart => exact ⟨0, Nat.zero_le _, rfl, hown0, hbel0⟩
  case round =>
    obtain ⟨k, hk, rfl, hown, hbel⟩ := hrel
    have hlen := encP_len s k
    have hsz := hbel.size
    by_cases hlt : k < s.size
    · have HS : Hid _ := encP_succ s k hlt
      have hb256 : s[k].toNat < 256 := s[k].toNat_lt
      by_cases h34 : s[k].toNat = 34
      · have hb : s[k] = 34 := UInt8.toNat_inj.1 (by rw [h34]; rfl)
        have hi : (s[k].toNat : Int) = 34 := by omega
        have HE : Hid ([Value.int .u8 92, Value.int .u8 34] = (enc1 s[k]).map bv) := by rw [hb]; rfl
        have HL : Hid (2 = (enc1 s[k]).length) := by rw [hb]; rfl
        clear hb h34 hown0 hbel0 hnil hone
        go_wp2_with (at_builtin; refine wpList_app wr [.int .u8 92, .int .u8 34] rfl _ _ rfl w.heap.size _ _ _ rfl hown rfl (ints_oneCell .u8 [92, 34]) (by simp; omega) hsz ?_)
        intro v1 w1 hown1 hbel1
        go_wp2
        go_roundw
        case rel => exact ⟨k + 1, by omega, by go_num, by rw [HS.out]; exact own_step hown1 HL.out HE.out, hbel.trans hbel1⟩
        case measure => simp [intOf]; omega
      by_cases h92 : s[k].toNat = 92
      · have hb : s[k] = 92 := UInt8.toNat_inj.1 (by rw [h92]; rfl)
        have hi : (s[k].toNat : Int) = 92 := by omega
        have HE : Hid ([Value.int .u8 92, Value.int .u8 92] = (enc1 s[k]).map bv) := by rw [hb]; rfl
        have HL : Hid (2 = (enc1 s[k]).length) := by rw [hb]; rfl
        clear hb h92 hown0 hbel0 hnil hone
        go_wp2_with (at_builtin; refine wpList_app wr [.int .u8 92, .int .u8 92] rfl _ _ rfl w.heap.size _ _ _ rfl hown rfl (ints_oneCell .u8 [92, 92]) (by simp; omega) hsz ?_)
        intro v1 w1 hown1 hbel1
        go_wp2
        go_roundw
        case rel => exact ⟨k + 1, by omega, by go_num, by rw [HS.out]; exact own_step hown1 HL.out HE.out, hbel.trans hbel1⟩
        case measure => simp [intOf]; omega
      by_cases h8 : s[k].toNat = 8
      · have hb : s[k] = 8 := UInt8.toNat_inj.1 (by rw [h8]; rfl)
        have hi : (s[k].toNat : Int) = 8 := by omega
        have HE : Hid ([Value.int .u8 92, Value.int .u8 98] = (enc1 s[k]).map bv) := by rw [hb]; rfl
        have HL : Hid (2 = (enc1 s[k]).length) := by rw [hb]; rfl
        clear hb h8 hown0 hbel0 hnil hone
        go_wp2_with (at_builtin; refine wpList_app wr [.int .u8 92, .int .u8 98] rfl _ _ rfl w.heap.size _ _ _ rfl hown rfl (ints_oneCell .u8 [92, 98]) (by simp; omega) hsz ?_)
        intro v1 w1 hown1 hbel1
        go_wp2
        go_roundw
        case rel => exact ⟨k + 1, by omega, by go_num, by rw [HS.out]; exact own_step hown1 HL.out HE.out, hbel.trans hbel1⟩
        case measure => simp [intOf]; omega
      by_cases h9 : s[k].toNat = 9
      · have hb : s[k] = 9 := UInt8.toNat_inj.1 (by rw [h9]; rfl)
        have hi : (s[k].toNat : Int) = 9 := by omega
        have HE : Hid ([Value.int .u8 92, Value.int .u8 116] = (enc1 s[k]).map bv) := by rw [hb]; rfl
        have HL : Hid (2 = (enc1 s[k]).length) := by rw [hb]; rfl
        clear hb h9 hown0 hbel0 hnil hone
        go_wp2_with (at_builtin; refine wpList_app wr [.int .u8 92, .int .u8 116] rfl _ _ rfl w.heap.size _ _ _ rfl hown rfl (ints_oneCell .u8 [92, 116]) (by simp; omega) hsz ?_)
        intro v1 w1 hown1 hbel1
        go_wp2
        go_roundw
        case rel => exact ⟨k + 1, by omega, by go_num, by rw [HS.out]; exact own_step hown1 HL.out HE.out, hbel.trans hbel1⟩
        case measure => simp [intOf]; omega
      by_cases h10 : s[k].toNat = 10
      · have hb : s[k] = 10 := UInt8.toNat_inj.1 (by rw [h10]; rfl)
        have hi : (s[k].toNat : Int) = 10 := by omega
        have HE : Hid ([Value.int .u8 92, Value.int .u8 110] = (enc1 s[k]).map bv) := by rw [hb]; rfl
        have HL : Hid (2 = (enc1 s[k]).length) := by rw [hb]; rfl
        clear hb h10 hown0 hbel0 hnil hone
        go_wp2_with (at_builtin; refine wpList_app wr [.int .u8 92, .int .u8 110] rfl _ _ rfl w.heap.size _ _ _ rfl hown rfl (ints_oneCell .u8 [92, 110]) (by simp; omega) hsz ?_)
        intro v1 w1 hown1 hbel1
        go_wp2
        go_roundw
        case rel => exact ⟨k + 1, by omega, by go_num, by rw [HS.out]; exact own_step hown1 HL.out HE.out, hbel.trans hbel1⟩
        case measure => simp [intOf]; omega
      by_cases h12 : s[k].toNat = 12
      · have hb : s[k] = 12 := UInt8.toNat_inj.1 (by rw [h12]; rfl)
        have hi : (s[k].toNat : Int) = 12 := by omega
        have HE : Hid ([Value.int .u8 92, Value.int .u8 102] = (enc1 s[k]).map bv) := by rw [hb]; rfl
        have HL : Hid (2 = (enc1 s[k]).length) := by rw [hb]; rfl
        clear hb h12 hown0 hbel0 hnil hone
        go_wp2_with (at_builtin; refine wpList_app wr [.int .u8 92, .int .u8 102] rfl _ _ rfl w.heap.size _ _ _ rfl hown rfl (ints_oneCell .u8 [92, 102]) (by simp; omega) hsz ?_)
        intro v1 w1 hown1 hbel1
        go_wp2
        go_roundw
        case rel => exact ⟨k + 1, by omega, by go_num, by rw [HS.out]; exact own_step hown1 HL.out HE.out, hbel.trans hbel1⟩
        case measure => simp [intOf]; omega
      by_cases h13 : s[k].toNat = 13
      · have hb : s[k] = 13 := UInt8.toNat_inj.1 (by rw [h13]; rfl)
        have hi : (s[k].toNat : Int) = 13 := by omega
        have HE : Hid ([Value.int .u8 92, Value.int .u8 114] = (enc1 s[k]).map bv) := by rw [hb]; rfl
        have HL : Hid (2 = (enc1 s[k]).length) := by rw [hb]; rfl
        clear hb h13 hown0 hbel0 hnil hone
        go_wp2_with (at_builtin; refine wpList_app wr [.int .u8 92, .int .u8 114] rfl _ _ rfl w.heap.size _ _ _ rfl hown rfl (ints_oneCell .u8 [92, 114]) (by simp; omega) hsz ?_)
        intro v1 w1 hown1 hbel1
        go_wp2
        go_roundw
        case rel => exact ⟨k + 1, by omega, by go_num, by rw [HS.out]; exact own_step hown1 HL.out HE.out, hbel.trans hbel1⟩
        case measure => simp [intOf]; omega
      have e34 : ((s[k].toNat : Int) == 34) = false := by simp; omega
      have e92 : ((s[k].toNat : Int) == 92) = false := by simp; omega
      have e8 : ((s[k].toNat : Int) == 8) = false := by simp; omega
      have e9 : ((s[k].toNat : Int) == 9) = false := by simp; omega
      have e10 : ((s[k].toNat : Int) == 10) = false := by simp; omega
      have e12 : ((s[k].toNat : Int) == 12) = false := by simp; omega
      have e13 : ((s[k].toNat : Int) == 13) = false := by simp; omega
      by_cases h32 : 32 ≤ s[k].toNat
      · have hE := enc1_plain s[k] h32 h34 h92
        have HE : Hid ([Value.int .u8 (s[k].toNat : Int)] = (enc1 s[k]).map bv) := by rw [hE]; rfl
        have HL : Hid (1 = (enc1 s[k]).length) := by rw [hE]; rfl
        have hi : (32 : Int) ≤ (s[k].toNat : Int) := by omega
        clear hE h34 h92 h8 h9 h10 h12 h13 hown0 hbel0 hnil hone
        go_wp2_with (at_builtin; refine wpList_app wr [.int .u8 (s[k].toNat : Int)] rfl _ _ rfl w.heap.size _ _ _ rfl hown rfl (ints_oneCell .u8 [(s[k].toNat : Int)]) (by simp; omega) hsz ?_)
        intro v1 w1 hown1 hbel1
        go_wp2
        go_roundw
        case rel => exact ⟨k + 1, by omega, by go_num, by rw [HS.out]; exact own_step hown1 HL.out HE.out, hbel.trans hbel1⟩
        case measure => simp [intOf]; omega
      · have hE := enc1_ctl s[k] (by omega) h8 h9 h10 h12 h13
        have hi : (s[k].toNat : Int) < 32 := by omega
        have hi0 : (0 : Int) ≤ (s[k].toNat : Int) := by omega
        have HE : Hid ([Value.int .u8 92, Value.int .u8 117, Value.int .u8 48, Value.int .u8 48, Value.int .u8 ((hexDig (s[k].toNat / 16)).toNat : Int), Value.int .u8 ((hexDig (s[k].toNat % 16)).toNat : Int)] = (enc1 s[k]).map bv) := by rw [hE]; rfl
        have HL : Hid (6 = (enc1 s[k]).length) := by rw [hE]; rfl
        have x0 := hex_idx (s[k].toNat / 16) (by omega) ((s[k].toNat : Int) / 16) (by omega)
        have x1 := hex_idx (s[k].toNat % 16) (by omega) (bits BinOp.and IntKind.u8 (s[k].toNat : Int) 15) (and15 _ (by omega))
        clear hE h34 h92 h8 h9 h10 h12 h13 hown0 hbel0 hnil hone
        go_wp2_with fail
        go_region_law (refine step_app wr.drew [.int .u8 92, .int .u8 117, .int .u8 48, .int .u8 48, .int .u8 ((hexDig (s[k].toNat / 16)).toNat : Int), .int .u8 ((hexDig (s[k].toNat % 16)).toNat : Int)] rfl _ _ rfl w.heap.size _ _ _ rfl hown.drew rfl (ints_oneCell .u8 [92, 117, 48, 48, ((hexDig (s[k].toNat / 16)).toNat : Int), ((hexDig (s[k].toNat % 16)).toNat : Int)]) (by simp; omega) hsz ?_; intro v1 w1 hown1 hbel1)
        all_goals
          go_wp2
          go_roundw
          case rel => exact ⟨k + 1, by omega, by go_num, by rw [HS.out]; exact own_step hown1 HL.out HE.out, hbel.drew.trans hbel1⟩
          case measure => simp [intOf]; omega
    · have hE := encP_len s s.size
      have e : s.size = k := by omega
      have hone : ∀ u ∈ [Value.int .u8 34], u.oneCell' = true := by intro u hu; simp at hu; subst hu; rfl
      clear hown0 hbel0 hnil
      go_wp2_with (at_builtin; refine wpList_app wr [.int .u8 34] rfl _ _ rfl w.heap.size _ _ _ rfl hown rfl hone (by simp; omega) hsz ?_)
      intro v1 w1 hown1 hbel1
      go_wp2
      go_ret
      refine ⟨v1, rfl, ?_, hbel.trans hbel1⟩
      rw [e]
      exact own_step hown1 (E := [34]) rfl rfl

end Go.Proofs.Qxb6606060aDoor
