/-
  THE TEXT THAT appendString WRITES, READ BACK: places in it; out of the call's own rows. No walk in sight.
-/
import Derived.Test.Qxb6606060aDoorString
namespace Go.Proofs.Qxb6606060aDoor
open Go.RowKit

/-- The whole text. -/
def text (s : ByteArray) : List UInt8 := encP s s.size ++ [34]
/-- Where byte j's piece begins. -/
def pos (s : ByteArray) (j : Nat) : Nat := (encP s j).length

theorem pos_zero (s : ByteArray) : pos s 0 = 1 := rfl
theorem pos_succ (s : ByteArray) (j : Nat) (h : j < s.size) : pos s (j + 1) = pos s j + (enc1 s[j]).length := by
  unfold pos; rw [encP_succ s j h, List.length_append]
theorem pos_last (s : ByteArray) : pos s s.size + 1 = (text s).length := by simp [pos, text]
theorem pos_le (s : ByteArray) (j : Nat) : pos s j ≤ 1 + 6 * j := encP_len s j

theorem encP_split (s : ByteArray) (j : Nat) : encP s s.size = encP s j ++ (s.data.toList.drop j).flatMap enc1 := by
  have e : s.data.toList.take s.size = s.data.toList := List.take_of_length_le (by simp)
  simp only [encP, e, List.cons_append, ← List.flatMap_append, List.take_append_drop]

theorem text_at (s : ByteArray) (j q : Nat) (hj : j < s.size) (hq : q < (enc1 s[j]).length) : (text s)[pos s j + q]? = some (enc1 s[j])[q] := by
  have e1 : text s = encP s j ++ (enc1 s[j] ++ ((s.data.toList.drop (j + 1)).flatMap enc1 ++ [34])) := by
    unfold text
    rw [encP_split s (j + 1), encP_succ s j hj]
    simp [List.append_assoc]
  rw [e1]
  unfold pos
  rw [List.getElem?_append_right (by omega)]
  rw [show (encP s j).length + q - (encP s j).length = q from by omega, List.getElem?_append_left hq]
  simp [hq]

theorem pos_mono (s : ByteArray) (j : Nat) : pos s (j + 1) ≤ pos s s.size := by
  unfold pos
  rw [encP_split s (j + 1), List.length_append]; omega

theorem text_first (s : ByteArray) : (text s)[0]? = some 34 := by simp [text, encP]
theorem text_end (s : ByteArray) : (text s)[(text s).length - 1]? = some 34 := by simp [text]
theorem text_len (s : ByteArray) : 2 ≤ (text s).length := by simp [text, encP]

theorem hexDig_isHex (d : Nat) (h : d < 16) : isHex (hexDig d) := by
  have hall : ∀ d : Fin 16, ((48 ≤ (hexDig d.val).toNat ∧ (hexDig d.val).toNat ≤ 57) ∨ (97 ≤ (hexDig d.val).toNat ∧ (hexDig d.val).toNat ≤ 102)) := by decide
  exact hall ⟨d, h⟩
theorem hv_hexDig (d : Nat) (h : d < 16) : hv (hexDig d) = d := by
  have hall : ∀ d : Fin 16, hv (hexDig d.val) = d.val := by decide
  exact hall ⟨d, h⟩
theorem hexVal_ctl (n : Nat) (h : n < 256) : hexVal [48, 48, hexDig (n / 16), hexDig (n % 16)] = n := by
  have h48 : hv 48 = 0 := rfl
  simp only [hexVal, List.foldl_cons, List.foldl_nil, h48, hv_hexDig (n / 16) (by omega), hv_hexDig (n % 16) (by omega)]
  omega

/-- A row of the call's own that holds something: its block, its cells. -/
theorem own_open {w : World} {base : Nat} {v : Value} {L : List UInt8} (h : w.ownsRow base 5 1 v L.length (L.map bv)) (hp : 0 < L.length) :
    ∃ g cap, v = .slice (some ⟨g, 0, none⟩) L.length cap ∧ L.length ≤ cap ∧ base ≤ g ∧ g < w.heap.size ∧ ∀ j b, L[j]? = some b → w.cell? ⟨g, j, none⟩ = some (.int .u8 (b.toNat : Int)) := by
  have h0 := h
  obtain ⟨hl, hc⟩ := h
  rcases hc with ⟨_, hn⟩ | ⟨g, cap, cur, rfl, hg, hh, hnc, _, _, ht⟩
  · omega
  · refine ⟨g, cap, rfl, hnc, hg, (Array.getElem?_eq_some_iff.1 hh).1, ?_⟩
    intro j b hb
    have hj : j < L.length := (List.getElem?_eq_some_iff.1 hb).1
    rw [h0.cellAt j (by omega)]
    simp [hb, bv]
/-- A row of the call's own, as a slice. -/
theorem own_slice {w : World} {base : Nat} {v : Value} {L : List UInt8} (h : w.ownsRow base 5 1 v L.length (L.map bv)) :
    ∃ a cap, v = .slice a L.length cap ∧ ∀ j b, L[j]? = some b → ∃ g, a = some ⟨g, 0, none⟩ ∧ w.cell? ⟨g, j, none⟩ = some (.int .u8 (b.toNat : Int)) := by
  by_cases hp : 0 < L.length
  · obtain ⟨g, cap, rfl, _, _, _, hc⟩ := own_open h hp
    exact ⟨_, cap, rfl, fun j b hb => ⟨g, rfl, hc j b hb⟩⟩
  · have hL : L = [] := List.eq_nil_of_length_eq_zero (by omega)
    subst hL
    obtain ⟨hl, hc⟩ := h
    rcases hc with ⟨rfl, _⟩ | ⟨g, cap, cur, rfl, _⟩
    · exact ⟨none, 0, rfl, fun j b hb => by simp at hb⟩
    · exact ⟨_, cap, rfl, fun j b hb => by simp at hb⟩
/-- It is still there behind a call that wrote nothing old. -/
theorem own_below {w w' : World} {base : Nat} {v : Value} {n : Nat} {xs : List Value} (h : w.ownsRow base 5 1 v n xs) (hb : Below w.heap.size w w') : w'.ownsRow base 5 1 v n xs := by
  obtain ⟨h1, h2⟩ := h
  refine ⟨h1, ?_⟩
  rcases h2 with h2 | ⟨g, cap, cur, hv, hg, hh, r⟩
  · exact Or.inl h2
  · exact Or.inr ⟨g, cap, cur, hv, hg, (hb.block g (Array.getElem?_eq_some_iff.1 hh).1).trans hh, r⟩

theorem zz_append (s : ByteArray) (w : World) (hs : s.size ≤ 65536) :
    Calls Tryd.prog 8 #[.slice none 0 0, .string s] w fun e w' => ∃ v, e = .returned v ∧ w'.ownsRow w.heap.size 5 1 v (text s).length ((text s).map bv) ∧ Below w.heap.size w w' := by
  go_enter Tryd.func8, Tryd.ntmps8
  go_wp2_with fail
  refine (append_string s _ hs).mono ?_
  rintro e w1 ⟨v, rfl, ho, hb⟩
  go_wp2
  go_ret
  exact ⟨v, rfl, ho, hb⟩

/-- The three kinds of a byte's text. -/
theorem enc1_cases (b : UInt8) : (b.toNat ≠ 92 ∧ enc1 b = [b]) ∨ (∃ c : UInt8, enc1 b = [92, c] ∧ c.toNat ≠ 117 ∧ (((c.toNat : Int) = 34 ∧ (b.toNat : Int) = 34) ∨ ((c.toNat : Int) = 92 ∧ (b.toNat : Int) = 92) ∨ ((c.toNat : Int) = 98 ∧ (b.toNat : Int) = 8) ∨ ((c.toNat : Int) = 102 ∧ (b.toNat : Int) = 12) ∨ ((c.toNat : Int) = 110 ∧ (b.toNat : Int) = 10) ∨ ((c.toNat : Int) = 114 ∧ (b.toNat : Int) = 13) ∨ ((c.toNat : Int) = 116 ∧ (b.toNat : Int) = 9))) ∨
    (b.toNat < 32 ∧ (b.toNat ≠ 8 ∧ b.toNat ≠ 9 ∧ b.toNat ≠ 10 ∧ b.toNat ≠ 12 ∧ b.toNat ≠ 13) ∧ enc1 b = [92, 117, 48, 48, hexDig (b.toNat / 16), hexDig (b.toNat % 16)]) := by
  by_cases h34 : b.toNat = 34
  · have hb : b = 34 := UInt8.toNat_inj.1 (by rw [h34]; rfl)
    subst hb
    exact .inr (.inl ⟨34, rfl, by decide, by decide⟩)
  by_cases h92 : b.toNat = 92
  · have hb : b = 92 := UInt8.toNat_inj.1 (by rw [h92]; rfl)
    subst hb
    exact .inr (.inl ⟨92, rfl, by decide, by decide⟩)
  by_cases h8 : b.toNat = 8
  · have hb : b = 8 := UInt8.toNat_inj.1 (by rw [h8]; rfl)
    subst hb
    exact .inr (.inl ⟨98, rfl, by decide, by decide⟩)
  by_cases h9 : b.toNat = 9
  · have hb : b = 9 := UInt8.toNat_inj.1 (by rw [h9]; rfl)
    subst hb
    exact .inr (.inl ⟨116, rfl, by decide, by decide⟩)
  by_cases h10 : b.toNat = 10
  · have hb : b = 10 := UInt8.toNat_inj.1 (by rw [h10]; rfl)
    subst hb
    exact .inr (.inl ⟨110, rfl, by decide, by decide⟩)
  by_cases h12 : b.toNat = 12
  · have hb : b = 12 := UInt8.toNat_inj.1 (by rw [h12]; rfl)
    subst hb
    exact .inr (.inl ⟨102, rfl, by decide, by decide⟩)
  by_cases h13 : b.toNat = 13
  · have hb : b = 13 := UInt8.toNat_inj.1 (by rw [h13]; rfl)
    subst hb
    exact .inr (.inl ⟨114, rfl, by decide, by decide⟩)
  by_cases h32 : 32 ≤ b.toNat
  · exact .inl ⟨h92, enc1_plain b h32 h34 h92⟩
  · exact .inr (.inr ⟨by omega, ⟨h8, h9, h10, h12, h13⟩, enc1_ctl b (by omega) h8 h9 h10 h12 h13⟩)

/-- Byte j and its text. -/
theorem piece (s : ByteArray) (j : Nat) (hj : j < s.size) : ∃ b, s.data.toList.take (j + 1) = s.data.toList.take j ++ [b] ∧ pos s (j + 1) = pos s j + (enc1 b).length ∧ ∀ q c, (enc1 b)[q]? = some c → (text s)[pos s j + q]? = some c := by
  refine ⟨s[j], ?_, pos_succ s j hj, ?_⟩
  · rw [List.take_succ_eq_append_getElem (by simpa using hj)]; rfl
  · intro q c hq
    obtain ⟨h1, h2⟩ := List.getElem?_eq_some_iff.1 hq
    rw [text_at s j q hj h1, h2]

end Go.Proofs.Qxb6606060aDoor
