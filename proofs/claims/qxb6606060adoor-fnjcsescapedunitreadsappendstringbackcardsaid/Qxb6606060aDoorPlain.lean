/-
  THE PLAIN LAW: what appendString writes, byte by byte; hexadecimal digits. No Go in sight.
-/
namespace Go.Proofs.Qxb6606060aDoor

/-- A lower-case hexadecimal digit's value. -/
def hv (c : UInt8) : Nat := if c.toNat ≤ 57 then c.toNat - 48 else c.toNat - 87
/-- Is it one? -/
def isHex (c : UInt8) : Prop := (48 ≤ c.toNat ∧ c.toNat ≤ 57) ∨ (97 ≤ c.toNat ∧ c.toNat ≤ 102)
/-- The number that a row of digits stands for. -/
def hexVal (l : List UInt8) : Nat := l.foldl (fun n c => n * 16 + hv c) 0

theorem hv_lt {c : UInt8} (h : isHex c) : hv c < 16 := by
  unfold hv; rcases h with h | h
  · rw [if_pos h.2]; omega
  · rw [if_neg (by omega)]; omega
theorem hexVal_snoc (l : List UInt8) (c : UInt8) : hexVal (l ++ [c]) = hexVal l * 16 + hv c := by simp [hexVal]
theorem hexVal_lt (l : List UInt8) (h : ∀ c ∈ l, isHex c) : hexVal l < 16 ^ l.length := by
  suffices hh : ∀ (l : List UInt8) (a m : Nat), (∀ c ∈ l, isHex c) → a < m → l.foldl (fun n c => n * 16 + hv c) a < m * 16 ^ l.length by
    have := hh l 0 1 h (by omega)
    simpa [hexVal] using this
  intro l
  induction l with
  | nil => intro a m _ h; simpa using h
  | cons c l ih =>
    intro a m hc ha
    have h1 := hv_lt (hc c (by simp))
    have h2 := ih (a * 16 + hv c) (m * 16) (fun d hd => hc d (by simp [hd])) (by omega)
    simp only [List.foldl_cons, List.length_cons, Nat.pow_succ]
    rw [Nat.mul_assoc, Nat.mul_comm 16] at h2
    exact h2

/-- The hexadecimal digit of d < 16. -/
def hexDig (d : Nat) : UInt8 := if d < 10 then UInt8.ofNat (48 + d) else UInt8.ofNat (87 + d)

/-- What appendString writes for one byte. -/
def enc1 (b : UInt8) : List UInt8 :=
  if b = 34 then [92, 34] else if b = 92 then [92, 92] else if b = 8 then [92, 98] else if b = 9 then [92, 116] else if b = 10 then [92, 110]
  else if b = 12 then [92, 102] else if b = 13 then [92, 114] else if b < 32 then [92, 117, 48, 48, hexDig (b.toNat / 16), hexDig (b.toNat % 16)] else [b]

end Go.Proofs.Qxb6606060aDoor
