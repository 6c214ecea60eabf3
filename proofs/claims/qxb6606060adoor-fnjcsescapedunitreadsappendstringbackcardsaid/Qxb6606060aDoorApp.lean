/-
  append ONTO A ROW OF BYTES OF THE CALL's OWN.
-/
import Derived.Test.Qxb6606060aDoorRows
import Derived.Test.Qxb6606060aDoorPlain
import Derived.WalkKit
import Derived.WalkSpells
import Derived.WalkLawsBesides
import Derived.Deep.OwnRows
import Derived.Deep.RegionLaw
namespace Go.Proofs.Qxb6606060aDoor
open Go.RowKit

theorem Tryd.info5 : (Tryd.prog.info? 5).map (fun i => (i.zero, i.size, i.bytes)) = some (some (.int .u8 0), 1, 1) := by kernel_rfl

/-- A byte as a cell. -/
def bv (b : UInt8) : Value := .int .u8 (b.toNat : Int)

/-- 'append(s, x0, x1, ..)': s is of the call's own; the new elements lie in a block that has just been laid. -/
theorem wp_app {o : Oper} {a : Act} {K : Act → World → Prop} {Q : Exit → Act → World → Prop} (w : World) (news : List Value) (s x : Operand)
    (ho : o.op = .call { callee := .builtin .append, args := #[s, x], argTypes := #[23, 23] }) (base : Nat) (v : Value) (n : Nat) (xs : List Value) (hs : a.eval s = v) (hown : w.ownsRow base 5 1 v n xs)
    (hx : a.eval x = .slice (some ⟨w.heap.size, 0, none⟩) news.length news.length) (h1 : ∀ u ∈ news, u.oneCell' = true) (hn : n + news.length ≤ 1000000) (hbase : base ≤ w.heap.size)
    (h : ∀ v' w', w'.ownsRow base 5 1 v' (n + news.length) (xs ++ news) → Below base w w' → K (a.put o.dst v') w') :
    o.wp Tryd.prog a (w.alloc (.cells news.toArray 5)) K Q := by
  obtain ⟨i, hi, hz0, hz1, hz2⟩ := info_parts Tryd.info5
  refine wp_append_own (w.alloc (.cells news.toArray 5)) s x 23 ho base 5 i (.int .u8 0) 1 1 Tryd.underlying23 hi hz0 hz1 hz2 rfl (by decide) v n xs hs (hown.alloc _) ⟨w.heap.size, 0, none⟩ news.length news.length news hx (by simp) ?_ h1 (by unfold maxLen; omega) (by omega) (by simp; omega) ?_
  · intro j u hj
    have hadd : (⟨w.heap.size, 0, none⟩ : Addr).add j = ⟨w.heap.size, j, none⟩ := by unfold Addr.add; split <;> simp_all
    rw [hadd, World.cell?_alloc_mark]
    simpa using hj
  · intro v' w' ho' hg _
    refine h v' w' ho' (((Below.refl base w).alloc hbase _).grown hg (by simp; omega) ?_)
    intro k hk
    exact (hown.lt k hk).1

theorem wpList_app {ops : Array Oper} {rest : List Oper} {o : Oper} {a : Act} {Q : Exit → Act → World → Prop} (w : World) (news : List Value) (hgd : o.guard = none) (s x : Operand)
    (ho : o.op = .call { callee := .builtin .append, args := #[s, x], argTypes := #[23, 23] }) (base : Nat) (v : Value) (n : Nat) (xs : List Value) (hs : a.eval s = v) (hown : w.ownsRow base 5 1 v n xs)
    (hx : a.eval x = .slice (some ⟨w.heap.size, 0, none⟩) news.length news.length) (h1 : ∀ u ∈ news, u.oneCell' = true) (hn : n + news.length ≤ 1000000) (hbase : base ≤ w.heap.size)
    (h : ∀ v' w', w'.ownsRow base 5 1 v' (n + news.length) (xs ++ news) → Below base w w' → wpList Tryd.prog ops Q rest (a.put o.dst v') w') :
    wpList Tryd.prog ops Q (o :: rest) a (w.alloc (.cells news.toArray 5)) :=
  wpList_plain hgd fun _ hK => wp_app w news s x ho base v n xs hs hown hx h1 hn hbase fun v' w' h2 h3 => hK _ _ (h v' w' h2 h3)

/-- The same as one step of a region that draws its order. -/
theorem step_app {ops : Array Oper} {o : Oper} {a : Act} {K : Act → World → Prop} {Q : Exit → Act → World → Prop} {E : Prop} (w : World) (news : List Value) (hgd : o.guard = none) (s x : Operand)
    (ho : o.op = .call { callee := .builtin .append, args := #[s, x], argTypes := #[23, 23] }) (base : Nat) (v : Value) (n : Nat) (xs : List Value) (hs : a.eval s = v) (hown : w.ownsRow base 5 1 v n xs)
    (hx : a.eval x = .slice (some ⟨w.heap.size, 0, none⟩) news.length news.length) (h1 : ∀ u ∈ news, u.oneCell' = true) (hn : n + news.length ≤ 1000000) (hbase : base ≤ w.heap.size)
    (h : ∀ v' w', w'.ownsRow base 5 1 v' (n + news.length) (xs ++ news) → Below base w w' → K (a.put o.dst v') w') :
    if Region.wanted o (yielded ops a.tmps) = true then Oper.wp Tryd.prog o a (w.alloc (.cells news.toArray 5)) K Q else E := by
  have hw : Region.wanted o (yielded ops a.tmps) = true := by simp [Region.wanted, hgd]
  rw [if_pos hw]
  exact wp_app w news s x ho base v n xs hs hown hx h1 hn hbase h

/-- The row one byte's text further. -/
theorem own_step {w : World} {base : Nat} {v : Value} {L E : List UInt8} {m : Nat} {news : List Value} (h : w.ownsRow base 5 1 v (L.length + m) (L.map bv ++ news)) (hm : m = E.length) (e : news = E.map bv) : w.ownsRow base 5 1 v (L ++ E).length ((L ++ E).map bv) := by
  subst hm; subst e
  simpa using h

end Go.Proofs.Qxb6606060aDoor
