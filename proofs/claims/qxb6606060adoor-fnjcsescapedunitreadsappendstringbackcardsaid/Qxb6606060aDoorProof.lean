/-
  'Rows.FnJcsEscapedUnitReadsAppendStringBackSaid' (the row) AND THE TIED CARD: the walk out of Qxb6606060aDoorLaw.lean; the witness is the settled world with the listed variables laid into it (World.laidAll).
-/
import Derived.Test.Qxb6606060aDoorRows
import Derived.Test.Qxb6606060aDoorTie
import Derived.Test.Qxb6606060aDoorCards
import Derived.Test.Qxb6606060aDoorLaw
import Derived.ProofKit
import Derived.LaidMore
import Derived.Lay
import Derived.OpenShut
import Derived.ShutString
import Derived.Stop.Joined
import Derived.SevenTiedAt
import Derived.ChangeOld
namespace Go.Proofs.Qxb6606060aDoor.jcsCard
open Go.ChangeShapes Go.WideShapes Go.ChangeAt Go.RowKit
open Go.ChangeMaps (open_string shut_string)

theorem own : ownKnob Tryd.prog.godebug = none := by kernel_rfl

/-- The row's list. -/
abbrev laid5 : List (String × DataW Unit) := Rows.fnJcsEscapedUnitReadsAppendStringBackRow.laid

/-- The witness: the listed variables laid into the settled world; it meets the condition. -/
theorem laid_met (os : Os) (args : Array Value) : laidMetH Tryd.prog laid5 ((World.laidAll Tryd.prog os laid5).forCall (fun _ _ => 0) ⟨#[], args, []⟩).memory := by
  rw [MakeChecks.laidMetH_plain _ _ _ (by kernel_rfl)]
  exact laidMet_laidAll _ (by kernel_rfl) (by kernel_rfl)
theorem laid_zip (os : Os) : ((World.laidAll Tryd.prog os laid5).forCall (fun _ _ => 0) ⟨#[], #[.string ByteArray.empty], []⟩).variablesZipB Tryd.prog = true := by kernel_rfl
theorem laid_rest (os : Os) : ((((World.laidAll Tryd.prog os laid5).forCall (fun _ _ => 0) ⟨#[], #[.string ByteArray.empty], []⟩).heap.toList.drop Tryd.prog.globals.size).take ((begin Tryd.prog (fun _ _ => 0) default).world.heap.size - Tryd.prog.globals.size) =
      (begin Tryd.prog (fun _ _ => 0) default).world.heap.toList.drop Tryd.prog.globals.size) := by kernel_rfl
theorem laid_ok (os : Os) : Input.okWideB Tryd.prog ((World.laidAll Tryd.prog os laid5).forCall (fun _ _ => 0) ⟨#[], #[.string ByteArray.empty], []⟩) 3 ⟨#[], #[.string ByteArray.empty], []⟩ = true := by kernel_rfl
theorem laid_pre (os : Os) (H : Type) (enc : TypeId × Value → H) : Rows.fnJcsEscapedUnitReadsAppendStringBackSpec.preB enc Tryd.prog Tryd.f3 [] false ((World.laidAll Tryd.prog os laid5).forCall (fun _ _ => 0) ⟨#[], #[.string ByteArray.empty], []⟩).memory #[.string ByteArray.empty] 8 = true := by kernel_rfl
theorem laid_sized (os : Os) (H : Type) (enc : TypeId × Value → H) : Rows.fnJcsEscapedUnitReadsAppendStringBackSpec.sizedB enc Tryd.prog Tryd.f3 false ((World.laidAll Tryd.prog os laid5).forCall (fun _ _ => 0) ⟨#[], #[.string ByteArray.empty], []⟩).memory #[.string ByteArray.empty] 8 = true := by kernel_rfl

set_option maxRecDepth 100000 in
theorem lifted (os : Os) (started : os.Started) (H : Type) (enc : TypeId × Value → H) :
    ReturnsInHanded {} Tryd.checked os 3 .any (fun w args => (Rows.fnJcsEscapedUnitReadsAppendStringBackSpec.pre enc Tryd.prog Tryd.f3 [] false w args ∧ laidMetH Tryd.prog Rows.fnJcsEscapedUnitReadsAppendStringBackRow.laid w) ∧ sizedMet enc Tryd.prog Tryd.f3 (OpenSpec.ofChange Rows.fnJcsEscapedUnitReadsAppendStringBackSpec) false w args)
      (Rows.fnJcsEscapedUnitReadsAppendStringBackSpec.post enc Tryd.prog Tryd.f3 false true false false) := by
  refine returnsInHanded_of_change_and (C := Tryd.checked) (X := fun w _ => laidMetH Tryd.prog laid5 w) (fun _ _ _ hh h => h.of_heap hh) own started (by kernel_rfl) Tryd.func3
    (ChangeSpec.witness_shaped (enc := enc) (C := Tryd.checked) (os := os) (X := fun w _ => laidMetH Tryd.prog laid5 w) false (World.laidAll Tryd.prog os laid5) #[.string ByteArray.empty] 8 (World.laidAll_os _ _ _) (World.shaped_of_ZipB (laid_zip os) (laid_rest os)) (laid_ok os) (laid_pre os H enc) (laid_sized os H enc) (laid_met os _)) ?_
  intro W base args ds gs before hval0 hW _ _ hL _
  have hval : ∀ (j : Nat) t v, Tryd.f3.params[j]? = some t → args[j]? = some v → Value.okWide Tryd.prog W .any base t v := hval0
  have hW' := hW
  obtain ⟨p, q, hA0, hV, rfl, hfz, hnd⟩ := hW
  have hA : DataW.TrodAll enc Tryd.prog W 0 (fun _ => true) true Tryd.f3.params.toList args.toList ds p := hA0
  rw [Tryd.params3] at hA hval
  obtain ⟨v0, d0, rfl, rfl, h0⟩ := trodAll_one hA
  obtain ⟨rfl, rfl⟩ := trodVars_none hV
  obtain ⟨a0, rfl, rfl, rfl, w0⟩ := open_string Tryd.underlying9 (hval 0 9 v0 rfl rfl) h0
  clear hA0 hval0
  refine (jcs_law a0 W w0).mono fun e W' ⟨he, bel⟩ => ?_
  subst he
  exact ⟨_, rfl, _, _, _, [], _, [], hW', trodAll_mk1 (shut_bool Tryd.underlying4 _), (trodAll_cons_mk (shut_string Tryd.underlying9 w0) trodAll_mk0), rfl, bel.frame _, fun h => by cases h⟩

/-- The row. -/
theorem row_holds : Rows.FnJcsEscapedUnitReadsAppendStringBackSaid :=
  OpenClaim.holds_of_wide 3 Tryd.f3 rfl rfl rfl rfl rfl rfl rfl ⟨rfl, rfl, rfl, rfl, rfl⟩ rfl rfl rfl rfl rfl (by kernel_rfl) Tryd.func3 (by kernel_rfl)
    (of_decide_eq_true (by kernel_rfl)) (by unfold Func.isWrapper; first | (rw [if_pos (by decide +kernel)]; kernel_rfl) | (rw [if_neg (by decide +kernel)]; exact ⟨rfl, rfl⟩))
    (fun os started H enc _ => lifted os started H enc)

/-- ████ THE STATEMENT: THE TIED CARD ████ -/
theorem proved : Rows.FnJcsEscapedUnitReadsAppendStringBackCardSaid :=
  Claim7.holds_tied_plain_at .later [] [.data, .data, .data, .sentinel, .sentinel] true (true, "47689caa671f5c852d6974c7836a77b9b37bca7579079015aa8ab75bc7ec1924") true
    row_holds (fun _ h => by cases h) (by kernel_rfl) (fun _ h => by cases h) fnJcsEscapedUnitReadsAppendStringBack_row_tie rfl ⟨rfl, rfl⟩ (by kernel_rfl) rfl
    (fun f fn hf hfn => by
      obtain rfl : f = 3 := Option.some.inj ((show Tryd.prog.funcNamed Rows.fnJcsEscapedUnitReadsAppendStringBackRow.func = some 3 by kernel_rfl).symm.trans hf) |>.symm
      obtain rfl : fn = Tryd.f3 := (Option.some.inj (Tryd.func3.symm.trans hfn)).symm
      exact ⟨by kernel_rfl, fun j t ht => by
        rw [Tryd.params3] at ht
        have hm : t ∈ [9] := by simpa using Array.mem_of_getElem? ht
        have hall : ([9].all fun u => !Tryd.prog.wantsStandIn u) = true := by kernel_rfl
        exact (show Tryd.prog.wantsStandIn t = false by simpa using List.all_eq_true.1 hall t hm)⟩)
    (by kernel_rfl)
#print axioms proved

end Go.Proofs.Qxb6606060aDoor.jcsCard
