/-
  FnReadAttribute holds: for all arguments the call returns true, and they read as they did.
  No condition.
-/
import Derived.Test.YtcjpnnmclhdjbaaGreatDoorRows
import Derived.Test.YtcjpnnmclhdjbaaGreatDoorCards
import Derived.Test.YtcjpnnmclhdjbaaGreatDoorTie
import Derived.SevenTiedAt
import Derived.LaidLaws
import Derived.LaidHandle
import Derived.LaidMore
import Derived.Test.YtcjpnnmclhdjbaaGreatDoorQ6
set_option linter.unusedVariables false
set_option linter.unusedSimpArgs false
namespace Go.Proofs.YtcjpnnmclhdjbaaGreatDoor.LawReadAttribute
open Go Go.ChangeShapes Go.WideShapes Go.ChangeAt Go.RowKit

theorem own : ownKnob Tryz.prog.godebug = none := by kernel_rfl
theorem laidOut : laidOutB Tryz.prog = true := by kernel_rfl
theorem door_met (os : Os) (args : Array Value) : laidMetH Tryz.prog Rows.fnReadAttributeRow.laid ((World.doorLaid Tryz.prog 62 os).forCall (fun _ _ => 0) ⟨#[], args, []⟩).memory :=
  laidMetH_of_parts3 (fuel := 8) (laidMet_of_run' 8 (by kernel_rfl) (by kernel_rfl)) (by kernel_rfl) (by kernel_rfl)
set_option maxRecDepth 100000 in
theorem lifted (os : Os) (started : os.Started) (H : Type) (enc : TypeId × Value → H) :
    ReturnsInHanded {} Tryz.checked os 3 .any (fun w args => (Rows.fnReadAttributeSpec.pre enc Tryz.prog Tryz.f3 Rows.fnReadAttributeRow.domain false w args ∧ laidMetH Tryz.prog Rows.fnReadAttributeRow.laid w) ∧ sizedMet enc Tryz.prog Tryz.f3 (OpenSpec.ofChange Rows.fnReadAttributeSpec) false w args) (Rows.fnReadAttributeSpec.post enc Tryz.prog Tryz.f3 false true false false) := by
  refine returnsInHanded_of_change_and (C := Tryz.checked) (X := fun w _ => laidMetH Tryz.prog Rows.fnReadAttributeRow.laid w) (fun _ _ _ hh h => h.of_heap hh) own started (by kernel_rfl) Tryz.func3
    (ChangeSpec.witness_shaped (enc := enc) (C := Tryz.checked) (os := os) (X := fun w _ => laidMetH Tryz.prog Rows.fnReadAttributeRow.laid w) false (World.doorLaid Tryz.prog 62 os) #[.string .empty] 8 rfl (World.shaped_of_RefB (by kernel_rfl) (by kernel_rfl)) (by kernel_rfl) (by kernel_rfl) (by kernel_rfl) (door_met os _)) ?_
  intro W base args ds gs before hval0 hW hcnd _ _ _
  have hval : ∀ (j : Nat) t v, Tryz.f3.params[j]? = some t → args[j]? = some v → Value.okWide Tryz.prog W .any base t v := hval0
  have hW' := hW
  obtain ⟨p, q, hA0, hV, rfl, hfz, hnd⟩ := hW
  have hA : DataW.TrodAll enc Tryz.prog W 0 (fun _ => true) true Tryz.f3.params.toList args.toList ds p := hA0
  rw [Tryz.params3] at hA hval
  obtain ⟨v0, vs0, d0, ds0, p0, q0, hargs, rfl, rfl, h0, r0⟩ := trodAll_cons hA
  obtain ⟨rfl, rfl, rfl⟩ := trodAll_nil r0
  obtain rfl : args = #[v0] := by cases args; simp_all
  obtain ⟨rfl, rfl⟩ := trodVars_none hV
  obtain ⟨x0, rfl, w0⟩ := V.arg_str Tryz.underlying9 (hval 0 9 v0 rfl rfl) h0
  refine K.law_post laidOut (by kernel_rfl) rfl Tryz.underlying4 rfl hW' ⟨rfl, rfl, rfl⟩ ?_
  exact V.bridge (ent := V.e_laws_FnReadAttribute) (x := ((x0) : List UInt8)) (r := (true : Bool)) (ι := V.ι0) (h := W.heap) V.ok_laws_FnReadAttribute (V.fn_readAttribute x0 ) rfl V.m1_str rfl (fun F' ι' vs h hl => V.ans_one hl h)

theorem holds : Rows.FnReadAttributeSaid :=
  OpenClaim.holds_of_wide 3 Tryz.f3 rfl rfl rfl rfl rfl rfl rfl ⟨rfl, rfl, rfl, rfl, rfl⟩ rfl rfl rfl rfl rfl (by kernel_rfl) Tryz.func3 (by kernel_rfl)
    (of_decide_eq_true (by kernel_rfl)) (by unfold Func.isWrapper; first | (rw [if_pos (by decide +kernel)]; kernel_rfl) | (rw [if_neg (by decide +kernel)]; exact ⟨rfl, rfl⟩))
    (fun os started H enc _ => lifted os started H enc)

theorem card : Rows.FnReadAttributeCardSaid :=
  Claim7.holds_tied_plain_at .later [] [.data,.data,.data,.sentinel,.sentinel] true Rows.fnReadAttributeCard.stood.harness Rows.fnReadAttributeCard.stood.looks
    holds (fun _ h => by cases h) (by kernel_rfl) (fun _ h => by cases h) fnReadAttribute_row_tie rfl ⟨rfl, rfl⟩ (by kernel_rfl) rfl
    (fun f fn hf hfn => by
      obtain rfl : f = 3 := Option.some.inj ((show Tryz.prog.funcNamed Rows.fnReadAttributeRow.func = some 3 by kernel_rfl).symm.trans hf) |>.symm
      obtain rfl : fn = Tryz.f3 := (Option.some.inj (Tryz.func3.symm.trans hfn)).symm
      exact ⟨by kernel_rfl, fun j t ht => by
        have hm : t ∈ Tryz.f3.params := Array.mem_of_getElem? ht
        have hall : (Tryz.f3.params.toList.all fun u => !Tryz.prog.wantsStandIn u) = true := by kernel_rfl
        exact (show Tryz.prog.wantsStandIn t = false by simpa using List.all_eq_true.1 hall t (by simpa using hm))⟩)
    (by kernel_rfl)
end Go.Proofs.YtcjpnnmclhdjbaaGreatDoor.LawReadAttribute
