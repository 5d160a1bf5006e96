/-
  FnNthBack holds: for all arguments the call returns true, and they read as they did.
  No condition.
-/
import Derived.Test.YtglcncfjagfodaaDoorRows
import Derived.Test.YtglcncfjagfodaaDoorKArg
import Derived.Test.YtglcncfjagfodaaDoorKFresh
import Derived.Test.YtglcncfjagfodaaDoorPNth4
import Derived.Test.YtglcncfjagfodaaDoorCards
import Derived.Test.YtglcncfjagfodaaDoorTie
import Derived.SevenTiedAt
import Derived.LaidLaws
import Derived.LaidHandle
import Derived.LaidMore
set_option linter.unusedVariables false
set_option linter.unusedSimpArgs false
namespace Go.Proofs.YtglcncfjagfodaaDoor.LawNthBack
open Go Go.ChangeShapes Go.WideShapes Go.ChangeAt Go.RowKit

theorem own : ownKnob Tryd.prog.godebug = none := by kernel_rfl
theorem laidOut : laidOutB Tryd.prog = true := by kernel_rfl
theorem door_met (os : Os) (args : Array Value) : laidMetH Tryd.prog Rows.fnNthBackRow.laid ((World.doorLaid Tryd.prog 62 os).forCall (fun _ _ => 0) ⟨#[], args, []⟩).memory :=
  laidMetH_of_parts3 (fuel := 8) (laidMet_of_run' 8 (by kernel_rfl) (by kernel_rfl)) (by kernel_rfl) (by kernel_rfl)
set_option maxRecDepth 100000 in
theorem lifted (os : Os) (started : os.Started) (H : Type) (enc : TypeId × Value → H) :
    ReturnsInHanded {} Tryd.checked os 3 .any (fun w args => (Rows.fnNthBackSpec.pre enc Tryd.prog Tryd.f3 Rows.fnNthBackRow.domain false w args ∧ laidMetH Tryd.prog Rows.fnNthBackRow.laid w) ∧ sizedMet enc Tryd.prog Tryd.f3 (OpenSpec.ofChange Rows.fnNthBackSpec) false w args) (Rows.fnNthBackSpec.post enc Tryd.prog Tryd.f3 false true false false) := by
  refine returnsInHanded_of_change_and (C := Tryd.checked) (X := fun w _ => laidMetH Tryd.prog Rows.fnNthBackRow.laid w) (fun _ _ _ hh h => h.of_heap hh) own started (by kernel_rfl) Tryd.func3
    (ChangeSpec.witness_shaped (enc := enc) (C := Tryd.checked) (os := os) (X := fun w _ => laidMetH Tryd.prog Rows.fnNthBackRow.laid w) false (World.doorLaid Tryd.prog 62 os) #[.int .i64 0, .int .i64 0, .bool false] 8 rfl (World.shaped_of_RefB (by kernel_rfl) (by kernel_rfl)) (by kernel_rfl) (by kernel_rfl) (by kernel_rfl) (door_met os _)) ?_
  intro W base args ds gs before hval0 hW hcnd _ _ _
  have hval : ∀ (j : Nat) t v, Tryd.f3.params[j]? = some t → args[j]? = some v → Value.okWide Tryd.prog W .any base t v := hval0
  have hW' := hW
  obtain ⟨p, q, hA0, hV, rfl, hfz, hnd⟩ := hW
  have hA : DataW.TrodAll enc Tryd.prog W 0 (fun _ => true) true Tryd.f3.params.toList args.toList ds p := hA0
  rw [Tryd.params3] at hA hval
  obtain ⟨v0, vs0, d0, ds0, p0, q0, hargs, rfl, rfl, h0, r0⟩ := trodAll_cons hA
  obtain ⟨v1, vs1, d1, ds1, p1, q1, rfl, rfl, rfl, h1, r1⟩ := trodAll_cons r0
  obtain ⟨v2, vs2, d2, ds2, p2, q2, rfl, rfl, rfl, h2, r2⟩ := trodAll_cons r1
  obtain ⟨rfl, rfl, rfl⟩ := trodAll_nil r2
  obtain rfl : args = #[v0, v1, v2] := by cases args; simp_all
  obtain ⟨rfl, rfl⟩ := trodVars_none hV
  obtain ⟨x0, rfl, w0⟩ := V.arg_int Tryd.underlying3 (hval 0 3 v0 rfl rfl) h0
  obtain ⟨x1, rfl, w1⟩ := V.arg_int Tryd.underlying3 (hval 1 3 v1 rfl rfl) h1
  obtain ⟨x2, rfl⟩ := V.arg_bool Tryd.underlying4 (hval 2 4 v2 rfl rfl)
  refine K.law_post laidOut (by kernel_rfl) rfl Tryd.underlying4 rfl hW' ⟨rfl, rfl, rfl⟩ ?_
  exact V.bridge (ent := V.e_laws_FnNthBack) (x := ((x0, x1, x2) : Int × Int × Bool)) (r := (true : Bool)) (ι := V.ι0) (h := W.heap) V.ok_laws_FnNthBack (V.fn_nthBack x0 x1 x2 ) rfl ⟨V.m1_int, V.m1_int, V.m1_bool⟩ rfl (fun F' ι' vs h hl => V.ans_one hl h)

theorem holds : Rows.FnNthBackSaid :=
  OpenClaim.holds_of_wide 3 Tryd.f3 rfl rfl rfl rfl rfl rfl rfl ⟨rfl, rfl, rfl, rfl, rfl⟩ rfl rfl rfl rfl rfl (by kernel_rfl) Tryd.func3 (by kernel_rfl)
    (of_decide_eq_true (by kernel_rfl)) (by unfold Func.isWrapper; first | (rw [if_pos (by decide +kernel)]; kernel_rfl) | (rw [if_neg (by decide +kernel)]; exact ⟨rfl, rfl⟩))
    (fun os started H enc _ => lifted os started H enc)

theorem card : Rows.FnNthBackCardSaid :=
  Claim7.holds_tied_plain_at .later [] [.data,.data,.data,.sentinel,.sentinel] true Rows.fnNthBackCard.stood.harness Rows.fnNthBackCard.stood.looks
    holds (fun _ h => by cases h) (by kernel_rfl) (fun _ h => by cases h) fnNthBack_row_tie rfl ⟨rfl, rfl⟩ (by kernel_rfl) rfl
    (fun f fn hf hfn => by
      obtain rfl : f = 3 := Option.some.inj ((show Tryd.prog.funcNamed Rows.fnNthBackRow.func = some 3 by kernel_rfl).symm.trans hf) |>.symm
      obtain rfl : fn = Tryd.f3 := (Option.some.inj (Tryd.func3.symm.trans hfn)).symm
      exact ⟨by kernel_rfl, fun j t ht => by
        have hm : t ∈ Tryd.f3.params := Array.mem_of_getElem? ht
        have hall : (Tryd.f3.params.toList.all fun u => !Tryd.prog.wantsStandIn u) = true := by kernel_rfl
        exact (show Tryd.prog.wantsStandIn t = false by simpa using List.all_eq_true.1 hall t (by simpa using hm))⟩)
    (by kernel_rfl)
end Go.Proofs.YtglcncfjagfodaaDoor.LawNthBack
