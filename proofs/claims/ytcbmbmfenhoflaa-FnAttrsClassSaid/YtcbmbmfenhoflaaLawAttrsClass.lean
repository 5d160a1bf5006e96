/-
  FnAttrsClass holds: for all arguments the call returns true, and they read as they did.
  No condition.
-/
import Derived.Test.YtcbmbmfenhoflaaRows
import Derived.Test.YtcbmbmfenhoflaaB5
set_option linter.unusedVariables false
set_option linter.unusedSimpArgs false
namespace Go.Proofs.Ytcbmbmfenhoflaa.LawAttrsClass
open Go Go.ChangeShapes Go.WideShapes Go.ChangeAt Go.RowKit

theorem own : ownKnob Try.prog.godebug = none := by kernel_rfl
theorem laidOut : laidOutB Try.prog = true := by kernel_rfl
set_option maxRecDepth 100000 in
theorem rdAttrs : V.ReadsL Try.prog 29 .attr :=
  V.reads_lst (t := 45) (sz := 2) Try.underlying29 (by kernel_rfl) rfl (V.reads_attr (ts := 9) Try.underlying45 (by kernel_rfl) rfl Try.underlying9 (by kernel_rfl))
set_option maxRecDepth 100000 in
theorem lifted (os : Os) (started : os.Started) (H : Type) (enc : TypeId × Value → H) :
    ReturnsInHanded {} Try.checked os 5 .any (Rows.fnAttrsClassSpec.pre6 enc Try.prog Try.f5 Rows.fnAttrsClassRow.domain false) (Rows.fnAttrsClassSpec.post enc Try.prog Try.f5 false true false false) := by
  refine returnsInHanded_of_change (C := Try.checked) own started (by kernel_rfl) Try.func5
    (ChangeSpec.witness6 (enc := enc) (C := Try.checked) false ⟨#[], #[.slice none 0 0, .string .empty], []⟩ 8 (by kernel_rfl) (by kernel_rfl) (by kernel_rfl) (by kernel_rfl)) ?_
  intro W base args ds gs before hval0 hW hcnd _
  have hval : ∀ (j : Nat) t v, Try.f5.params[j]? = some t → args[j]? = some v → Value.okWide Try.prog W .any base t v := hval0
  have hW' := hW
  obtain ⟨p, q, hA0, hV, rfl, hfz, hnd⟩ := hW
  have hA : DataW.TrodAll enc Try.prog W 0 (fun _ => true) true Try.f5.params.toList args.toList ds p := hA0
  rw [Try.params5] at hA hval
  obtain ⟨v0, vs0, d0, ds0, p0, q0, hargs, rfl, rfl, h0, r0⟩ := trodAll_cons hA
  obtain ⟨v1, vs1, d1, ds1, p1, q1, rfl, rfl, rfl, h1, r1⟩ := trodAll_cons r0
  obtain ⟨rfl, rfl, rfl⟩ := trodAll_nil r1
  obtain rfl : args = #[v0, v1] := by cases args; simp_all
  obtain ⟨rfl, rfl⟩ := trodVars_none hV
  obtain ⟨x0, g0⟩ := V.arg_lst Try.underlying29 rdAttrs (hval 0 29 v0 rfl rfl) h0
  obtain ⟨x1, rfl, w1⟩ := V.arg_str Try.underlying9 (hval 1 9 v1 rfl rfl) h1
  refine K.law_post laidOut (by kernel_rfl) rfl Try.underlying4 rfl hW' ⟨rfl, rfl, rfl⟩ ?_
  exact V.bridge (ent := V.e_laws_FnAttrsClass) (x := ((x0, x1) : List V.Attr × List UInt8)) (r := (true : Bool)) (ι := V.ι0) (h := W.heap) V.ok_laws_FnAttrsClass (V.fn_attrsClass x0 x1 ) rfl ⟨V.m1_lst g0, V.m1_str⟩ rfl (fun F' ι' vs h hl => V.ans_one hl h)

theorem holds : Rows.FnAttrsClassSaid :=
  OpenClaim.holds_of_wide 5 Try.f5 rfl rfl rfl rfl rfl rfl rfl ⟨rfl, rfl, rfl, rfl, rfl⟩ rfl rfl rfl rfl rfl (by kernel_rfl) Try.func5 (by kernel_rfl)
    (of_decide_eq_true (by kernel_rfl)) (by unfold Func.isWrapper; first | (rw [if_pos (by decide +kernel)]; kernel_rfl) | (rw [if_neg (by decide +kernel)]; exact ⟨rfl, rfl⟩))
    (fun os started H enc _ => lifted os started H enc)
end Go.Proofs.Ytcbmbmfenhoflaa.LawAttrsClass
