/-
  FnWrapInnerOf holds: for all arguments the call returns true, and they read as they did.
  No condition.
-/
import Derived.Test.YtkmigbicabfodaaRows
import Derived.Test.YtkmigbicabfodaaQ6
set_option linter.unusedVariables false
set_option linter.unusedSimpArgs false
namespace Go.Proofs.Ytkmigbicabfodaa.LawWrapInnerOf
open Go Go.ChangeShapes Go.WideShapes Go.ChangeAt Go.RowKit

theorem own : ownKnob Try.prog.godebug = none := by kernel_rfl
theorem laidOut : laidOutB Try.prog = true := by kernel_rfl
set_option maxRecDepth 100000 in
theorem rdAttrs : V.ReadsL Try.prog 34 .attr :=
  V.reads_lst (t := 72) (sz := 2) Try.underlying34 (by kernel_rfl) rfl (V.reads_attr (ts := 9) Try.underlying72 (by kernel_rfl) rfl Try.underlying9 (by kernel_rfl))
set_option maxRecDepth 100000 in
theorem rdNodes : V.ReadsL Try.prog 22 .node :=
  V.reads_lst (t := 36) (sz := 5) Try.underlying22 (by kernel_rfl) rfl (V.reads_node (ti := 3) (ts := 9) (tl := 34) Try.underlying36 (by kernel_rfl) rfl Try.underlying3 Try.underlying9 (by kernel_rfl) (by kernel_rfl) (by kernel_rfl) rdAttrs)
set_option maxRecDepth 100000 in
theorem rdInts : V.ReadsL Try.prog 23 .int :=
  V.reads_lst (t := 3) (sz := 1) Try.underlying23 (by kernel_rfl) rfl (V.reads_int Try.underlying3)
set_option maxRecDepth 100000 in
theorem lifted (os : Os) (started : os.Started) (H : Type) (enc : TypeId × Value → H) :
    ReturnsInHanded {} Try.checked os 3 .any (Rows.fnWrapInnerOfSpec.pre6 enc Try.prog Try.f3 Rows.fnWrapInnerOfRow.domain false) (Rows.fnWrapInnerOfSpec.post enc Try.prog Try.f3 false true false false) := by
  refine returnsInHanded_of_change (C := Try.checked) own started (by kernel_rfl) Try.func3
    (ChangeSpec.witness6 (enc := enc) (C := Try.checked) false ⟨#[], #[.slice none 0 0, .slice none 0 0, .int .i64 0], []⟩ 8 (by kernel_rfl) (by kernel_rfl) (by kernel_rfl) (by kernel_rfl)) ?_
  intro W base args ds gs before hval0 hW hcnd _
  have hval : ∀ (j : Nat) t v, Try.f3.params[j]? = some t → args[j]? = some v → Value.okWide Try.prog W .any base t v := hval0
  have hW' := hW
  obtain ⟨p, q, hA0, hV, rfl, hfz, hnd⟩ := hW
  have hA : DataW.TrodAll enc Try.prog W 0 (fun _ => true) true Try.f3.params.toList args.toList ds p := hA0
  rw [Try.params3] at hA hval
  obtain ⟨v0, vs0, d0, ds0, p0, q0, hargs, rfl, rfl, h0, r0⟩ := trodAll_cons hA
  obtain ⟨v1, vs1, d1, ds1, p1, q1, rfl, rfl, rfl, h1, r1⟩ := trodAll_cons r0
  obtain ⟨v2, vs2, d2, ds2, p2, q2, rfl, rfl, rfl, h2, r2⟩ := trodAll_cons r1
  obtain ⟨rfl, rfl, rfl⟩ := trodAll_nil r2
  obtain rfl : args = #[v0, v1, v2] := by cases args; simp_all
  obtain ⟨rfl, rfl⟩ := trodVars_none hV
  obtain ⟨x0, g0⟩ := V.arg_lst Try.underlying22 rdNodes (hval 0 22 v0 rfl rfl) h0
  obtain ⟨x1, g1⟩ := V.arg_lst Try.underlying23 rdInts (hval 1 23 v1 rfl rfl) h1
  obtain ⟨x2, rfl, w2⟩ := V.arg_int Try.underlying3 (hval 2 3 v2 rfl rfl) h2
  refine K.law_post laidOut (by kernel_rfl) rfl Try.underlying4 rfl hW' ⟨rfl, rfl, rfl⟩ ?_
  exact V.bridge (ent := V.e_laws_FnWrapInnerOf) (x := ((x0, x1, x2) : List V.Node × List Int × Int)) (r := (true : Bool)) (ι := V.ι0) (h := W.heap) V.ok_laws_FnWrapInnerOf (V.fn_wrapInnerOf x0 x1 x2 ) rfl ⟨V.m1_lst g0, V.m1_lst g1, V.m1_int⟩ rfl trivial (fun F' ι' vs h hl => V.ans_one hl h)

theorem holds : Rows.FnWrapInnerOfSaid :=
  OpenClaim.holds_of_wide 3 Try.f3 rfl rfl rfl rfl rfl rfl rfl ⟨rfl, rfl, rfl, rfl, rfl⟩ rfl rfl rfl rfl rfl (by kernel_rfl) Try.func3 (by kernel_rfl)
    (of_decide_eq_true (by kernel_rfl)) (by unfold Func.isWrapper; first | (rw [if_pos (by decide +kernel)]; kernel_rfl) | (rw [if_neg (by decide +kernel)]; exact ⟨rfl, rfl⟩))
    (fun os started H enc _ => lifted os started H enc)
end Go.Proofs.Ytkmigbicabfodaa.LawWrapInnerOf
