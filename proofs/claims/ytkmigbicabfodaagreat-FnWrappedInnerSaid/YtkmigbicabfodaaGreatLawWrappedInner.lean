/-
  FnWrappedInner holds: for all arguments the call returns true, and they read as they did.
  No condition.
-/
import Derived.Test.YtkmigbicabfodaaGreatRows
import Derived.Test.YtkmigbicabfodaaGreatQ6
set_option linter.unusedVariables false
set_option linter.unusedSimpArgs false
namespace Go.Proofs.YtkmigbicabfodaaGreat.LawWrappedInner
open Go Go.ChangeShapes Go.WideShapes Go.ChangeAt Go.RowKit

theorem own : ownKnob Tryz.prog.godebug = none := by kernel_rfl
theorem laidOut : laidOutB Tryz.prog = true := by kernel_rfl
set_option maxRecDepth 100000 in
theorem rdAttrs : V.ReadsL Tryz.prog 37 .attr :=
  V.reads_lst (t := 89) (sz := 2) Tryz.underlying37 (by kernel_rfl) rfl (V.reads_attr (ts := 9) Tryz.underlying89 (by kernel_rfl) rfl Tryz.underlying9 (by kernel_rfl))
set_option maxRecDepth 100000 in
theorem rdNodes : V.ReadsL Tryz.prog 22 .node :=
  V.reads_lst (t := 39) (sz := 5) Tryz.underlying22 (by kernel_rfl) rfl (V.reads_node (ti := 3) (ts := 9) (tl := 37) Tryz.underlying39 (by kernel_rfl) rfl Tryz.underlying3 Tryz.underlying9 (by kernel_rfl) (by kernel_rfl) (by kernel_rfl) rdAttrs)
set_option maxRecDepth 100000 in
theorem lifted (os : Os) (started : os.Started) (H : Type) (enc : TypeId × Value → H) :
    ReturnsInHanded {} Tryz.checked os 3 .any (Rows.fnWrappedInnerSpec.pre6 enc Tryz.prog Tryz.f3 Rows.fnWrappedInnerRow.domain false) (Rows.fnWrappedInnerSpec.post enc Tryz.prog Tryz.f3 false true false false) := by
  refine returnsInHanded_of_change (C := Tryz.checked) own started (by kernel_rfl) Tryz.func3
    (ChangeSpec.witness6 (enc := enc) (C := Tryz.checked) false ⟨#[], #[.slice none 0 0, .int .i64 0, .int .i64 0], []⟩ 8 (by kernel_rfl) (by kernel_rfl) (by kernel_rfl) (by kernel_rfl)) ?_
  intro W base args ds gs before hval0 hW hcnd _
  have hval : ∀ (j : Nat) t v, Tryz.f3.params[j]? = some t → args[j]? = some v → Value.okWide Tryz.prog W .any base t v := hval0
  have hW' := hW
  obtain ⟨p, q, hA0, hV, rfl, hfz, hnd⟩ := hW
  have hA : DataW.TrodAll enc Tryz.prog W 0 (fun _ => true) true Tryz.f3.params.toList args.toList ds p := hA0
  rw [Tryz.params3] at hA hval
  obtain ⟨v0, vs0, d0, ds0, p0, q0, hargs, rfl, rfl, h0, r0⟩ := trodAll_cons hA
  obtain ⟨v1, vs1, d1, ds1, p1, q1, rfl, rfl, rfl, h1, r1⟩ := trodAll_cons r0
  obtain ⟨v2, vs2, d2, ds2, p2, q2, rfl, rfl, rfl, h2, r2⟩ := trodAll_cons r1
  obtain ⟨rfl, rfl, rfl⟩ := trodAll_nil r2
  obtain rfl : args = #[v0, v1, v2] := by cases args; simp_all
  obtain ⟨rfl, rfl⟩ := trodVars_none hV
  obtain ⟨x0, g0⟩ := V.arg_lst Tryz.underlying22 rdNodes (hval 0 22 v0 rfl rfl) h0
  obtain ⟨x1, rfl, w1⟩ := V.arg_int Tryz.underlying3 (hval 1 3 v1 rfl rfl) h1
  obtain ⟨x2, rfl, w2⟩ := V.arg_int Tryz.underlying3 (hval 2 3 v2 rfl rfl) h2
  refine K.law_post laidOut (by kernel_rfl) rfl Tryz.underlying4 rfl hW' ⟨rfl, rfl, rfl⟩ ?_
  exact V.bridge (ent := V.e_laws_FnWrappedInner) (x := ((x0, x1, x2) : List V.Node × Int × Int)) (r := (true : Bool)) (ι := V.ι0) (h := W.heap) V.ok_laws_FnWrappedInner (V.fn_wrappedInner x0 x1 x2 ) rfl ⟨V.m1_lst g0, V.m1_int, V.m1_int⟩ rfl trivial (fun F' ι' vs h hl => V.ans_one hl h)

theorem holds : Rows.FnWrappedInnerSaid :=
  OpenClaim.holds_of_wide 3 Tryz.f3 rfl rfl rfl rfl rfl rfl rfl ⟨rfl, rfl, rfl, rfl, rfl⟩ rfl rfl rfl rfl rfl (by kernel_rfl) Tryz.func3 (by kernel_rfl)
    (of_decide_eq_true (by kernel_rfl)) (by unfold Func.isWrapper; first | (rw [if_pos (by decide +kernel)]; kernel_rfl) | (rw [if_neg (by decide +kernel)]; exact ⟨rfl, rfl⟩))
    (fun os started H enc _ => lifted os started H enc)
end Go.Proofs.YtkmigbicabfodaaGreat.LawWrappedInner
