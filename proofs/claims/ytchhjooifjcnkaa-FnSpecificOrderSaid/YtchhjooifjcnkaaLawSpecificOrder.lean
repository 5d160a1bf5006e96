/-
  FnSpecificOrder holds: for all three times three numbers the call returns true, and they read as they did.
  No condition.
-/
import Derived.Test.YtchhjooifjcnkaaRows
import Derived.Test.YtchhjooifjcnkaaKLaw
import Derived.Test.YtchhjooifjcnkaaKRead
import Derived.Test.YtchhjooifjcnkaaSpecificOrder
namespace Go.Proofs.Ytchhjooifjcnkaa.LawSpecificOrder
open Go Go.ChangeShapes Go.WideShapes Go.ChangeAt Go.RowKit
open Go.ChangeMaps (open_string shut_string)

theorem own : ownKnob Try.prog.godebug = none := by kernel_rfl
theorem laidOut : laidOutB Try.prog = true := by kernel_rfl
/-- An argument of three numbers. -/
theorem three_at {H : Type} {enc : TypeId × Value → H} {P : Program} {ty ti : TypeId} {W : World} {base : Nat} {v : Value} {d : DataW H} {p : List MemPlace} (hu : P.underlying ty = some (.array 3 ti)) (hi : P.underlying ti = some (.int .i64)) (hc : P.cellsOf ty = 3) (hc' : P.cellsOf ti = 1) (hv : Value.okWide P W .any base ty v) (h : DataW.Trod enc P W 0 (fun _ => true) true ty v d p) : ∃ a b c : Int, v = .agg #[.int .i64 a, .int .i64 b, .int .i64 c] := by
  unfold Value.okWide at hv
  rw [hu] at hv
  obtain ⟨cs, rfl, hsz, _⟩ := hv
  rw [hc] at hsz
  obtain ⟨fuel, hf⟩ := h
  obtain ⟨fu, _, hr⟩ := K.rd_array hu hf
  rw [hc'] at hr
  match cs, hsz with
  | ⟨[x, y, z]⟩, _ =>
    obtain ⟨_, r0⟩ := hr 0 (by omega)
    obtain ⟨_, r1⟩ := hr 1 (by omega)
    obtain ⟨_, r2⟩ := hr 2 (by omega)
    obtain ⟨a, h0, _⟩ := K.rd_int hi r0
    obtain ⟨b, h1, _⟩ := K.rd_int hi r1
    obtain ⟨c, h2, _⟩ := K.rd_int hi r2
    simp [Value.cells] at h0 h1 h2
    exact ⟨a, b, c, by rw [h0, h1, h2]⟩
set_option maxRecDepth 100000 in
theorem cells3 : Try.prog.cellsOf 22 = 3 := by kernel_rfl
set_option maxRecDepth 100000 in
theorem cells1 : Try.prog.cellsOf 3 = 1 := by kernel_rfl
set_option maxRecDepth 100000 in
theorem three_of {H : Type} {enc : TypeId × Value → H} {W : World} {base : Nat} {v : Value} {d : DataW H} {p : List MemPlace} (hv : Value.okWide Try.prog W .any base 22 v) (h : DataW.Trod enc Try.prog W 0 (fun _ => true) true 22 v d p) : ∃ a b c : Int, v = .agg #[.int .i64 a, .int .i64 b, .int .i64 c] :=
  three_at (P := Try.prog) (ty := 22) (ti := 3) (W := W) (base := base) (v := v) Try.underlying22 Try.underlying3 cells3 cells1 hv h
set_option maxRecDepth 100000 in
theorem lifted (os : Os) (started : os.Started) (H : Type) (enc : TypeId × Value → H) :
    ReturnsInHanded {} Try.checked os 3 .any (Rows.fnSpecificOrderSpec.pre6 enc Try.prog Try.f3 Rows.fnSpecificOrderRow.domain false) (Rows.fnSpecificOrderSpec.post enc Try.prog Try.f3 false true false false) := by
  refine returnsInHanded_of_change (C := Try.checked) own started (by kernel_rfl) Try.func3
    (ChangeSpec.witness6 (enc := enc) (C := Try.checked) false ⟨#[], #[.agg #[.int .i64 0, .int .i64 0, .int .i64 0], .agg #[.int .i64 0, .int .i64 0, .int .i64 0], .agg #[.int .i64 0, .int .i64 0, .int .i64 0]], []⟩ 8 (by kernel_rfl) (by kernel_rfl) (by kernel_rfl) (by kernel_rfl)) ?_
  intro W base args ds gs before hval0 hW hcnd _
  have hval : ∀ (j : Nat) t v, Try.f3.params[j]? = some t → args[j]? = some v → Value.okWide Try.prog W .any base t v := hval0
  have hW' := hW
  obtain ⟨p, q, hA0, hV, rfl, hfz, hnd⟩ := hW
  have hA : DataW.TrodAll enc Try.prog W 0 (fun _ => true) true Try.f3.params.toList args.toList ds p := hA0
  rw [Try.params3] at hA hval
  obtain ⟨v0, vs0, d0, ds0, p0, q0, hargs, rfl, rfl, h0, r0⟩ := trodAll_cons hA
  obtain ⟨v1, vs1, d1, ds1, p1, q1, rfl, rfl, rfl, h1, r1⟩ := trodAll_cons r0
  obtain ⟨v2, vs2, d2, ds2, p2, q2, rfl, rfl, rfl, h2, r2⟩ := trodAll_cons r1
  obtain ⟨rfl, rfl, rfl⟩ := trodAll_nil r2
  obtain rfl : args = #[v0, v1, v2] := by cases args; simp_all
  obtain ⟨rfl, rfl⟩ := trodVars_none hV
  obtain ⟨a0, a1, a2, rfl⟩ := three_of (hval 0 22 v0 rfl rfl) h0
  obtain ⟨b0, b1, b2, rfl⟩ := three_of (hval 1 22 v1 rfl rfl) h1
  obtain ⟨c0, c1, c2, rfl⟩ := three_of (hval 2 22 v2 rfl rfl) h2
  refine K.law_post laidOut (by kernel_rfl) rfl Try.underlying4 rfl hW' ⟨rfl, rfl, rfl⟩ ?_
  exact SpecificOrder.law_ret a0 a1 a2 b0 b1 b2 c0 c1 c2 W.heap

theorem holds : Rows.FnSpecificOrderSaid :=
  OpenClaim.holds_of_wide 3 Try.f3 rfl rfl rfl rfl rfl rfl rfl ⟨rfl, rfl, rfl, rfl, rfl⟩ rfl rfl rfl rfl rfl (by kernel_rfl) Try.func3 (by kernel_rfl)
    (of_decide_eq_true (by kernel_rfl)) (by unfold Func.isWrapper; first | (rw [if_pos (by decide +kernel)]; kernel_rfl) | (rw [if_neg (by decide +kernel)]; exact ⟨rfl, rfl⟩))
    (fun os started H enc _ => lifted os started H enc)
end Go.Proofs.Ytchhjooifjcnkaa.LawSpecificOrder
