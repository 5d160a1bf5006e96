/-
  FnCounted holds: for all names, places and numbers the call returns true, and they read as they did.
  No condition.
-/
import Derived.Test.YtnggneccdekofaaRows
import Derived.Test.YtnggneccdekofaaKLaw
import Derived.Test.YtnggneccdekofaaKArg
import Derived.Test.YtnggneccdekofaaCountedLaw
namespace Go.Proofs.Ytnggneccdekofaa.LawCounted
open Go Go.ChangeShapes Go.WideShapes Go.ChangeAt Go.RowKit

theorem own : ownKnob Try.prog.godebug = none := by kernel_rfl
theorem laidOut : laidOutB Try.prog = true := by kernel_rfl
set_option maxRecDepth 100000 in
theorem cells1 : Try.prog.cellsOf 9 = 1 := by kernel_rfl
set_option maxRecDepth 100000 in
theorem names_of {H : Type} {enc : TypeId × Value → H} {W : World} {base : Nat} {v : Value} {d : DataW H} {p : List MemPlace} (hv : Value.okWide Try.prog W .any base 22 v) (h : DataW.Trod enc Try.prog W 0 (fun _ => true) true 22 v d p) :
    ∃ (xs : List Counted.Nm) (q : Option Addr) (cp : Nat), v = .slice q xs.length cp ∧ xs.length ≤ maxLen ∧ (∀ a ∈ xs, a.length ≤ maxLen) ∧ K.SlR W.heap 1 q (xs.map Counted.srow) :=
  K.slice_arg (P := Try.prog) (t := 22) (e := 9) Counted.srow (fun a => a.length ≤ maxLen) Try.underlying22 cells1 (by decide) hv h
    (fun fuel ys y _ hy => K.rd_string (P := Try.prog) (t := 9) Try.underlying9 hy)
theorem int_of {H : Type} {enc : TypeId × Value → H} {P : Program} {t : TypeId} {k : IntKind} {W : World} {base : Nat} {v : Value} {d : DataW H} {p : List MemPlace} (hu : P.underlying t = some (.int k)) (hv : Value.okWide P W .any base t v) (h : DataW.Trod enc P W 0 (fun _ => true) true t v d p) : ∃ n : Int, v = .int k n ∧ (Lit.int k n).wf = true := by
  obtain ⟨n, rfl⟩ := okWide_int hu hv
  obtain ⟨fuel, hf⟩ := h
  obtain ⟨m, h1, h2⟩ := K.rd_int hu hf
  simp [Value.cells] at h1
  exact ⟨n, rfl, by rw [h1]; exact h2⟩
set_option maxRecDepth 100000 in
theorem lifted (os : Os) (started : os.Started) (H : Type) (enc : TypeId × Value → H) :
    ReturnsInHanded {} Try.checked os 3 .any (Rows.fnCountedSpec.pre6 enc Try.prog Try.f3 Rows.fnCountedRow.domain false) (Rows.fnCountedSpec.post enc Try.prog Try.f3 false true false false) := by
  refine returnsInHanded_of_change (C := Try.checked) own started (by kernel_rfl) Try.func3
    (ChangeSpec.witness6 (enc := enc) (C := Try.checked) false ⟨#[], #[.slice none 0 0, .int .i64 0, .int .i64 0, .int .i64 0, .int .u8 0], []⟩ 8 (by kernel_rfl) (by kernel_rfl) (by kernel_rfl) (by kernel_rfl)) ?_
  intro W base args ds gs before hval0 hW hcnd _
  have hval : ∀ (j : Nat) t v, Try.f3.params[j]? = some t → args[j]? = some v → Value.okWide Try.prog W .any base t v := hval0
  have hW' := hW
  obtain ⟨p, q, hA0, hV, rfl, hfz, hnd⟩ := hW
  have hA : DataW.TrodAll enc Try.prog W 0 (fun _ => true) true Try.f3.params.toList args.toList ds p := hA0
  rw [Try.params3] at hA hval
  obtain ⟨v0, vs0, d0, ds0, p0, q0, hargs, rfl, rfl, h0, r0⟩ := trodAll_cons hA
  obtain ⟨v1, vs1, d1, ds1, p1, q1, rfl, rfl, rfl, h1, r1⟩ := trodAll_cons r0
  obtain ⟨v2, vs2, d2, ds2, p2, q2, rfl, rfl, rfl, h2, r2⟩ := trodAll_cons r1
  obtain ⟨v3, vs3, d3, ds3, p3, q3, rfl, rfl, rfl, h3, r3⟩ := trodAll_cons r2
  obtain ⟨v4, vs4, d4, ds4, p4, q4, rfl, rfl, rfl, h4, r4⟩ := trodAll_cons r3
  obtain ⟨rfl, rfl, rfl⟩ := trodAll_nil r4
  obtain rfl : args = #[v0, v1, v2, v3, v4] := by cases args; simp_all
  obtain ⟨rfl, rfl⟩ := trodVars_none hV
  obtain ⟨xs, q, cp, rfl, hmax, hlen, hr⟩ := names_of (hval 0 22 v0 rfl rfl) h0
  obtain ⟨n1, rfl, _⟩ := int_of (P := Try.prog) (t := 3) Try.underlying3 (hval 1 3 v1 rfl rfl) h1
  obtain ⟨n2, rfl, _⟩ := int_of (P := Try.prog) (t := 3) Try.underlying3 (hval 2 3 v2 rfl rfl) h2
  obtain ⟨n3, rfl, _⟩ := int_of (P := Try.prog) (t := 3) Try.underlying3 (hval 3 3 v3 rfl rfl) h3
  obtain ⟨n4, rfl, hw4⟩ := int_of (P := Try.prog) (t := 5) Try.underlying5 (hval 4 5 v4 rfl rfl) h4
  obtain ⟨f, rfl, hf⟩ : ∃ f : Nat, n4 = f ∧ f < 256 := by
    simp [Lit.wf, IntKind.min, IntKind.max, IntKind.signed, IntKind.bits] at hw4
    exact ⟨n4.toNat, by omega, by omega⟩
  refine K.law_post laidOut (by kernel_rfl) rfl Try.underlying4 rfl hW' ⟨rfl, rfl, rfl⟩ ?_
  exact CountedLaw.law_ret xs n1 n2 n3 f hf q cp W.heap hmax hlen hr

theorem holds : Rows.FnCountedSaid :=
  OpenClaim.holds_of_wide 3 Try.f3 rfl rfl rfl rfl rfl rfl rfl ⟨rfl, rfl, rfl, rfl, rfl⟩ rfl rfl rfl rfl rfl (by kernel_rfl) Try.func3 (by kernel_rfl)
    (of_decide_eq_true (by kernel_rfl)) (by unfold Func.isWrapper; first | (rw [if_pos (by decide +kernel)]; kernel_rfl) | (rw [if_neg (by decide +kernel)]; exact ⟨rfl, rfl⟩))
    (fun os started H enc _ => lifted os started H enc)
end Go.Proofs.Ytnggneccdekofaa.LawCounted
