/-
  FnAttrsSet holds: for all attributes, keys and values the call returns true, and they read as they did.
  No condition.
-/
import Derived.Test.YtchhjooifjcnkaaRows
import Derived.Test.YtchhjooifjcnkaaKLaw
import Derived.Test.YtchhjooifjcnkaaKArg
import Derived.Test.YtchhjooifjcnkaaAttrsLaw
namespace Go.Proofs.Ytchhjooifjcnkaa.LawAttrsSet
open Go Go.ChangeShapes Go.WideShapes Go.ChangeAt Go.RowKit
open Go.ChangeMaps (open_string shut_string)

theorem own : ownKnob Try.prog.godebug = none := by kernel_rfl
theorem laidOut : laidOutB Try.prog = true := by kernel_rfl
set_option maxRecDepth 100000 in
theorem cells2 : Try.prog.cellsOf 34 = 2 := by kernel_rfl
set_option maxRecDepth 100000 in
theorem cells1 : Try.prog.cellsOf 9 = 1 := by kernel_rfl
set_option maxRecDepth 100000 in
theorem attrs_of {H : Type} {enc : TypeId × Value → H} {W : World} {base : Nat} {v : Value} {d : DataW H} {p : List MemPlace} (hv : Value.okWide Try.prog W .any base 28 v) (h : DataW.Trod enc Try.prog W 0 (fun _ => true) true 28 v d p) :
    ∃ (xs : List Fits.At) (q : Option Addr) (cp : Nat), v = .slice q xs.length cp ∧ xs.length ≤ maxLen ∧ (∀ a ∈ xs, a.1.length ≤ maxLen ∧ a.2.length ≤ maxLen) ∧ K.SlR W.heap 2 q (xs.map Fits.row) :=
  K.slice_arg (P := Try.prog) (t := 28) (e := 34) Fits.row (fun a => a.1.length ≤ maxLen ∧ a.2.length ≤ maxLen) Try.underlying28 cells2 (by decide) hv h
    (fun fuel ys y _ hy => K.struct_ss (P := Try.prog) (t := 34) Try.underlying34 cells2 rfl rfl Try.underlying9 Try.underlying9 cells1 cells1 hy)
set_option maxRecDepth 100000 in
theorem lifted (os : Os) (started : os.Started) (H : Type) (enc : TypeId × Value → H) :
    ReturnsInHanded {} Try.checked os 5 .any (Rows.fnAttrsSetSpec.pre6 enc Try.prog Try.f5 Rows.fnAttrsSetRow.domain false) (Rows.fnAttrsSetSpec.post enc Try.prog Try.f5 false true false false) := by
  refine returnsInHanded_of_change (C := Try.checked) own started (by kernel_rfl) Try.func5
    (ChangeSpec.witness6 (enc := enc) (C := Try.checked) false ⟨#[], #[.slice none 0 0, .string .empty, .string .empty], []⟩ 8 (by kernel_rfl) (by kernel_rfl) (by kernel_rfl) (by kernel_rfl)) ?_
  intro W base args ds gs before hval0 hW hcnd _
  have hval : ∀ (j : Nat) t v, Try.f5.params[j]? = some t → args[j]? = some v → Value.okWide Try.prog W .any base t v := hval0
  have hW' := hW
  obtain ⟨p, q, hA0, hV, rfl, hfz, hnd⟩ := hW
  have hA : DataW.TrodAll enc Try.prog W 0 (fun _ => true) true Try.f5.params.toList args.toList ds p := hA0
  rw [Try.params5] at hA hval
  obtain ⟨v0, vs0, d0, ds0, p0, q0, hargs, rfl, rfl, h0, r0⟩ := trodAll_cons hA
  obtain ⟨v1, vs1, d1, ds1, p1, q1, rfl, rfl, rfl, h1, r1⟩ := trodAll_cons r0
  obtain ⟨v2, vs2, d2, ds2, p2, q2, rfl, rfl, rfl, h2, r2⟩ := trodAll_cons r1
  obtain ⟨rfl, rfl, rfl⟩ := trodAll_nil r2
  obtain rfl : args = #[v0, v1, v2] := by cases args; simp_all
  obtain ⟨rfl, rfl⟩ := trodVars_none hV
  obtain ⟨xs, q, cp, rfl, hmax, hlen, hr⟩ := attrs_of (hval 0 28 v0 rfl rfl) h0
  obtain ⟨s1, rfl, rfl, rfl, hm1⟩ := open_string Try.underlying9 (hval 1 9 v1 rfl rfl) h1
  obtain ⟨s2, rfl, rfl, rfl, hm2⟩ := open_string Try.underlying9 (hval 2 9 v2 rfl rfl) h2
  refine K.law_post laidOut (by kernel_rfl) rfl Try.underlying4 rfl hW' ⟨rfl, rfl, rfl⟩ ?_
  have e1 : s1 = ⟨s1.data.toList.toArray⟩ := by cases s1; simp
  have e2 : s2 = ⟨s2.data.toList.toArray⟩ := by cases s2; simp
  rw [e1, e2]
  exact AttrsLaw.law_ret xs s1.data.toList s2.data.toList q cp W.heap hmax hlen hr

theorem holds : Rows.FnAttrsSetSaid :=
  OpenClaim.holds_of_wide 5 Try.f5 rfl rfl rfl rfl rfl rfl rfl ⟨rfl, rfl, rfl, rfl, rfl⟩ rfl rfl rfl rfl rfl (by kernel_rfl) Try.func5 (by kernel_rfl)
    (of_decide_eq_true (by kernel_rfl)) (by unfold Func.isWrapper; first | (rw [if_pos (by decide +kernel)]; kernel_rfl) | (rw [if_neg (by decide +kernel)]; exact ⟨rfl, rfl⟩))
    (fun os started H enc _ => lifted os started H enc)
end Go.Proofs.Ytchhjooifjcnkaa.LawAttrsSet
