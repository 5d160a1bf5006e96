/-
  Models of functions, and that they are what the code does (written by a program).
-/
import Derived.Test.YtldldchdkcmojaaKTab
import Derived.Test.YtldldchdkcmojaaSpecA
import Derived.Test.YtldldchdkcmojaaSpecB
set_option linter.unusedVariables false
set_option linter.unusedSimpArgs false
namespace Go.Proofs.Ytldldchdkcmojaa.V
open Go Go.Proofs

/-! laws.asked7 -/
abbrev p_laws_asked7 : Pt := [(0, .lst .node), (1, .lst .int), (2, .lst .bool)]
abbrev q_laws_asked7 : Pt := [(0, .bool)]

noncomputable def m_laws_asked7 : Tup p_laws_asked7 → Option (Tup q_laws_asked7) := fun (x : List Node × List Int × List Bool) => Option.bind (m_spec_Right (Prod.fst x)) fun (r : Bool) => bif r then Option.bind (m_spec_Order (Prod.fst x, Prod.fst (Prod.snd x))) fun (r : Bool) => bif r then Option.some (Decidable.decide ((↑(List.length (Prod.snd (Prod.snd x))) : Int) ≤ (300 : Int))) else Option.some Bool.false else Option.some Bool.false

noncomputable def cx_laws_asked7 : Cx := ⟨tb, lookE [(20, e_spec_Right), (21, e_spec_Order)], lookS []⟩

theorem ck_laws_asked7 : CxOK Try.prog (cx_laws_asked7) := cx_ok tb_ok (.cons ok_spec_Right Try.call20 (.cons ok_spec_Order Try.call21 .nil))

noncomputable def e_laws_asked7 : Ent := ⟨0, p_laws_asked7, q_laws_asked7, m_laws_asked7⟩
theorem ok_laws_asked7 : FnOK Try.prog 15 e_laws_asked7 := fn_ok (L := lookL []) ck_laws_asked7 mixed Try.func15 rfl (by kernel_rfl) (by kernel_rfl) (ls_ok (l := []) (by kernel_rfl) .nil) (by intro x; kernel_rfl)

/-! laws.answered7 -/
abbrev p_laws_answered7 : Pt := [(0, .lst .bool), (1, .int .i64)]
abbrev q_laws_answered7 : Pt := [(0, .bool)]

noncomputable def m_laws_answered7 : Tup p_laws_answered7 → Option (Tup q_laws_answered7) := fun (x : List Bool × Int) => bif Decidable.decide (Prod.snd x < (↑(List.length (Prod.fst x)) : Int)) then Option.bind (atI (Prod.fst x) (Prod.snd x)) fun (v : Bool) => Option.some v else Option.some Bool.false

noncomputable def cx_laws_answered7 : Cx := ⟨tb, lookE [], lookS []⟩

theorem ck_laws_answered7 : CxOK Try.prog (cx_laws_answered7) := cx_ok tb_ok .nil

noncomputable def e_laws_answered7 : Ent := ⟨0, p_laws_answered7, q_laws_answered7, m_laws_answered7⟩
theorem ok_laws_answered7 : FnOK Try.prog 16 e_laws_answered7 := fn_ok (L := lookL []) ck_laws_answered7 mixed Try.func16 rfl (by kernel_rfl) (by kernel_rfl) (ls_ok (l := []) (by kernel_rfl) .nil) (by intro x; kernel_rfl)

end Go.Proofs.Ytldldchdkcmojaa.V
