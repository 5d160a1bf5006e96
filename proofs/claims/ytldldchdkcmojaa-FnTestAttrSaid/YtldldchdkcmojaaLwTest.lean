/-
  Models of functions, and that they are what the code does (written by a program).
-/
import Derived.Test.YtldldchdkcmojaaKTab
import Derived.Test.YtldldchdkcmojaaSpecA
import Derived.Test.YtldldchdkcmojaaSpecB
import Derived.Test.YtldldchdkcmojaaCascA
import Derived.Test.YtldldchdkcmojaaCascT
set_option linter.unusedVariables false
set_option linter.unusedSimpArgs false
namespace Go.Proofs.Ytldldchdkcmojaa.V
open Go Go.Proofs

/-! laws.FnTestAttr -/
abbrev p_laws_FnTestAttr : Pt := [(0, .str), (1, .int .i64), (2, .str), (3, .int .i64)]
abbrev q_laws_FnTestAttr : Pt := [(0, .bool)]

noncomputable def m_laws_FnTestAttr : Tup p_laws_FnTestAttr → Option (Tup q_laws_FnTestAttr) := fun (x : List UInt8 × Int × List UInt8 × Int) => bif Decidable.decide ((2147483647 : Int) < (↑(List.length (Prod.fst x)) : Int)) then Option.some Bool.true else bif Decidable.decide ((2147483647 : Int) < (↑(List.length (Prod.fst (Prod.snd (Prod.snd x)))) : Int)) then Option.some Bool.true else bif Decidable.decide ((500 : Int) < (↑(List.length (Prod.fst x)) : Int)) then Option.some Bool.true else bif Decidable.decide ((500 : Int) < (↑(List.length (Prod.fst (Prod.snd (Prod.snd x)))) : Int)) then Option.some Bool.true else Option.bind (m_spec_Plain (Prod.fst x)) fun (r : Bool) => bif !r then Option.some Bool.true else Option.bind (m_spec_Plain (Prod.fst (Prod.snd (Prod.snd x)))) fun (r : Bool) => bif !r then Option.some Bool.true else bif Decidable.decide (Prod.fst (Prod.snd x) < (1 : Int)) then Option.some Bool.true else bif Decidable.decide ((8 : Int) < Prod.fst (Prod.snd x)) then Option.some Bool.true else bif Decidable.decide (Prod.snd (Prod.snd (Prod.snd x)) < (0 : Int)) then Option.some Bool.true else bif Decidable.decide ((1 : Int) < Prod.snd (Prod.snd (Prod.snd x))) then Option.some Bool.true else Option.bind (m_spec_Tested (Prod.fst x, { kind := (5 : Int), op := Prod.fst (Prod.snd x), key := [], val := Prod.fst (Prod.snd (Prod.snd x)), a := (0 : Int), b := (0 : Int), flag := Prod.snd (Prod.snd (Prod.snd x)), size := (0 : Int) })) fun (r : Int) => bif Decidable.decide (r = (2 : Int)) then Option.some Bool.true else Option.bind (m_impl_TestAttr (Prod.fst x, Prod.fst (Prod.snd x), Prod.fst (Prod.snd (Prod.snd x)), Prod.snd (Prod.snd (Prod.snd x)))) fun (r_1 : Bool × Bool) => bif Prod.snd r_1 then Option.some (Prod.fst r_1 == Decidable.decide (r = (1 : Int))) else Option.some Bool.false

noncomputable def cx_laws_FnTestAttr : Cx := ⟨tb, lookE [(12, e_spec_Plain), (13, e_spec_Tested), (14, e_impl_TestAttr)]⟩

theorem ck_laws_FnTestAttr : CxOK Try.prog (cx_laws_FnTestAttr) := cx_ok tb_ok (.cons ok_spec_Plain Try.call12 (.cons ok_spec_Tested Try.call13 (.cons ok_impl_TestAttr Try.call14 .nil)))

noncomputable def e_laws_FnTestAttr : Ent := ⟨0, p_laws_FnTestAttr, q_laws_FnTestAttr, m_laws_FnTestAttr⟩
theorem ok_laws_FnTestAttr : FnOK Try.prog 4 e_laws_FnTestAttr := fn_ok (L := lookL []) ck_laws_FnTestAttr mixed Try.func4 rfl (by kernel_rfl) (by kernel_rfl) (ls_ok (l := []) (by kernel_rfl) .nil) (by intro x; kernel_rfl)

end Go.Proofs.Ytldldchdkcmojaa.V
