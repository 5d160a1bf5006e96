/-
  Models of functions, and that they are what the code does (written by a program).
-/
import Derived.Test.YtldldchdkcmojaaKTab
import Derived.Test.YtldldchdkcmojaaSpecA
import Derived.Test.YtldldchdkcmojaaSpecB
import Derived.Test.YtldldchdkcmojaaSpecC
import Derived.Test.YtldldchdkcmojaaImplA
import Derived.Test.YtldldchdkcmojaaCascA
set_option linter.unusedVariables false
set_option linter.unusedSimpArgs false
namespace Go.Proofs.Ytldldchdkcmojaa.V
open Go Go.Proofs

/-! laws.FnIsClass -/
abbrev p_laws_FnIsClass : Pt := [(0, .lst .node), (1, .int .i64), (2, .str), (NT, .ns 115 111)]
abbrev q_laws_FnIsClass : Pt := [(0, .bool), (NT, .ns 115 111)]

noncomputable def m_laws_FnIsClass : Tup p_laws_FnIsClass → Option (Tup q_laws_FnIsClass) := fun (x : List Node × Int × List UInt8 × List HN) => Option.bind (m_laws_zzFits1 (Prod.fst x)) fun (r : Bool) => bif !r then Option.some (Bool.true, Prod.snd (Prod.snd (Prod.snd x))) else bif Decidable.decide ((2147483647 : Int) < (↑(List.length (Prod.fst (Prod.snd (Prod.snd x)))) : Int)) then Option.some (Bool.true, Prod.snd (Prod.snd (Prod.snd x))) else Option.bind (m_laws_alone (Prod.fst x, Prod.fst (Prod.snd x), { kind := (3 : Int), op := (0 : Int), key := [], val := Prod.fst (Prod.snd (Prod.snd x)), a := (0 : Int), b := (0 : Int), flag := (0 : Int), size := (0 : Int) })) fun (r : Bool × Bool) => bif !Prod.snd r then Option.some (Bool.true, Prod.snd (Prod.snd (Prod.snd x))) else Option.bind (m_impl_IsClass (Prod.fst x, Prod.fst (Prod.snd x), Prod.fst (Prod.snd (Prod.snd x)), Prod.snd (Prod.snd (Prod.snd x)))) fun (r_1 : Bool × Bool × List HN) => bif Prod.fst (Prod.snd r_1) then Option.some (Prod.fst r_1 == Prod.fst r, Prod.snd (Prod.snd r_1)) else Option.some (Bool.false, Prod.snd (Prod.snd r_1))

noncomputable def cx_laws_FnIsClass : Cx := ⟨tb, lookE [(9, e_laws_zzFits1), (10, e_laws_alone), (11, e_impl_IsClass)]⟩

theorem ck_laws_FnIsClass : CxOK Try.prog (cx_laws_FnIsClass) := cx_ok tb_ok (.cons ok_laws_zzFits1 Try.call9 (.cons ok_laws_alone Try.call10 (.cons ok_impl_IsClass Try.call11 .nil)))

noncomputable def e_laws_FnIsClass : Ent := ⟨0, p_laws_FnIsClass, q_laws_FnIsClass, m_laws_FnIsClass⟩
theorem ok_laws_FnIsClass : FnOK Try.prog 3 e_laws_FnIsClass := fn_ok (L := lookL []) ck_laws_FnIsClass mixed Try.func3 rfl (by kernel_rfl) (by kernel_rfl) (ls_ok (l := []) (by kernel_rfl) .nil) (by intro x; kernel_rfl)

end Go.Proofs.Ytldldchdkcmojaa.V
