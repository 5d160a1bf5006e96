/-
  Models of functions, and that they are what the code does (written by a program).
-/
import Derived.Test.YtchhjooifjcnkaaKTab
import Derived.Test.YtchhjooifjcnkaaSpecA
import Derived.Test.YtchhjooifjcnkaaSpecB
import Derived.Test.YtchhjooifjcnkaaSpecC
import Derived.Test.YtchhjooifjcnkaaImplA
namespace Go.Proofs.Ytchhjooifjcnkaa.V
open Go Go.Proofs

/-! laws.FnIsRoot -/
abbrev p_laws_FnIsRoot : Pt := [(0, .lst .node), (1, .int .i64), (NT, .ns 84 86)]
abbrev q_laws_FnIsRoot : Pt := [(0, .bool), (NT, .ns 84 86)]

noncomputable def m_laws_FnIsRoot : Tup p_laws_FnIsRoot → Option (Tup q_laws_FnIsRoot) := fun (x : List Node × Int × List HN) => Option.bind (m_laws_zzFits1 (Prod.fst x)) fun (r : Bool) => bif !r then Option.some (Bool.true, Prod.snd (Prod.snd x)) else Option.bind (m_laws_alone (Prod.fst x, Prod.fst (Prod.snd x), { kind := (9 : Int), op := (0 : Int), key := [], val := [], a := (0 : Int), b := (0 : Int), flag := (0 : Int), size := (0 : Int) })) fun (r : Bool × Bool) => bif !Prod.snd r then Option.some (Bool.true, Prod.snd (Prod.snd x)) else Option.bind (m_impl_IsRoot (Prod.fst x, Prod.fst (Prod.snd x), Prod.snd (Prod.snd x))) fun (r_1 : Bool × Bool × List HN) => bif Prod.fst (Prod.snd r_1) then Option.some (Prod.fst r_1 == Prod.fst r, Prod.snd (Prod.snd r_1)) else Option.some (Bool.false, Prod.snd (Prod.snd r_1))

noncomputable def cx_laws_FnIsRoot : Cx := ⟨tb, lookE [(18, e_laws_zzFits1), (19, e_laws_alone), (20, e_impl_IsRoot)]⟩

theorem ck_laws_FnIsRoot : CxOK Try.prog (cx_laws_FnIsRoot) := cx_ok tb_ok (.cons ok_laws_zzFits1 Try.call18 (.cons ok_laws_alone Try.call19 (.cons ok_impl_IsRoot Try.call20 .nil)))

noncomputable def e_laws_FnIsRoot : Ent := ⟨0, p_laws_FnIsRoot, q_laws_FnIsRoot, m_laws_FnIsRoot⟩
theorem ok_laws_FnIsRoot : FnOK Try.prog 6 e_laws_FnIsRoot := fn_ok (L := lookL []) ck_laws_FnIsRoot mixed Try.func6 rfl (by kernel_rfl) (by kernel_rfl) (ls_ok (l := []) (by kernel_rfl) .nil) (by intro x; kernel_rfl)

end Go.Proofs.Ytchhjooifjcnkaa.V
