/-
  Models of functions, and that they are what the code does (written by a program).
-/
import Derived.Test.YtchhjooifjcnkaaKTab
import Derived.Test.YtchhjooifjcnkaaSpecA
import Derived.Test.YtchhjooifjcnkaaSpecB
import Derived.Test.YtchhjooifjcnkaaSpecC
import Derived.Test.YtchhjooifjcnkaaImplA
import Derived.Test.YtchhjooifjcnkaaCascA
namespace Go.Proofs.Ytchhjooifjcnkaa.V
open Go Go.Proofs

/-! laws.FnIsLang -/
abbrev p_laws_FnIsLang : Pt := [(0, .lst .node), (1, .int .i64), (2, .str), (NT, .ns 84 86)]
abbrev q_laws_FnIsLang : Pt := [(0, .bool), (NT, .ns 84 86)]

noncomputable def m_laws_FnIsLang : Tup p_laws_FnIsLang → Option (Tup q_laws_FnIsLang) := fun (x : List Node × Int × List UInt8 × List HN) => Option.bind (m_laws_zzFits1 (Prod.fst x)) fun (r : Bool) => bif !r then Option.some (Bool.true, Prod.snd (Prod.snd (Prod.snd x))) else bif Decidable.decide ((2147483647 : Int) < (↑(List.length (Prod.fst (Prod.snd (Prod.snd x)))) : Int)) then Option.some (Bool.true, Prod.snd (Prod.snd (Prod.snd x))) else Option.bind (m_spec_Right (Prod.fst x)) fun (r : Bool) => bif !r then Option.some (Bool.true, Prod.snd (Prod.snd (Prod.snd x))) else Option.bind (m_laws_within (Prod.fst x, Prod.fst (Prod.snd x))) fun (r : Bool) => bif !r then Option.some (Bool.true, Prod.snd (Prod.snd (Prod.snd x))) else Option.bind (atI (Prod.fst x) (Prod.fst (Prod.snd x))) fun (v : Node) => bif Decidable.decide (Node.kind v ≠ (3 : Int)) then Option.some (Bool.true, Prod.snd (Prod.snd (Prod.snd x))) else bif Decidable.decide (Prod.fst (Prod.snd (Prod.snd x)) = Array.toList (ByteArray.data { data := #[] })) then Option.some (Bool.true, Prod.snd (Prod.snd (Prod.snd x))) else bif Decidable.decide ((100 : Int) < (↑(List.length (Prod.fst (Prod.snd (Prod.snd x)))) : Int)) then Option.some (Bool.true, Prod.snd (Prod.snd (Prod.snd x))) else Option.bind (m_spec_Language (Prod.fst x, Prod.fst (Prod.snd x), Prod.fst (Prod.snd (Prod.snd x)))) fun (r : Int) => bif Decidable.decide (r = (2 : Int)) then Option.some (Bool.true, Prod.snd (Prod.snd (Prod.snd x))) else Option.bind (m_impl_IsLang (Prod.fst x, Prod.fst (Prod.snd x), Prod.fst (Prod.snd (Prod.snd x)), Prod.snd (Prod.snd (Prod.snd x)))) fun (r_1 : Bool × Bool × List HN) => bif Prod.fst (Prod.snd r_1) then Option.some (Prod.fst r_1 == Decidable.decide (r = (1 : Int)), Prod.snd (Prod.snd r_1)) else Option.some (Bool.false, Prod.snd (Prod.snd r_1))

noncomputable def cx_laws_FnIsLang : Cx := ⟨tb, lookE [(18, e_laws_zzFits1), (21, e_spec_Right), (22, e_laws_within), (23, e_spec_Language), (24, e_impl_IsLang)]⟩

theorem ck_laws_FnIsLang : CxOK Try.prog (cx_laws_FnIsLang) := cx_ok tb_ok (.cons ok_laws_zzFits1 Try.call18 (.cons ok_spec_Right Try.call21 (.cons ok_laws_within Try.call22 (.cons ok_spec_Language Try.call23 (.cons ok_impl_IsLang Try.call24 .nil)))))

noncomputable def e_laws_FnIsLang : Ent := ⟨0, p_laws_FnIsLang, q_laws_FnIsLang, m_laws_FnIsLang⟩
theorem ok_laws_FnIsLang : FnOK Try.prog 7 e_laws_FnIsLang := fn_ok (L := lookL []) ck_laws_FnIsLang mixed Try.func7 rfl (by kernel_rfl) (by kernel_rfl) (ls_ok (l := []) (by kernel_rfl) .nil) (by intro x; kernel_rfl)

/-! laws.FnIsClass -/
abbrev p_laws_FnIsClass : Pt := [(0, .lst .node), (1, .int .i64), (2, .str), (NT, .ns 84 86)]
abbrev q_laws_FnIsClass : Pt := [(0, .bool), (NT, .ns 84 86)]

noncomputable def m_laws_FnIsClass : Tup p_laws_FnIsClass → Option (Tup q_laws_FnIsClass) := fun (x : List Node × Int × List UInt8 × List HN) => Option.bind (m_laws_zzFits1 (Prod.fst x)) fun (r : Bool) => bif !r then Option.some (Bool.true, Prod.snd (Prod.snd (Prod.snd x))) else bif Decidable.decide ((2147483647 : Int) < (↑(List.length (Prod.fst (Prod.snd (Prod.snd x)))) : Int)) then Option.some (Bool.true, Prod.snd (Prod.snd (Prod.snd x))) else Option.bind (m_laws_alone (Prod.fst x, Prod.fst (Prod.snd x), { kind := (3 : Int), op := (0 : Int), key := [], val := Prod.fst (Prod.snd (Prod.snd x)), a := (0 : Int), b := (0 : Int), flag := (0 : Int), size := (0 : Int) })) fun (r : Bool × Bool) => bif !Prod.snd r then Option.some (Bool.true, Prod.snd (Prod.snd (Prod.snd x))) else Option.bind (m_impl_IsClass (Prod.fst x, Prod.fst (Prod.snd x), Prod.fst (Prod.snd (Prod.snd x)), Prod.snd (Prod.snd (Prod.snd x)))) fun (r_1 : Bool × Bool × List HN) => bif Prod.fst (Prod.snd r_1) then Option.some (Prod.fst r_1 == Prod.fst r, Prod.snd (Prod.snd r_1)) else Option.some (Bool.false, Prod.snd (Prod.snd r_1))

noncomputable def cx_laws_FnIsClass : Cx := ⟨tb, lookE [(18, e_laws_zzFits1), (19, e_laws_alone), (25, e_impl_IsClass)]⟩

theorem ck_laws_FnIsClass : CxOK Try.prog (cx_laws_FnIsClass) := cx_ok tb_ok (.cons ok_laws_zzFits1 Try.call18 (.cons ok_laws_alone Try.call19 (.cons ok_impl_IsClass Try.call25 .nil)))

noncomputable def e_laws_FnIsClass : Ent := ⟨0, p_laws_FnIsClass, q_laws_FnIsClass, m_laws_FnIsClass⟩
theorem ok_laws_FnIsClass : FnOK Try.prog 8 e_laws_FnIsClass := fn_ok (L := lookL []) ck_laws_FnIsClass mixed Try.func8 rfl (by kernel_rfl) (by kernel_rfl) (ls_ok (l := []) (by kernel_rfl) .nil) (by intro x; kernel_rfl)

end Go.Proofs.Ytchhjooifjcnkaa.V
