/-
  Models of functions, and that they are what the code does (written by a program).
-/
import Derived.Test.YtlgabeiaheoniaaDoorKTab
import Derived.Test.YtlgabeiaheoniaaDoorSpecA
import Derived.Test.YtlgabeiaheoniaaDoorImplA
set_option linter.unusedVariables false
set_option linter.unusedSimpArgs false
namespace Go.Proofs.YtlgabeiaheoniaaDoor.V
open Go Go.Proofs

/-! laws.FnReadName -/
abbrev p_laws_FnReadName : Pt := [(0, .str)]
abbrev q_laws_FnReadName : Pt := [(0, .bool)]

noncomputable def m_laws_FnReadName : Tup p_laws_FnReadName → Option (Tup q_laws_FnReadName) := fun (x : List UInt8) => bif Decidable.decide ((2147483647 : Int) < (↑(List.length x) : Int)) then Option.some Bool.true else bif Decidable.decide ((1000 : Int) < (↑(List.length x) : Int)) then Option.some Bool.true else Option.bind (m_spec_ReadName x) fun (r : List UInt8 × Int × Bool × Bool) => bif !Prod.snd (Prod.snd (Prod.snd r)) then Option.some Bool.true else Option.bind (m_impl_ReadName x) fun (r_1 : List UInt8 × Int × Bool) => bif Prod.snd (Prod.snd r_1) == Prod.fst (Prod.snd (Prod.snd r)) then bif !Prod.fst (Prod.snd (Prod.snd r)) then Option.some Bool.true else bif Decidable.decide (Prod.fst r_1 = Prod.fst r) then Option.some (Decidable.decide (Prod.fst (Prod.snd r_1) = Prod.fst (Prod.snd r))) else Option.some Bool.false else Option.some Bool.false

noncomputable def cx_laws_FnReadName : Cx := ⟨tb, lookE [(5, e_spec_ReadName), (6, e_impl_ReadName)], lookS []⟩

theorem ck_laws_FnReadName : CxOK Tryd.prog (cx_laws_FnReadName) := cx_ok tb_ok (.cons ok_spec_ReadName Tryd.call5 (.cons ok_impl_ReadName Tryd.call6 .nil))

noncomputable def e_laws_FnReadName : Ent := ⟨0, p_laws_FnReadName, q_laws_FnReadName, m_laws_FnReadName⟩
theorem ok_laws_FnReadName : FnOK Tryd.prog 3 e_laws_FnReadName := fn_ok (L := lookL []) ck_laws_FnReadName mixed Tryd.func3 rfl (by kernel_rfl) (by kernel_rfl) (ls_ok (l := []) (by kernel_rfl) .nil) (by intro x; kernel_rfl)

/-! laws.FnReadString -/
abbrev p_laws_FnReadString : Pt := [(0, .str)]
abbrev q_laws_FnReadString : Pt := [(0, .bool)]

noncomputable def m_laws_FnReadString : Tup p_laws_FnReadString → Option (Tup q_laws_FnReadString) := fun (x : List UInt8) => bif Decidable.decide ((2147483647 : Int) < (↑(List.length x) : Int)) then Option.some Bool.true else bif Decidable.decide ((1000 : Int) < (↑(List.length x) : Int)) then Option.some Bool.true else Option.bind (m_spec_ReadString x) fun (r : List UInt8 × Int × Bool × Bool) => bif !Prod.snd (Prod.snd (Prod.snd r)) then Option.some Bool.true else Option.bind (m_impl_ReadString x) fun (r_1 : List UInt8 × Int × Bool) => bif Prod.snd (Prod.snd r_1) == Prod.fst (Prod.snd (Prod.snd r)) then bif !Prod.fst (Prod.snd (Prod.snd r)) then Option.some Bool.true else bif Decidable.decide (Prod.fst r_1 = Prod.fst r) then Option.some (Decidable.decide (Prod.fst (Prod.snd r_1) = Prod.fst (Prod.snd r))) else Option.some Bool.false else Option.some Bool.false

noncomputable def cx_laws_FnReadString : Cx := ⟨tb, lookE [(7, e_spec_ReadString), (8, e_impl_ReadString)], lookS []⟩

theorem ck_laws_FnReadString : CxOK Tryd.prog (cx_laws_FnReadString) := cx_ok tb_ok (.cons ok_spec_ReadString Tryd.call7 (.cons ok_impl_ReadString Tryd.call8 .nil))

noncomputable def e_laws_FnReadString : Ent := ⟨0, p_laws_FnReadString, q_laws_FnReadString, m_laws_FnReadString⟩
theorem ok_laws_FnReadString : FnOK Tryd.prog 4 e_laws_FnReadString := fn_ok (L := lookL []) ck_laws_FnReadString mixed Tryd.func4 rfl (by kernel_rfl) (by kernel_rfl) (ls_ok (l := []) (by kernel_rfl) .nil) (by intro x; kernel_rfl)

end Go.Proofs.YtlgabeiaheoniaaDoor.V
