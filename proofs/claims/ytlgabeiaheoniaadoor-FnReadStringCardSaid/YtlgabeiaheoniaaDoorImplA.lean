/-
  Models of functions, and that they are what the code does (written by a program).
-/
import Derived.Test.YtlgabeiaheoniaaDoorKTab
import Derived.Test.YtlgabeiaheoniaaDoorCascA
set_option linter.unusedVariables false
set_option linter.unusedSimpArgs false
namespace Go.Proofs.YtlgabeiaheoniaaDoor.V
open Go Go.Proofs

/-! impl.ReadName -/
abbrev p_impl_ReadName : Pt := [(0, .str)]
abbrev q_impl_ReadName : Pt := [(0, .str), (1, .int .i64), (2, .bool)]

noncomputable def m_impl_ReadName : Tup p_impl_ReadName → Option (Tup q_impl_ReadName) := fun (x : List UInt8) => Option.bind (m_cascadia_ReadName x) fun (r : List UInt8 × Int × Bool) => bif !!Prod.snd (Prod.snd r) then Option.some ([], (0 : Int), Bool.false) else Option.some (Prod.fst r, Prod.fst (Prod.snd r), Bool.true)

noncomputable def cx_impl_ReadName : Cx := ⟨tb, lookE [(12, e_cascadia_ReadName)], lookS []⟩

theorem ck_impl_ReadName : CxOK Tryd.prog (cx_impl_ReadName) := cx_ok tb_ok (.cons ok_cascadia_ReadName Tryd.call12 .nil)

noncomputable def e_impl_ReadName : Ent := ⟨0, p_impl_ReadName, q_impl_ReadName, m_impl_ReadName⟩
theorem ok_impl_ReadName : FnOK Tryd.prog 6 e_impl_ReadName := fn_ok (L := lookL []) ck_impl_ReadName mixed Tryd.func6 rfl (by kernel_rfl) (by kernel_rfl) (ls_ok (l := []) (by kernel_rfl) .nil) (by intro x; kernel_rfl)

/-! impl.ReadString -/
abbrev p_impl_ReadString : Pt := [(0, .str)]
abbrev q_impl_ReadString : Pt := [(0, .str), (1, .int .i64), (2, .bool)]

noncomputable def m_impl_ReadString : Tup p_impl_ReadString → Option (Tup q_impl_ReadString) := fun (x : List UInt8) => bif Decidable.decide (x = Array.toList (ByteArray.data { data := #[] })) then Option.some ([], (0 : Int), Bool.false) else Option.bind (atI x (0 : Int)) fun (c : UInt8) => bif Decidable.decide ((↑(UInt8.toNat c) : Int) ≠ (34 : Int)) then Option.bind (atI x (0 : Int)) fun (c : UInt8) => bif Decidable.decide ((↑(UInt8.toNat c) : Int) ≠ (39 : Int)) then Option.some ([], (0 : Int), Bool.false) else Option.bind (m_cascadia_ReadString x) fun (r : List UInt8 × Int × Bool) => bif !!Prod.snd (Prod.snd r) then Option.some ([], (0 : Int), Bool.false) else Option.some (Prod.fst r, Prod.fst (Prod.snd r), Bool.true) else Option.bind (m_cascadia_ReadString x) fun (r : List UInt8 × Int × Bool) => bif !!Prod.snd (Prod.snd r) then Option.some ([], (0 : Int), Bool.false) else Option.some (Prod.fst r, Prod.fst (Prod.snd r), Bool.true)

noncomputable def cx_impl_ReadString : Cx := ⟨tb, lookE [(14, e_cascadia_ReadString)], lookS []⟩

theorem ck_impl_ReadString : CxOK Tryd.prog (cx_impl_ReadString) := cx_ok tb_ok (.cons ok_cascadia_ReadString Tryd.call14 .nil)

noncomputable def e_impl_ReadString : Ent := ⟨0, p_impl_ReadString, q_impl_ReadString, m_impl_ReadString⟩
theorem ok_impl_ReadString : FnOK Tryd.prog 8 e_impl_ReadString := fn_ok (L := lookL []) ck_impl_ReadString mixed Tryd.func8 rfl (by kernel_rfl) (by kernel_rfl) (ls_ok (l := []) (by kernel_rfl) .nil) (by intro x; kernel_rfl)

end Go.Proofs.YtlgabeiaheoniaaDoor.V
