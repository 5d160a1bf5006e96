/-
  Models of functions, and that they are what the code does (written by a program).
-/
import Derived.Test.YtglcncfjagfodaaDoorKTab
import Derived.Test.YtglcncfjagfodaaDoorCascA
set_option linter.unusedVariables false
set_option linter.unusedSimpArgs false
namespace Go.Proofs.YtglcncfjagfodaaDoor.V
open Go Go.Proofs

/-! impl.ReadNth -/
abbrev p_impl_ReadNth : Pt := [(0, .str)]
abbrev q_impl_ReadNth : Pt := [(0, .int .i64), (1, .int .i64), (2, .int .i64), (3, .bool)]

noncomputable def m_impl_ReadNth : Tup p_impl_ReadNth → Option (Tup q_impl_ReadNth) := fun (x : List UInt8) => Option.bind (m_cascadia_ReadNth x) fun (r : Int × Int × Int × Bool) => bif !!Prod.snd (Prod.snd (Prod.snd r)) then Option.some ((0 : Int), (0 : Int), (0 : Int), Bool.false) else Option.some (Prod.fst r, Prod.fst (Prod.snd r), Prod.fst (Prod.snd (Prod.snd r)), Bool.true)

noncomputable def cx_impl_ReadNth : Cx := ⟨tb, lookE [(9, e_cascadia_ReadNth)], lookS []⟩

theorem ck_impl_ReadNth : CxOK Tryd.prog (cx_impl_ReadNth) := cx_ok tb_ok (.cons ok_cascadia_ReadNth Tryd.call9 .nil)

noncomputable def e_impl_ReadNth : Ent := ⟨0, p_impl_ReadNth, q_impl_ReadNth, m_impl_ReadNth⟩
theorem ok_impl_ReadNth : FnOK Tryd.prog 6 e_impl_ReadNth := fn_ok (L := lookL []) ck_impl_ReadNth mixed Tryd.func6 rfl (by kernel_rfl) (by kernel_rfl) (ls_ok (l := []) (by kernel_rfl) .nil) (by intro x; kernel_rfl)

end Go.Proofs.YtglcncfjagfodaaDoor.V
