/-
  Models of functions, and that they are what the code does (written by a program).
-/
import Derived.Test.YtglcncfjagfodaaDoorKTab
import Derived.Test.YtglcncfjagfodaaDoorSpecA
import Derived.Test.YtglcncfjagfodaaDoorImplA
set_option linter.unusedVariables false
set_option linter.unusedSimpArgs false
namespace Go.Proofs.YtglcncfjagfodaaDoor.V
open Go Go.Proofs

/-! laws.FnNthBack -/
abbrev p_laws_FnNthBack : Pt := [(0, .int .i64), (1, .int .i64), (2, .bool)]
abbrev q_laws_FnNthBack : Pt := [(0, .bool)]

noncomputable def m_laws_FnNthBack : Tup p_laws_FnNthBack → Option (Tup q_laws_FnNthBack) := fun (x : Int × Int × Bool) => bif Decidable.decide ((99999 : Int) < Prod.fst x) then Option.some Bool.true else bif Decidable.decide (Prod.fst x < (-99999 : Int)) then Option.some Bool.true else bif Decidable.decide ((99999 : Int) < Prod.fst (Prod.snd x)) then Option.some Bool.true else bif Decidable.decide (Prod.fst (Prod.snd x) < (-99999 : Int)) then Option.some Bool.true else Option.bind (m_spec_Counted (Prod.fst x, Prod.fst (Prod.snd x))) fun (r : List UInt8) => bif Prod.snd (Prod.snd x) then Option.bind (m_spec_Upper r) fun (r : List UInt8) => Option.bind (catS r [(41 : UInt8)]) fun (r_1 : List UInt8) => Option.bind (m_impl_ReadNth r_1) fun (r_2 : Int × Int × Int × Bool) => bif Prod.snd (Prod.snd (Prod.snd r_2)) then bif Decidable.decide (Prod.fst r_2 = Prod.fst x) then bif Decidable.decide (Prod.fst (Prod.snd r_2) = Prod.fst (Prod.snd x)) then Option.some (Decidable.decide (Prod.fst (Prod.snd (Prod.snd r_2)) = (↑(List.length r) : Int))) else Option.some Bool.false else Option.some Bool.false else Option.some Bool.false else Option.bind (catS r [(41 : UInt8)]) fun (r_1 : List UInt8) => Option.bind (m_impl_ReadNth r_1) fun (r_2 : Int × Int × Int × Bool) => bif Prod.snd (Prod.snd (Prod.snd r_2)) then bif Decidable.decide (Prod.fst r_2 = Prod.fst x) then bif Decidable.decide (Prod.fst (Prod.snd r_2) = Prod.fst (Prod.snd x)) then Option.some (Decidable.decide (Prod.fst (Prod.snd (Prod.snd r_2)) = (↑(List.length r) : Int))) else Option.some Bool.false else Option.some Bool.false else Option.some Bool.false

noncomputable def cx_laws_FnNthBack : Cx := ⟨tb, lookE [(4, e_spec_Counted), (5, e_spec_Upper), (6, e_impl_ReadNth)], lookS []⟩

theorem ck_laws_FnNthBack : CxOK Tryd.prog (cx_laws_FnNthBack) := cx_ok tb_ok (.cons ok_spec_Counted Tryd.call4 (.cons ok_spec_Upper Tryd.call5 (.cons ok_impl_ReadNth Tryd.call6 .nil)))

noncomputable def e_laws_FnNthBack : Ent := ⟨0, p_laws_FnNthBack, q_laws_FnNthBack, m_laws_FnNthBack⟩
theorem ok_laws_FnNthBack : FnOK Tryd.prog 3 e_laws_FnNthBack := fn_ok (L := lookL []) ck_laws_FnNthBack mixed Tryd.func3 rfl (by kernel_rfl) (by kernel_rfl) (ls_ok (l := []) (by kernel_rfl) .nil) (by intro x; kernel_rfl)

end Go.Proofs.YtglcncfjagfodaaDoor.V
