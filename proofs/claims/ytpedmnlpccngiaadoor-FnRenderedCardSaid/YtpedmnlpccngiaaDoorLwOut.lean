/-
  Models of functions, and that they are what the code does (written by a program).
-/
import Derived.Test.YtpedmnlpccngiaaDoorKTab
import Derived.Test.YtpedmnlpccngiaaDoorSpecA
import Derived.Test.YtpedmnlpccngiaaDoorSpecB
import Derived.Test.YtpedmnlpccngiaaDoorSpecV
import Derived.Test.YtpedmnlpccngiaaDoorImplA
import Derived.Test.YtpedmnlpccngiaaDoorGoqA
import Derived.Test.YtpedmnlpccngiaaDoorGoqR
set_option linter.unusedVariables false
set_option linter.unusedSimpArgs false
namespace Go.Proofs.YtpedmnlpccngiaaDoor.V
open Go Go.Proofs

/-! laws.FnOuter -/
abbrev p_laws_FnOuter : Pt := [(0, .lst .node), (1, .lst .int)]
abbrev q_laws_FnOuter : Pt := [(0, .bool)]

noncomputable def m_laws_FnOuter : Tup p_laws_FnOuter → Option (Tup q_laws_FnOuter) := fun (x : List Node × List Int) => Option.bind (m_laws_zzFits1 x.1) fun (r : Bool) => bif !r then some true else bif decide ((2147483647 : Int) < (↑(List.length x.2) : Int)) then some true else Option.bind (m_spec_PlainDocument x.1) fun (r : Bool) => bif !r then some true else Option.bind (m_spec_Order (x.1, x.2)) fun (r : Bool) => bif !r then some true else bif decide ((↑(List.length x.2) : Int) = (0 : Int)) then some true else Option.bind (atI x.2 (0 : Int)) fun (v : Int) => bif decide (v < (4 : Int)) then some true else Option.bind (m_impl_OuterOf_f (x.1, x.2)) fun (r : List UInt8 × Bool) => bif r.2 then Option.bind (atI x.2 (0 : Int)) fun (v : Int) => Option.bind (m_spec_Rendered big (x.1, v)) fun (r_1 : List UInt8) => some (decide (r.1 = r_1)) else some false

noncomputable def cx_laws_FnOuter : Cx := ⟨tb, lookE [(5, e_laws_zzFits1), (6, e_spec_PlainDocument), (7, e_spec_Order), (8, e_impl_OuterOf_f), (9, e_spec_Rendered)], lookS [], mth, ast⟩

theorem ck_laws_FnOuter : CxOK Tryd.prog (cx_laws_FnOuter) := cx_ok tb_ok if_ok (.cons ok_laws_zzFits1 Tryd.call5 (.cons ok_spec_PlainDocument Tryd.call6 (.cons ok_spec_Order Tryd.call7 (.cons ok_impl_OuterOf_f Tryd.call8 (.cons ok_spec_Rendered Tryd.call9 .nil)))))

noncomputable def e_laws_FnOuter : Ent := ⟨0, p_laws_FnOuter, q_laws_FnOuter, m_laws_FnOuter⟩
theorem ok_laws_FnOuter : FnOK Tryd.prog 3 e_laws_FnOuter := fn_ok (L := lookL []) ck_laws_FnOuter mixed Tryd.func3 rfl (by kernel_rfl) (by kernel_rfl) (ls_ok (l := []) (by kernel_rfl) .nil) (by intro x; kernel_rfl)

end Go.Proofs.YtpedmnlpccngiaaDoor.V
