/-
  Models of functions, and that they are what the code does (written by a program).
-/
import Derived.Test.YtpedmnlpccngiaaDoorKTab
import Derived.Test.YtpedmnlpccngiaaDoorSpecA
import Derived.Test.YtpedmnlpccngiaaDoorSpecB
import Derived.Test.YtpedmnlpccngiaaDoorSpecV
import Derived.Test.YtpedmnlpccngiaaDoorImplA
import Derived.Test.YtpedmnlpccngiaaDoorGoqA
import Derived.Test.YtpedmnlpccngiaaDoorGoqR
set_option linter.unusedVariables false
set_option linter.unusedSimpArgs false
namespace Go.Proofs.YtpedmnlpccngiaaDoor.V
open Go Go.Proofs

/-! laws.FnRendered -/
abbrev p_laws_FnRendered : Pt := [(0, .lst .node), (1, .int .i64)]
abbrev q_laws_FnRendered : Pt := [(0, .bool)]

noncomputable def m_laws_FnRendered : Tup p_laws_FnRendered → Option (Tup q_laws_FnRendered) := fun (x : List Node × Int) => Option.bind (m_laws_zzFits1 x.1) fun (r : Bool) => bif !r then some true else Option.bind (m_spec_PlainDocument x.1) fun (r : Bool) => bif !r then some true else bif decide (x.2 < (4 : Int)) then some true else bif decide ((↑(List.length x.1) : Int) ≤ x.2) then some true else Option.bind (m_impl_Render_f (x.1, x.2)) fun (r : List UInt8 × Bool) => bif r.2 then Option.bind (m_spec_Rendered big (x.1, x.2)) fun (r_1 : List UInt8) => some (decide (r.1 = r_1)) else some false

noncomputable def cx_laws_FnRendered : Cx := ⟨tb, lookE [(5, e_laws_zzFits1), (6, e_spec_PlainDocument), (10, e_impl_Render_f), (9, e_spec_Rendered)], lookS [], mth, ast⟩

theorem ck_laws_FnRendered : CxOK Tryd.prog (cx_laws_FnRendered) := cx_ok tb_ok if_ok (.cons ok_laws_zzFits1 Tryd.call5 (.cons ok_spec_PlainDocument Tryd.call6 (.cons ok_impl_Render_f Tryd.call10 (.cons ok_spec_Rendered Tryd.call9 .nil))))

noncomputable def e_laws_FnRendered : Ent := ⟨0, p_laws_FnRendered, q_laws_FnRendered, m_laws_FnRendered⟩
theorem ok_laws_FnRendered : FnOK Tryd.prog 4 e_laws_FnRendered := fn_ok (L := lookL []) ck_laws_FnRendered mixed Tryd.func4 rfl (by kernel_rfl) (by kernel_rfl) (ls_ok (l := []) (by kernel_rfl) .nil) (by intro x; kernel_rfl)

end Go.Proofs.YtpedmnlpccngiaaDoor.V
