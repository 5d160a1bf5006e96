/-
  Models of functions, and that they are what the code does (written by a program).
-/
import Derived.Test.YtpedmnlpccngiaaDoorKTab
import Derived.Test.YtpedmnlpccngiaaDoorSpecA
import Derived.Test.YtpedmnlpccngiaaDoorImplA
import Derived.Test.YtpedmnlpccngiaaDoorGoqA
import Derived.Test.YtpedmnlpccngiaaDoorKStr
import Derived.Test.YtpedmnlpccngiaaDoorHtmA
set_option linter.unusedVariables false
set_option linter.unusedSimpArgs false
namespace Go.Proofs.YtpedmnlpccngiaaDoor.V
open Go Go.Proofs

/-! (*goquery.Selection).Length -/
abbrev p_goquery_Selection_Length : Pt := [(0, .fp (.rc .nps [] 2))]
abbrev q_goquery_Selection_Length : Pt := [(0, .int .i64)]

noncomputable def m_goquery_Selection_Length : Tup p_goquery_Selection_Length → Option (Tup q_goquery_Selection_Length) := fun (x : List (Option Nat)) => some (↑(List.length x) : Int)

noncomputable def cx_goquery_Selection_Length : Cx := ⟨tb, lookE [], lookS [], mth, ast⟩

theorem ck_goquery_Selection_Length : CxOK Tryd.prog (cx_goquery_Selection_Length) := cx_ok tb_ok if_ok .nil

noncomputable def e_goquery_Selection_Length : Ent := ⟨0, p_goquery_Selection_Length, q_goquery_Selection_Length, m_goquery_Selection_Length⟩
theorem ok_goquery_Selection_Length : FnOK Tryd.prog 42 e_goquery_Selection_Length := fn_ok (L := lookL []) ck_goquery_Selection_Length mixed Tryd.func42 rfl (by kernel_rfl) (by kernel_rfl) (ls_ok (l := []) (by kernel_rfl) .nil) (by intro x; kernel_rfl)

/-! (*goquery.Selection).Get -/
abbrev p_goquery_Selection_Get : Pt := [(0, .fp (.rc .nps [] 2)), (1, .int .i64)]
abbrev q_goquery_Selection_Get : Pt := [(0, .np)]

noncomputable def m_goquery_Selection_Get : Tup p_goquery_Selection_Get → Option (Tup q_goquery_Selection_Get) := fun (x : List (Option Nat) × Int) => bif decide (x.2 < (0 : Int)) then Option.bind (atI x.1 (IntKind.wrap .i64 (x.2 + (↑(List.length x.1) : Int)))) fun (v : Option Nat) => some v else Option.bind (atI x.1 x.2) fun (v : Option Nat) => some v

noncomputable def cx_goquery_Selection_Get : Cx := ⟨tb, lookE [], lookS [], mth, ast⟩

theorem ck_goquery_Selection_Get : CxOK Tryd.prog (cx_goquery_Selection_Get) := cx_ok tb_ok if_ok .nil

noncomputable def e_goquery_Selection_Get : Ent := ⟨0, p_goquery_Selection_Get, q_goquery_Selection_Get, m_goquery_Selection_Get⟩
theorem ok_goquery_Selection_Get : FnOK Tryd.prog 43 e_goquery_Selection_Get := fn_ok (L := lookL []) ck_goquery_Selection_Get mixed Tryd.func43 rfl (by kernel_rfl) (by kernel_rfl) (ls_ok (l := []) (by kernel_rfl) .nil) (by intro x; kernel_rfl)

/-! goquery.Render -/
abbrev p_goquery_Render : Pt := [(0, .clox 500000106 56 [.self, .own] []), (1, .fp (.rc .nps [] 2)), (2000000001, .hown 0 1 .u8 5), (NTR, .nsr .h)]
abbrev q_goquery_Render : Pt := [(0, .err), (1000, .blkx 56 [.self, .own]), (2000064001, .hown 1000 1 .u8 5)]

noncomputable def m_goquery_Render : Tup p_goquery_Render → Option (Tup q_goquery_Render) := fun (x : ((Bool × PUnit) × PUnit) × List (Option Nat) × List UInt8 × List HN) => Option.bind (m_goquery_Selection_Length x.2.1) fun (r : Int) => bif decide (r = (0 : Int)) then some (false, (x.1.1.1, ()), x.2.2.1) else Option.bind (m_goquery_Selection_Get (x.2.1, (0 : Int))) fun (r : Option Nat) => Option.bind (m_html_Render (((x.1.1.1, ()), ()), r, x.2.2.1, x.2.2.2)) fun (r : Bool × (Bool × PUnit) × List UInt8) => some (r.1, (r.2.1.1, ()), r.2.2)

noncomputable def cx_goquery_Render : Cx := ⟨tb, lookE [(42, e_goquery_Selection_Length), (43, e_goquery_Selection_Get), (44, e_html_Render)], lookS [], mth, ast⟩

theorem ck_goquery_Render : CxOK Tryd.prog (cx_goquery_Render) := cx_ok tb_ok if_ok (.cons ok_goquery_Selection_Length Tryd.call42 (.cons ok_goquery_Selection_Get Tryd.call43 (.cons ok_html_Render Tryd.call44 .nil)))

noncomputable def e_goquery_Render : Ent := ⟨1, p_goquery_Render, q_goquery_Render, m_goquery_Render⟩
theorem ok_goquery_Render : FnOK Tryd.prog 27 e_goquery_Render := fn_ok (L := lookL []) ck_goquery_Render mixed Tryd.func27 rfl (by kernel_rfl) (by kernel_rfl) (ls_ok (l := []) (by kernel_rfl) .nil) (by intro x; kernel_rfl)

/-! goquery.OuterHtml -/
abbrev p_goquery_OuterHtml : Pt := [(0, .fp (.rc .nps [] 2)), (NTR, .nsr .h)]
abbrev q_goquery_OuterHtml : Pt := [(0, .str), (1, .err)]

noncomputable def m_goquery_OuterHtml : Tup p_goquery_OuterHtml → Option (Tup q_goquery_OuterHtml) := fun (x : List (Option Nat) × List HN) => Option.bind (m_goquery_Render (((false, ()), ()), x.1, [], x.2)) fun (r : Bool × (Bool × PUnit) × List UInt8) => bif !!r.1 then some ([], r.1) else Option.bind (m_strings_Builder_String ((r.2.1.1, ()), r.2.2)) fun (r : List UInt8) => some (r, false)

noncomputable def cx_goquery_OuterHtml : Cx := ⟨tb, lookE [(27, e_goquery_Render), (28, e_strings_Builder_String)], lookS [], mth, ast⟩

theorem ck_goquery_OuterHtml : CxOK Tryd.prog (cx_goquery_OuterHtml) := cx_ok tb_ok if_ok (.cons ok_goquery_Render Tryd.call27 (.cons ok_strings_Builder_String Tryd.call28 .nil))

noncomputable def e_goquery_OuterHtml : Ent := ⟨0, p_goquery_OuterHtml, q_goquery_OuterHtml, m_goquery_OuterHtml⟩
theorem ok_goquery_OuterHtml : FnOK Tryd.prog 16 e_goquery_OuterHtml := fn_ok (L := lookL []) ck_goquery_OuterHtml mixed Tryd.func16 rfl (by kernel_rfl) (by kernel_rfl) (ls_ok (l := []) (by kernel_rfl) .nil) (by intro x; kernel_rfl)

/-! impl.Render -/
abbrev p_impl_Render : Pt := [(0, .lst .node), (1, .int .i64), (NT, .ns .h 105 107)]
abbrev q_impl_Render : Pt := [(0, .str), (1, .bool), (NT, .ns .h 105 107)]

noncomputable def m_impl_Render : Tup p_impl_Render → Option (Tup q_impl_Render) := fun (x : List Node × Int × List HN) => Option.bind (m_impl_chosen (x.1, [x.2.1], x.2.2)) fun (r : List (Option Nat) × List (Option Nat) × Bool × List HN) => bif !r.2.2.1 then some ([], false, r.2.2.2) else Option.bind (m_goquery_OuterHtml (r.1, r.2.2.2)) fun (r_1 : List UInt8 × Bool) => some (r_1.1, !r_1.2, r.2.2.2)

noncomputable def cx_impl_Render : Cx := ⟨tb, lookE [(15, e_impl_chosen), (16, e_goquery_OuterHtml)], lookS [(5, [(true, 0), (true, 1), (true, 2), (true, 3), (true, 4)])], mth, ast⟩

theorem ck_impl_Render : CxOK Tryd.prog (cx_impl_Render) := cx_ok tb_ok if_ok (.cons ok_impl_chosen Tryd.call15 (.cons ok_goquery_OuterHtml Tryd.call16 .nil))

noncomputable def e_impl_Render : Ent := ⟨0, p_impl_Render, q_impl_Render, m_impl_Render⟩
theorem ok_impl_Render : FnOK Tryd.prog 10 e_impl_Render := fn_ok (L := lookL []) ck_impl_Render mixed Tryd.func10 rfl (by kernel_rfl) (by kernel_rfl) (ls_ok (l := []) (by kernel_rfl) .nil) (by intro x; kernel_rfl)

abbrev p_impl_Render_f : Pt := [(0, .lst .node), (1, .int .i64)]
abbrev q_impl_Render_f : Pt := [(0, .str), (1, .bool)]
noncomputable def m_impl_Render_f : Tup p_impl_Render_f → Option (Tup q_impl_Render_f) := frT 0 p_impl_Render_f q_impl_Render_f .h 105 107 (m_impl_Render)
noncomputable def e_impl_Render_f : Ent := ⟨0, p_impl_Render_f, q_impl_Render_f, m_impl_Render_f⟩
theorem ok_impl_Render_f : FnOK Tryd.prog 10 e_impl_Render_f := fresh_ok (np := 0) (p := p_impl_Render_f) (q := q_impl_Render_f) (m := m_impl_Render) ok_impl_Render (by kernel_rfl) (by kernel_rfl)

/-! impl.OuterOf -/
abbrev p_impl_OuterOf : Pt := [(0, .lst .node), (1, .lst .int), (NT, .ns .h 105 107)]
abbrev q_impl_OuterOf : Pt := [(0, .str), (1, .bool), (NT, .ns .h 105 107)]

noncomputable def m_impl_OuterOf : Tup p_impl_OuterOf → Option (Tup q_impl_OuterOf) := fun (x : List Node × List Int × List HN) => Option.bind (m_impl_chosen (x.1, x.2.1, x.2.2)) fun (r : List (Option Nat) × List (Option Nat) × Bool × List HN) => bif !r.2.2.1 then some ([], false, r.2.2.2) else Option.bind (m_goquery_OuterHtml (r.1, r.2.2.2)) fun (r_1 : List UInt8 × Bool) => some (r_1.1, !r_1.2, r.2.2.2)

noncomputable def cx_impl_OuterOf : Cx := ⟨tb, lookE [(15, e_impl_chosen), (16, e_goquery_OuterHtml)], lookS [(5, [(true, 0), (true, 1), (true, 2), (true, 3), (true, 4)])], mth, ast⟩

theorem ck_impl_OuterOf : CxOK Tryd.prog (cx_impl_OuterOf) := cx_ok tb_ok if_ok (.cons ok_impl_chosen Tryd.call15 (.cons ok_goquery_OuterHtml Tryd.call16 .nil))

noncomputable def e_impl_OuterOf : Ent := ⟨0, p_impl_OuterOf, q_impl_OuterOf, m_impl_OuterOf⟩
theorem ok_impl_OuterOf : FnOK Tryd.prog 8 e_impl_OuterOf := fn_ok (L := lookL []) ck_impl_OuterOf mixed Tryd.func8 rfl (by kernel_rfl) (by kernel_rfl) (ls_ok (l := []) (by kernel_rfl) .nil) (by intro x; kernel_rfl)

abbrev p_impl_OuterOf_f : Pt := [(0, .lst .node), (1, .lst .int)]
abbrev q_impl_OuterOf_f : Pt := [(0, .str), (1, .bool)]
noncomputable def m_impl_OuterOf_f : Tup p_impl_OuterOf_f → Option (Tup q_impl_OuterOf_f) := frT 0 p_impl_OuterOf_f q_impl_OuterOf_f .h 105 107 (m_impl_OuterOf)
noncomputable def e_impl_OuterOf_f : Ent := ⟨0, p_impl_OuterOf_f, q_impl_OuterOf_f, m_impl_OuterOf_f⟩
theorem ok_impl_OuterOf_f : FnOK Tryd.prog 8 e_impl_OuterOf_f := fresh_ok (np := 0) (p := p_impl_OuterOf_f) (q := q_impl_OuterOf_f) (m := m_impl_OuterOf) ok_impl_OuterOf (by kernel_rfl) (by kernel_rfl)

end Go.Proofs.YtpedmnlpccngiaaDoor.V
