/-
  Models of functions, and that they are what the code does (written by a program).
-/
import Derived.Test.YtldldchdkcmojaaKTab
import Derived.Test.YtldldchdkcmojaaSpecA
import Derived.Test.YtldldchdkcmojaaSpecB
import Derived.Test.YtldldchdkcmojaaSpecD
import Derived.Test.YtldldchdkcmojaaGoqE
set_option linter.unusedVariables false
set_option linter.unusedSimpArgs false
namespace Go.Proofs.Ytldldchdkcmojaa.V
open Go Go.Proofs

/-! laws.FnEachBreak -/
abbrev p_laws_FnEachBreak : Pt := [(0, .lst .node), (1, .lst .int), (2, .lst .bool)]
abbrev q_laws_FnEachBreak : Pt := [(0, .bool)]

abbrev p_laws_FnEachBreak_0 : Pt := [(0, .lst .node), (1, .lst .int), (2, .lst .bool), (7, .int .i64)]
abbrev x_laws_FnEachBreak_0 : List (Xt × Pt) := [(.ex 0, [(0, .lst .node), (1, .lst .int), (2, .lst .bool), (7, .int .i64)])]
noncomputable def m_laws_FnEachBreak_0 : Tup p_laws_FnEachBreak_0 → Option (Stp (Tup p_laws_FnEachBreak_0) (SumT (x_laws_FnEachBreak_0.map (·.2)))) := fun (x : List Node × List Int × List Bool × Int) => bif Decidable.decide (Prod.snd (Prod.snd (Prod.snd x)) < (↑(List.length (Prod.fst (Prod.snd x))) : Int)) then bif Decidable.decide (Prod.snd (Prod.snd (Prod.snd x)) = (0 : Int)) then Option.some (Stp.nx (Prod.fst x, Prod.fst (Prod.snd x), Prod.fst (Prod.snd (Prod.snd x)), Go.IntKind.wrap Go.IntKind.i64 (Prod.snd (Prod.snd (Prod.snd x)) + (1 : Int)))) else Option.bind (m_laws_answered7 (Prod.fst (Prod.snd (Prod.snd x)), Go.IntKind.wrap Go.IntKind.i64 (Prod.snd (Prod.snd (Prod.snd x)) - (1 : Int)))) fun (r : Bool) => bif r then Option.some (Stp.nx (Prod.fst x, Prod.fst (Prod.snd x), Prod.fst (Prod.snd (Prod.snd x)), Go.IntKind.wrap Go.IntKind.i64 (Prod.snd (Prod.snd (Prod.snd x)) + (1 : Int)))) else Option.some (Stp.out (Prod.fst x, Prod.fst (Prod.snd x), Prod.fst (Prod.snd (Prod.snd x)), Prod.snd (Prod.snd (Prod.snd x)))) else Option.some (Stp.out (Prod.fst x, Prod.fst (Prod.snd x), Prod.fst (Prod.snd (Prod.snd x)), Prod.snd (Prod.snd (Prod.snd x))))

noncomputable def m_laws_FnEachBreak : Tup p_laws_FnEachBreak → Option (Tup q_laws_FnEachBreak) := fun (x : List Node × List Int × List Bool) => Option.bind (m_laws_zzFits1 (Prod.fst x)) fun (r : Bool) => bif !r then Option.some Bool.true else bif Decidable.decide ((2147483647 : Int) < (↑(List.length (Prod.fst (Prod.snd x))) : Int)) then Option.some Bool.true else bif Decidable.decide ((2147483647 : Int) < (↑(List.length (Prod.snd (Prod.snd x))) : Int)) then Option.some Bool.true else Option.bind (m_laws_asked7 (Prod.fst x, Prod.fst (Prod.snd x), Prod.snd (Prod.snd x))) fun (r : Bool) => bif !r then Option.some Bool.true else Option.bind (loopO m_laws_FnEachBreak_0 (Prod.fst x, Prod.fst (Prod.snd x), Prod.snd (Prod.snd x), (0 : Int))) fun (y : List Node × List Int × List Bool × Int) => Option.bind (m_impl_EachBreakOf_f (Prod.fst y, Prod.fst (Prod.snd y), Prod.fst (Prod.snd (Prod.snd y)))) fun (r : List Int × Bool) => bif Prod.snd r then Option.bind (subL (Prod.fst (Prod.snd y)) (0 : Int) (Prod.snd (Prod.snd (Prod.snd y)))) fun (m : List Int) => Option.bind (m_spec_SameList (Prod.fst r, m)) fun (r : Bool) => Option.some r else Option.some Bool.false

noncomputable def cx_laws_FnEachBreak : Cx := ⟨tb, lookE [(9, e_laws_zzFits1), (15, e_laws_asked7), (16, e_laws_answered7), (17, e_impl_EachBreakOf_f), (18, e_spec_SameList)], lookS []⟩

theorem ck_laws_FnEachBreak : CxOK Try.prog (cx_laws_FnEachBreak) := cx_ok tb_ok (.cons ok_laws_zzFits1 Try.call9 (.cons ok_laws_asked7 Try.call15 (.cons ok_laws_answered7 Try.call16 (.cons ok_impl_EachBreakOf_f Try.call17 (.cons ok_spec_SameList Try.call18 .nil)))))

noncomputable def c_laws_FnEachBreak_0 : Code := loopAt (Go.Proofs.Try.f5.body.getD .skip) 0

noncomputable def l_laws_FnEachBreak_0 : LEnt := ⟨p_laws_FnEachBreak_0, x_laws_FnEachBreak_0, loopO (m_laws_FnEachBreak_0)⟩

theorem lo_laws_FnEachBreak_0 : LOK Try.prog 59 0 false (l_laws_FnEachBreak_0) c_laws_FnEachBreak_0 := loop_ok (body := m_laws_FnEachBreak_0) (L := lookL []) (ck_laws_FnEachBreak) mixed (ls_ok (l := []) (by kernel_rfl) .nil) (by intro x; kernel_rfl) (fun x y h => loopO_iff.1 h)

noncomputable def e_laws_FnEachBreak : Ent := ⟨0, p_laws_FnEachBreak, q_laws_FnEachBreak, m_laws_FnEachBreak⟩
theorem ok_laws_FnEachBreak : FnOK Try.prog 5 e_laws_FnEachBreak := fn_ok (L := lookL [(0, l_laws_FnEachBreak_0)]) ck_laws_FnEachBreak mixed Try.func5 rfl (by kernel_rfl) (by kernel_rfl) (ls_ok (l := [(0, c_laws_FnEachBreak_0)]) (by kernel_rfl) (.cons rfl (lo_laws_FnEachBreak_0) .nil)) (by intro x; kernel_rfl)

/-! laws.FnIsBy -/
abbrev p_laws_FnIsBy : Pt := [(0, .lst .node), (1, .lst .int), (2, .lst .bool)]
abbrev q_laws_FnIsBy : Pt := [(0, .bool)]

abbrev p_laws_FnIsBy_0 : Pt := [(0, .lst .node), (1, .lst .int), (2, .lst .bool), (7, .int .i64)]
abbrev x_laws_FnIsBy_0 : List (Xt × Pt) := [(.ex 0, [(0, .lst .node), (1, .lst .int), (2, .lst .bool), (7, .int .i64)])]
noncomputable def m_laws_FnIsBy_0 : Tup p_laws_FnIsBy_0 → Option (Stp (Tup p_laws_FnIsBy_0) (SumT (x_laws_FnIsBy_0.map (·.2)))) := fun (x : List Node × List Int × List Bool × Int) => bif Decidable.decide (Prod.snd (Prod.snd (Prod.snd x)) < (↑(List.length (Prod.fst (Prod.snd x))) : Int)) then Option.bind (m_laws_answered7 (Prod.fst (Prod.snd (Prod.snd x)), Prod.snd (Prod.snd (Prod.snd x)))) fun (r : Bool) => bif !r then Option.some (Stp.nx (Prod.fst x, Prod.fst (Prod.snd x), Prod.fst (Prod.snd (Prod.snd x)), Go.IntKind.wrap Go.IntKind.i64 (Prod.snd (Prod.snd (Prod.snd x)) + (1 : Int)))) else Option.some (Stp.out (Prod.fst x, Prod.fst (Prod.snd x), Prod.fst (Prod.snd (Prod.snd x)), Prod.snd (Prod.snd (Prod.snd x)))) else Option.some (Stp.out (Prod.fst x, Prod.fst (Prod.snd x), Prod.fst (Prod.snd (Prod.snd x)), Prod.snd (Prod.snd (Prod.snd x))))

noncomputable def m_laws_FnIsBy : Tup p_laws_FnIsBy → Option (Tup q_laws_FnIsBy) := fun (x : List Node × List Int × List Bool) => Option.bind (m_laws_zzFits1 (Prod.fst x)) fun (r : Bool) => bif !r then Option.some Bool.true else bif Decidable.decide ((2147483647 : Int) < (↑(List.length (Prod.fst (Prod.snd x))) : Int)) then Option.some Bool.true else bif Decidable.decide ((2147483647 : Int) < (↑(List.length (Prod.snd (Prod.snd x))) : Int)) then Option.some Bool.true else Option.bind (m_laws_asked7 (Prod.fst x, Prod.fst (Prod.snd x), Prod.snd (Prod.snd x))) fun (r : Bool) => bif !r then Option.some Bool.true else Option.bind (loopO m_laws_FnIsBy_0 (Prod.fst x, Prod.fst (Prod.snd x), Prod.snd (Prod.snd x), (0 : Int))) fun (y : List Node × List Int × List Bool × Int) => Option.bind (m_impl_IsBy_f (Prod.fst y, Prod.fst (Prod.snd y), Prod.fst (Prod.snd (Prod.snd y)))) fun (r : Bool × List Int × Bool) => bif Prod.snd (Prod.snd r) then bif Prod.fst r == Decidable.decide (Prod.snd (Prod.snd (Prod.snd y)) < (↑(List.length (Prod.fst (Prod.snd y))) : Int)) then bif Decidable.decide ((if (↑(List.length (Prod.fst (Prod.snd y))) : Int) < Go.IntKind.wrap Go.IntKind.i64 (Prod.snd (Prod.snd (Prod.snd y)) + (1 : Int)) then (↑(List.length (Prod.fst (Prod.snd y))) : Int) else Go.IntKind.wrap Go.IntKind.i64 (Prod.snd (Prod.snd (Prod.snd y)) + (1 : Int))) ≤ (↑(List.length (Prod.fst (Prod.snd r))) : Int)) then bif Decidable.decide ((↑(List.length (Prod.fst (Prod.snd r))) : Int) ≤ (↑(List.length (Prod.fst (Prod.snd y))) : Int)) then Option.bind (subL (Prod.fst (Prod.snd y)) (0 : Int) (↑(List.length (Prod.fst (Prod.snd r))) : Int)) fun (m : List Int) => Option.bind (m_spec_SameList (Prod.fst (Prod.snd r), m)) fun (r : Bool) => Option.some r else Option.some Bool.false else Option.some Bool.false else Option.some Bool.false else Option.some Bool.false

noncomputable def cx_laws_FnIsBy : Cx := ⟨tb, lookE [(9, e_laws_zzFits1), (15, e_laws_asked7), (16, e_laws_answered7), (19, e_impl_IsBy_f), (18, e_spec_SameList)], lookS []⟩

theorem ck_laws_FnIsBy : CxOK Try.prog (cx_laws_FnIsBy) := cx_ok tb_ok (.cons ok_laws_zzFits1 Try.call9 (.cons ok_laws_asked7 Try.call15 (.cons ok_laws_answered7 Try.call16 (.cons ok_impl_IsBy_f Try.call19 (.cons ok_spec_SameList Try.call18 .nil)))))

noncomputable def c_laws_FnIsBy_0 : Code := loopAt (Go.Proofs.Try.f6.body.getD .skip) 0

noncomputable def l_laws_FnIsBy_0 : LEnt := ⟨p_laws_FnIsBy_0, x_laws_FnIsBy_0, loopO (m_laws_FnIsBy_0)⟩

theorem lo_laws_FnIsBy_0 : LOK Try.prog 85 0 false (l_laws_FnIsBy_0) c_laws_FnIsBy_0 := loop_ok (body := m_laws_FnIsBy_0) (L := lookL []) (ck_laws_FnIsBy) mixed (ls_ok (l := []) (by kernel_rfl) .nil) (by intro x; kernel_rfl) (fun x y h => loopO_iff.1 h)

noncomputable def e_laws_FnIsBy : Ent := ⟨0, p_laws_FnIsBy, q_laws_FnIsBy, m_laws_FnIsBy⟩
theorem ok_laws_FnIsBy : FnOK Try.prog 6 e_laws_FnIsBy := fn_ok (L := lookL [(0, l_laws_FnIsBy_0)]) ck_laws_FnIsBy mixed Try.func6 rfl (by kernel_rfl) (by kernel_rfl) (ls_ok (l := [(0, c_laws_FnIsBy_0)]) (by kernel_rfl) (.cons rfl (lo_laws_FnIsBy_0) .nil)) (by intro x; kernel_rfl)

end Go.Proofs.Ytldldchdkcmojaa.V
