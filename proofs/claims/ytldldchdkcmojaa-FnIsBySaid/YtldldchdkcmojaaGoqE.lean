/-
  Models of functions, and that they are what the code does (written by a program).
-/
import Derived.Test.YtldldchdkcmojaaKTab
import Derived.Test.YtldldchdkcmojaaImplA
import Derived.Test.YtldldchdkcmojaaImplB
import Derived.Test.YtldldchdkcmojaaGoqA
set_option linter.unusedVariables false
set_option linter.unusedSimpArgs false
namespace Go.Proofs.Ytldldchdkcmojaa.V
open Go Go.Proofs

/-! impl.EachBreakOf$1 -/
abbrev p_impl_EachBreakOf_1 : Pt := [(0, .int .i64), (1, .fp (.rc .nps [] 2)), (2, .blkx 35 [.own]), (3, .fp (.rc .nps [] 0)), (4, .fp (.rc .bools [] 0)), (2000000128, .hown 2 0 .int 3)]
abbrev q_impl_EachBreakOf_1 : Pt := [(0, .bool), (1002, .blkx 35 [.own]), (2000064128, .hown 1002 0 .int 3)]

noncomputable def m_impl_EachBreakOf_1 : Tup p_impl_EachBreakOf_1 → Option (Tup q_impl_EachBreakOf_1) := fun (x : Int × List (Option Nat) × PUnit × List (Option Nat) × List Bool × List Int) => Option.bind (m_impl_placesOf (Prod.fst (Prod.snd (Prod.snd (Prod.snd x))), Prod.fst (Prod.snd x))) fun (r : List Int) => Option.bind (appL (Prod.snd (Prod.snd (Prod.snd (Prod.snd (Prod.snd x))))) r) fun (r : List Int) => Option.bind (m_impl_yes (Prod.fst (Prod.snd (Prod.snd (Prod.snd (Prod.snd x)))), Prod.fst x)) fun (r_1 : Bool) => Option.some (r_1, PUnit.unit, r)

noncomputable def cx_impl_EachBreakOf_1 : Cx := ⟨tb, lookE [(40, e_impl_placesOf), (41, e_impl_yes)], lookS [(1, [(true, 0), (true, 1), (true, 2), (true, 3), (true, 4), (true, 5), (false, 6), (false, 7), (false, 8)])]⟩

theorem ck_impl_EachBreakOf_1 : CxOK Try.prog (cx_impl_EachBreakOf_1) := cx_ok tb_ok (.cons ok_impl_placesOf Try.call40 (.cons ok_impl_yes Try.call41 .nil))

noncomputable def e_impl_EachBreakOf_1 : Ent := ⟨2003, p_impl_EachBreakOf_1, q_impl_EachBreakOf_1, m_impl_EachBreakOf_1⟩
theorem ok_impl_EachBreakOf_1 : FnOK Try.prog 39 e_impl_EachBreakOf_1 := fn_ok (L := lookL []) ck_impl_EachBreakOf_1 mixed Try.func39 rfl (by kernel_rfl) (by kernel_rfl) (ls_ok (l := []) (by kernel_rfl) .nil) (by intro x; kernel_rfl)

/-! (*goquery.Selection).EachWithBreak -/
abbrev p_goquery_Selection_EachWithBreak : Pt := [(0, .fp (.rc .nps [] 2)), (1, .clox 39 35 [.own] [(.rc .nps [] 0), (.rc .bools [] 0)]), (2000000064, .hown 1 0 .int 3)]
abbrev q_goquery_Selection_EachWithBreak : Pt := [(0, .fp (.rc .nps [] 2)), (1001, .blkx 35 [.own]), (2000064064, .hown 1001 0 .int 3)]

abbrev p_goquery_Selection_EachWithBreak_0 : Pt := [(0, .fp (.rc .nps [] 2)), (1, .clox 39 35 [.own] [(.rc .nps [] 0), (.rc .bools [] 0)]), (10, .lst .np), (11, .int .i64), (12, .int .i64), (2000000064, .hown 1 0 .int 3)]
abbrev x_goquery_Selection_EachWithBreak_0 : List (Xt × Pt) := [(.ex 0, [(0, .fp (.rc .nps [] 2)), (1, .clox 39 35 [.own] [(.rc .nps [] 0), (.rc .bools [] 0)]), (2000000064, .hown 1 0 .int 3)]), (.rt, [(1, .clox 39 35 [.own] [(.rc .nps [] 0), (.rc .bools [] 0)]), (4, .fp (.rc .nps [] 2)), (2000000064, .hown 1 0 .int 3)])]
noncomputable def m_goquery_Selection_EachWithBreak_0 : Tup p_goquery_Selection_EachWithBreak_0 → Option (Stp (Tup p_goquery_Selection_EachWithBreak_0) (SumT (x_goquery_Selection_EachWithBreak_0.map (·.2)))) := fun (x : List (Option Nat) × (PUnit × List (Option Nat) × List Bool) × List (Option Nat) × Int × Int × List Int) => bif Decidable.decide (Prod.fst (Prod.snd (Prod.snd (Prod.snd (Prod.snd x)))) < Prod.fst (Prod.snd (Prod.snd (Prod.snd x)))) then Option.bind (atI (Prod.fst (Prod.snd (Prod.snd x))) (Prod.fst (Prod.snd (Prod.snd (Prod.snd (Prod.snd x)))))) fun (v : Option Nat) => Option.bind (m_goquery_newSingleSelection (v, ())) fun (r : List (Option Nat)) => Option.bind (m_impl_EachBreakOf_1 (Prod.fst (Prod.snd (Prod.snd (Prod.snd (Prod.snd x)))), r, (), Prod.fst (Prod.snd (Prod.fst (Prod.snd x))), Prod.snd (Prod.snd (Prod.fst (Prod.snd x))), Prod.snd (Prod.snd (Prod.snd (Prod.snd (Prod.snd x)))))) fun (r : Bool × PUnit × List Int) => bif !Prod.fst r then Option.some (Stp.out (Sum.inr ((PUnit.unit, Prod.fst (Prod.snd (Prod.fst (Prod.snd x))), Prod.snd (Prod.snd (Prod.fst (Prod.snd x)))), Prod.fst x, Prod.snd (Prod.snd r)))) else Option.some (Stp.nx (Prod.fst x, (PUnit.unit, Prod.fst (Prod.snd (Prod.fst (Prod.snd x))), Prod.snd (Prod.snd (Prod.fst (Prod.snd x)))), Prod.fst (Prod.snd (Prod.snd x)), Prod.fst (Prod.snd (Prod.snd (Prod.snd x))), Go.IntKind.wrap Go.IntKind.i64 (Prod.fst (Prod.snd (Prod.snd (Prod.snd (Prod.snd x)))) + (1 : Int)), Prod.snd (Prod.snd r))) else Option.some (Stp.out (Sum.inl (Prod.fst x, (PUnit.unit, Prod.fst (Prod.snd (Prod.fst (Prod.snd x))), Prod.snd (Prod.snd (Prod.fst (Prod.snd x)))), Prod.snd (Prod.snd (Prod.snd (Prod.snd (Prod.snd x)))))))

noncomputable def m_goquery_Selection_EachWithBreak : Tup p_goquery_Selection_EachWithBreak → Option (Tup q_goquery_Selection_EachWithBreak) := fun (x : List (Option Nat) × (PUnit × List (Option Nat) × List Bool) × List Int) => Option.bind (loopO m_goquery_Selection_EachWithBreak_0 (Prod.fst x, ((), Prod.fst (Prod.snd (Prod.fst (Prod.snd x))), Prod.snd (Prod.snd (Prod.fst (Prod.snd x)))), Prod.fst x, (↑(List.length (Prod.fst x)) : Int), (0 : Int), Prod.snd (Prod.snd x))) fun (y : List (Option Nat) × (PUnit × List (Option Nat) × List Bool) × List Int ⊕ (PUnit × List (Option Nat) × List Bool) × List (Option Nat) × List Int) => selim (fun (y : List (Option Nat) × (PUnit × List (Option Nat) × List Bool) × List Int) => Option.some (Prod.fst y, PUnit.unit, Prod.snd (Prod.snd y))) (fun (y : (PUnit × List (Option Nat) × List Bool) × List (Option Nat) × List Int) => Option.some (Prod.fst (Prod.snd y), PUnit.unit, Prod.snd (Prod.snd y))) y

noncomputable def cx_goquery_Selection_EachWithBreak : Cx := ⟨tb, lookE [(75, e_goquery_newSingleSelection), (39, e_impl_EachBreakOf_1)], lookS []⟩

theorem ck_goquery_Selection_EachWithBreak : CxOK Try.prog (cx_goquery_Selection_EachWithBreak) := cx_ok tb_ok (.cons ok_goquery_newSingleSelection Try.call75 (.cons ok_impl_EachBreakOf_1 Try.call39 .nil))

noncomputable def c_goquery_Selection_EachWithBreak_0 : Code := loopAt (Go.Proofs.Try.f38.body.getD .skip) 0

noncomputable def l_goquery_Selection_EachWithBreak_0 : LEnt := ⟨p_goquery_Selection_EachWithBreak_0, x_goquery_Selection_EachWithBreak_0, loopO (m_goquery_Selection_EachWithBreak_0)⟩

theorem lo_goquery_Selection_EachWithBreak_0 : LOK Try.prog 30 1002 false (l_goquery_Selection_EachWithBreak_0) c_goquery_Selection_EachWithBreak_0 := loop_ok (body := m_goquery_Selection_EachWithBreak_0) (L := lookL []) (ck_goquery_Selection_EachWithBreak) mixed (ls_ok (l := []) (by kernel_rfl) .nil) (by intro x; kernel_rfl) (fun x y h => loopO_iff.1 h)

noncomputable def e_goquery_Selection_EachWithBreak : Ent := ⟨1002, p_goquery_Selection_EachWithBreak, q_goquery_Selection_EachWithBreak, m_goquery_Selection_EachWithBreak⟩
theorem ok_goquery_Selection_EachWithBreak : FnOK Try.prog 38 e_goquery_Selection_EachWithBreak := fn_ok (L := lookL [(0, l_goquery_Selection_EachWithBreak_0)]) ck_goquery_Selection_EachWithBreak mixed Try.func38 rfl (by kernel_rfl) (by kernel_rfl) (ls_ok (l := [(0, c_goquery_Selection_EachWithBreak_0)]) (by kernel_rfl) (.cons rfl (lo_goquery_Selection_EachWithBreak_0) .nil)) (by intro x; kernel_rfl)

/-! impl.EachBreakOf -/
abbrev p_impl_EachBreakOf : Pt := [(0, .lst .node), (1, .lst .int), (2, .lst .bool), (NT, .ns 115 111)]
abbrev q_impl_EachBreakOf : Pt := [(0, .lst .int), (1, .bool), (NT, .ns 115 111)]

noncomputable def m_impl_EachBreakOf : Tup p_impl_EachBreakOf → Option (Tup q_impl_EachBreakOf) := fun (x : List Node × List Int × List Bool × List HN) => Option.bind (m_impl_chosen (Prod.fst x, Prod.fst (Prod.snd x), Prod.snd (Prod.snd (Prod.snd x)))) fun (r : List (Option Nat) × List (Option Nat) × Bool × List HN) => bif !Prod.fst (Prod.snd (Prod.snd r)) then Option.some ([], Bool.false, Prod.snd (Prod.snd (Prod.snd r))) else Option.bind (m_goquery_Selection_EachWithBreak (Prod.fst r, ((), Prod.fst (Prod.snd r), Prod.fst (Prod.snd (Prod.snd x))), [])) fun (r_1 : List (Option Nat) × PUnit × List Int) => Option.some (Prod.snd (Prod.snd r_1), Bool.true, Prod.snd (Prod.snd (Prod.snd r)))

noncomputable def cx_impl_EachBreakOf : Cx := ⟨tb, lookE [(37, e_impl_chosen), (38, e_goquery_Selection_EachWithBreak), (39, e_impl_EachBreakOf_1)], lookS []⟩

theorem ck_impl_EachBreakOf : CxOK Try.prog (cx_impl_EachBreakOf) := cx_ok tb_ok (.cons ok_impl_chosen Try.call37 (.cons ok_goquery_Selection_EachWithBreak Try.call38 (.cons ok_impl_EachBreakOf_1 Try.call39 .nil)))

noncomputable def e_impl_EachBreakOf : Ent := ⟨0, p_impl_EachBreakOf, q_impl_EachBreakOf, m_impl_EachBreakOf⟩
theorem ok_impl_EachBreakOf : FnOK Try.prog 17 e_impl_EachBreakOf := fn_ok (L := lookL []) ck_impl_EachBreakOf mixed Try.func17 rfl (by kernel_rfl) (by kernel_rfl) (ls_ok (l := []) (by kernel_rfl) .nil) (by intro x; kernel_rfl)

abbrev p_impl_EachBreakOf_f : Pt := [(0, .lst .node), (1, .lst .int), (2, .lst .bool)]
abbrev q_impl_EachBreakOf_f : Pt := [(0, .lst .int), (1, .bool)]
noncomputable def m_impl_EachBreakOf_f : Tup p_impl_EachBreakOf_f → Option (Tup q_impl_EachBreakOf_f) := frT 0 p_impl_EachBreakOf_f q_impl_EachBreakOf_f 115 111 (m_impl_EachBreakOf)
noncomputable def e_impl_EachBreakOf_f : Ent := ⟨0, p_impl_EachBreakOf_f, q_impl_EachBreakOf_f, m_impl_EachBreakOf_f⟩
theorem ok_impl_EachBreakOf_f : FnOK Try.prog 17 e_impl_EachBreakOf_f := fresh_ok (np := 0) (p := p_impl_EachBreakOf_f) (q := q_impl_EachBreakOf_f) (m := m_impl_EachBreakOf) ok_impl_EachBreakOf (by kernel_rfl) (by kernel_rfl)

/-! impl.IsBy$1 -/
abbrev p_impl_IsBy_1 : Pt := [(0, .int .i64), (1, .fp (.rc .nps [] 2)), (2, .blkx 35 [.own]), (3, .fp (.rc .nps [] 0)), (4, .fp (.rc .bools [] 0)), (2000000128, .hown 2 0 .int 3)]
abbrev q_impl_IsBy_1 : Pt := [(0, .bool), (1002, .blkx 35 [.own]), (2000064128, .hown 1002 0 .int 3)]

noncomputable def m_impl_IsBy_1 : Tup p_impl_IsBy_1 → Option (Tup q_impl_IsBy_1) := fun (x : Int × List (Option Nat) × PUnit × List (Option Nat) × List Bool × List Int) => Option.bind (m_impl_placesOf (Prod.fst (Prod.snd (Prod.snd (Prod.snd x))), Prod.fst (Prod.snd x))) fun (r : List Int) => Option.bind (appL (Prod.snd (Prod.snd (Prod.snd (Prod.snd (Prod.snd x))))) r) fun (r : List Int) => Option.bind (m_impl_yes (Prod.fst (Prod.snd (Prod.snd (Prod.snd (Prod.snd x)))), Prod.fst x)) fun (r_1 : Bool) => Option.some (r_1, PUnit.unit, r)

noncomputable def cx_impl_IsBy_1 : Cx := ⟨tb, lookE [(40, e_impl_placesOf), (41, e_impl_yes)], lookS [(1, [(true, 0), (true, 1), (true, 2), (true, 3), (true, 4), (true, 5), (false, 6), (false, 7), (false, 8)])]⟩

theorem ck_impl_IsBy_1 : CxOK Try.prog (cx_impl_IsBy_1) := cx_ok tb_ok (.cons ok_impl_placesOf Try.call40 (.cons ok_impl_yes Try.call41 .nil))

noncomputable def e_impl_IsBy_1 : Ent := ⟨2003, p_impl_IsBy_1, q_impl_IsBy_1, m_impl_IsBy_1⟩
theorem ok_impl_IsBy_1 : FnOK Try.prog 43 e_impl_IsBy_1 := fn_ok (L := lookL []) ck_impl_IsBy_1 mixed Try.func43 rfl (by kernel_rfl) (by kernel_rfl) (ls_ok (l := []) (by kernel_rfl) .nil) (by intro x; kernel_rfl)

/-! (*goquery.Selection).IsFunction -/
abbrev p_goquery_Selection_IsFunction : Pt := [(0, .fp (.rc .nps [] 2)), (1, .clox 43 35 [.own] [(.rc .nps [] 0), (.rc .bools [] 0)]), (2000000064, .hown 1 0 .int 3)]
abbrev q_goquery_Selection_IsFunction : Pt := [(0, .bool), (1001, .blkx 35 [.own]), (2000064064, .hown 1001 0 .int 3)]

abbrev p_goquery_Selection_IsFunction_0 : Pt := [(0, .fp (.rc .nps [] 2)), (1, .clox 43 35 [.own] [(.rc .nps [] 0), (.rc .bools [] 0)]), (10, .lst .np), (11, .int .i64), (12, .int .i64), (2000000064, .hown 1 0 .int 3)]
abbrev x_goquery_Selection_IsFunction_0 : List (Xt × Pt) := [(.ex 0, [(1, .clox 43 35 [.own] [(.rc .nps [] 0), (.rc .bools [] 0)]), (2000000064, .hown 1 0 .int 3)]), (.rt, [(1, .clox 43 35 [.own] [(.rc .nps [] 0), (.rc .bools [] 0)]), (4, .bool), (2000000064, .hown 1 0 .int 3)])]
noncomputable def m_goquery_Selection_IsFunction_0 : Tup p_goquery_Selection_IsFunction_0 → Option (Stp (Tup p_goquery_Selection_IsFunction_0) (SumT (x_goquery_Selection_IsFunction_0.map (·.2)))) := fun (x : List (Option Nat) × (PUnit × List (Option Nat) × List Bool) × List (Option Nat) × Int × Int × List Int) => bif Decidable.decide (Prod.fst (Prod.snd (Prod.snd (Prod.snd (Prod.snd x)))) < Prod.fst (Prod.snd (Prod.snd (Prod.snd x)))) then Option.bind (atI (Prod.fst (Prod.snd (Prod.snd x))) (Prod.fst (Prod.snd (Prod.snd (Prod.snd (Prod.snd x)))))) fun (v : Option Nat) => Option.bind (m_goquery_newSingleSelection (v, ())) fun (r : List (Option Nat)) => Option.bind (m_impl_IsBy_1 (Prod.fst (Prod.snd (Prod.snd (Prod.snd (Prod.snd x)))), r, (), Prod.fst (Prod.snd (Prod.fst (Prod.snd x))), Prod.snd (Prod.snd (Prod.fst (Prod.snd x))), Prod.snd (Prod.snd (Prod.snd (Prod.snd (Prod.snd x)))))) fun (r : Bool × PUnit × List Int) => bif Prod.fst r then Option.some (Stp.out (Sum.inr ((PUnit.unit, Prod.fst (Prod.snd (Prod.fst (Prod.snd x))), Prod.snd (Prod.snd (Prod.fst (Prod.snd x)))), Bool.true, Prod.snd (Prod.snd r)))) else Option.some (Stp.nx (Prod.fst x, (PUnit.unit, Prod.fst (Prod.snd (Prod.fst (Prod.snd x))), Prod.snd (Prod.snd (Prod.fst (Prod.snd x)))), Prod.fst (Prod.snd (Prod.snd x)), Prod.fst (Prod.snd (Prod.snd (Prod.snd x))), Go.IntKind.wrap Go.IntKind.i64 (Prod.fst (Prod.snd (Prod.snd (Prod.snd (Prod.snd x)))) + (1 : Int)), Prod.snd (Prod.snd r))) else Option.some (Stp.out (Sum.inl ((PUnit.unit, Prod.fst (Prod.snd (Prod.fst (Prod.snd x))), Prod.snd (Prod.snd (Prod.fst (Prod.snd x)))), Prod.snd (Prod.snd (Prod.snd (Prod.snd (Prod.snd x)))))))

noncomputable def m_goquery_Selection_IsFunction : Tup p_goquery_Selection_IsFunction → Option (Tup q_goquery_Selection_IsFunction) := fun (x : List (Option Nat) × (PUnit × List (Option Nat) × List Bool) × List Int) => Option.bind (loopO m_goquery_Selection_IsFunction_0 (Prod.fst x, ((), Prod.fst (Prod.snd (Prod.fst (Prod.snd x))), Prod.snd (Prod.snd (Prod.fst (Prod.snd x)))), Prod.fst x, (↑(List.length (Prod.fst x)) : Int), (0 : Int), Prod.snd (Prod.snd x))) fun (y : (PUnit × List (Option Nat) × List Bool) × List Int ⊕ (PUnit × List (Option Nat) × List Bool) × Bool × List Int) => selim (fun (y : (PUnit × List (Option Nat) × List Bool) × List Int) => Option.some (Bool.false, PUnit.unit, Prod.snd y)) (fun (y : (PUnit × List (Option Nat) × List Bool) × Bool × List Int) => Option.some (Prod.fst (Prod.snd y), PUnit.unit, Prod.snd (Prod.snd y))) y

noncomputable def cx_goquery_Selection_IsFunction : Cx := ⟨tb, lookE [(75, e_goquery_newSingleSelection), (43, e_impl_IsBy_1)], lookS []⟩

theorem ck_goquery_Selection_IsFunction : CxOK Try.prog (cx_goquery_Selection_IsFunction) := cx_ok tb_ok (.cons ok_goquery_newSingleSelection Try.call75 (.cons ok_impl_IsBy_1 Try.call43 .nil))

noncomputable def c_goquery_Selection_IsFunction_0 : Code := loopAt (Go.Proofs.Try.f42.body.getD .skip) 0

noncomputable def l_goquery_Selection_IsFunction_0 : LEnt := ⟨p_goquery_Selection_IsFunction_0, x_goquery_Selection_IsFunction_0, loopO (m_goquery_Selection_IsFunction_0)⟩

theorem lo_goquery_Selection_IsFunction_0 : LOK Try.prog 27 1002 false (l_goquery_Selection_IsFunction_0) c_goquery_Selection_IsFunction_0 := loop_ok (body := m_goquery_Selection_IsFunction_0) (L := lookL []) (ck_goquery_Selection_IsFunction) mixed (ls_ok (l := []) (by kernel_rfl) .nil) (by intro x; kernel_rfl) (fun x y h => loopO_iff.1 h)

noncomputable def e_goquery_Selection_IsFunction : Ent := ⟨1002, p_goquery_Selection_IsFunction, q_goquery_Selection_IsFunction, m_goquery_Selection_IsFunction⟩
theorem ok_goquery_Selection_IsFunction : FnOK Try.prog 42 e_goquery_Selection_IsFunction := fn_ok (L := lookL [(0, l_goquery_Selection_IsFunction_0)]) ck_goquery_Selection_IsFunction mixed Try.func42 rfl (by kernel_rfl) (by kernel_rfl) (ls_ok (l := [(0, c_goquery_Selection_IsFunction_0)]) (by kernel_rfl) (.cons rfl (lo_goquery_Selection_IsFunction_0) .nil)) (by intro x; kernel_rfl)

/-! impl.IsBy -/
abbrev p_impl_IsBy : Pt := [(0, .lst .node), (1, .lst .int), (2, .lst .bool), (NT, .ns 115 111)]
abbrev q_impl_IsBy : Pt := [(0, .bool), (1, .lst .int), (2, .bool), (NT, .ns 115 111)]

noncomputable def m_impl_IsBy : Tup p_impl_IsBy → Option (Tup q_impl_IsBy) := fun (x : List Node × List Int × List Bool × List HN) => Option.bind (m_impl_chosen (Prod.fst x, Prod.fst (Prod.snd x), Prod.snd (Prod.snd (Prod.snd x)))) fun (r : List (Option Nat) × List (Option Nat) × Bool × List HN) => bif !Prod.fst (Prod.snd (Prod.snd r)) then Option.some (Bool.false, [], Bool.false, Prod.snd (Prod.snd (Prod.snd r))) else Option.bind (m_goquery_Selection_IsFunction (Prod.fst r, ((), Prod.fst (Prod.snd r), Prod.fst (Prod.snd (Prod.snd x))), [])) fun (r_1 : Bool × PUnit × List Int) => Option.some (Prod.fst r_1, Prod.snd (Prod.snd r_1), Bool.true, Prod.snd (Prod.snd (Prod.snd r)))

noncomputable def cx_impl_IsBy : Cx := ⟨tb, lookE [(37, e_impl_chosen), (42, e_goquery_Selection_IsFunction), (43, e_impl_IsBy_1)], lookS [(5, [(true, 0), (true, 1), (true, 2), (false, 3), (true, 4)])]⟩

theorem ck_impl_IsBy : CxOK Try.prog (cx_impl_IsBy) := cx_ok tb_ok (.cons ok_impl_chosen Try.call37 (.cons ok_goquery_Selection_IsFunction Try.call42 (.cons ok_impl_IsBy_1 Try.call43 .nil)))

noncomputable def e_impl_IsBy : Ent := ⟨0, p_impl_IsBy, q_impl_IsBy, m_impl_IsBy⟩
theorem ok_impl_IsBy : FnOK Try.prog 19 e_impl_IsBy := fn_ok (L := lookL []) ck_impl_IsBy mixed Try.func19 rfl (by kernel_rfl) (by kernel_rfl) (ls_ok (l := []) (by kernel_rfl) .nil) (by intro x; kernel_rfl)

abbrev p_impl_IsBy_f : Pt := [(0, .lst .node), (1, .lst .int), (2, .lst .bool)]
abbrev q_impl_IsBy_f : Pt := [(0, .bool), (1, .lst .int), (2, .bool)]
noncomputable def m_impl_IsBy_f : Tup p_impl_IsBy_f → Option (Tup q_impl_IsBy_f) := frT 0 p_impl_IsBy_f q_impl_IsBy_f 115 111 (m_impl_IsBy)
noncomputable def e_impl_IsBy_f : Ent := ⟨0, p_impl_IsBy_f, q_impl_IsBy_f, m_impl_IsBy_f⟩
theorem ok_impl_IsBy_f : FnOK Try.prog 19 e_impl_IsBy_f := fresh_ok (np := 0) (p := p_impl_IsBy_f) (q := q_impl_IsBy_f) (m := m_impl_IsBy) ok_impl_IsBy (by kernel_rfl) (by kernel_rfl)

end Go.Proofs.Ytldldchdkcmojaa.V
