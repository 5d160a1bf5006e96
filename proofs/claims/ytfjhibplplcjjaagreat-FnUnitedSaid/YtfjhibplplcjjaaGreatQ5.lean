/-
  Plain facts and an evaluator for what a law needs.
-/
import Derived.Test.YtfjhibplplcjjaaGreatQ4
set_option linter.unusedVariables false
set_option linter.unusedSimpArgs false
namespace Go.Proofs.YtfjhibplplcjjaaGreat.V
open Go Go.Proofs
abbrev p_goquery_pushStack_b : Pt := [(0, .fp (.rc .any [.any, .any] 0)), (1, .own .np 70)]
abbrev q_goquery_pushStack_b : Pt := [(0, .blkx 65 [.own, .fl .any, .fl .any]), (2000000000, .hown 0 0 .np 70)]
noncomputable def m_goquery_pushStack_b : Tup p_goquery_pushStack_b → Option (Tup q_goquery_pushStack_b) := fun (x : (PUnit × PUnit × PUnit) × List (Option Nat)) => some (((), (), ()), x.2)
noncomputable def cx_goquery_pushStack_b : Cx := ⟨tb, lookE [], lookS [(1000065, [])]⟩
theorem ck_goquery_pushStack_b : CxOK Tryz.prog (cx_goquery_pushStack_b) := cx_ok tb_ok .nil
noncomputable def e_goquery_pushStack_b : Ent := ⟨0, p_goquery_pushStack_b, q_goquery_pushStack_b, m_goquery_pushStack_b⟩
theorem ok_goquery_pushStack_b : FnOK Tryz.prog 72 e_goquery_pushStack_b := fn_ok (L := lookL []) ck_goquery_pushStack_b mixed Tryz.func72 rfl (by kernel_rfl) (by kernel_rfl) (ls_ok (l := []) (by kernel_rfl) .nil) (by intro x; kernel_rfl)
abbrev p_goquery_pushStack_o : Pt := [(0, .fp (.rc .nps [] 2)), (1, .own .np 70)]
abbrev q_goquery_pushStack_o : Pt := [(0, .blkx 65 [.own, .fl .any, .fl .any]), (2000000000, .hown 0 0 .np 70)]
noncomputable def m_goquery_pushStack_o : Tup p_goquery_pushStack_o → Option (Tup q_goquery_pushStack_o) := fun (x : List (Option Nat) × List (Option Nat)) => some (((), (), ()), x.2)
noncomputable def cx_goquery_pushStack_o : Cx := ⟨tb, lookE [], lookS [(1000065, [])]⟩
theorem ck_goquery_pushStack_o : CxOK Tryz.prog (cx_goquery_pushStack_o) := cx_ok tb_ok .nil
noncomputable def e_goquery_pushStack_o : Ent := ⟨0, p_goquery_pushStack_o, q_goquery_pushStack_o, m_goquery_pushStack_o⟩
theorem ok_goquery_pushStack_o : FnOK Tryz.prog 72 e_goquery_pushStack_o := fn_ok (L := lookL []) ck_goquery_pushStack_o mixed Tryz.func72 rfl (by kernel_rfl) (by kernel_rfl) (ls_ok (l := []) (by kernel_rfl) .nil) (by intro x; kernel_rfl)
abbrev p_goquery_Selection_AddNodes_b : Pt := [(0, .blkx 65 [.own, .fl .any, .fl .any]), (1, .lst .np), (2000000000, .hown 0 0 .np 70)]
abbrev q_goquery_Selection_AddNodes_b : Pt := [(0, .blkx 65 [.own, .fl .any, .fl .any]), (2000000000, .hown 0 0 .np 70)]
noncomputable def m_goquery_Selection_AddNodes_b : Tup p_goquery_Selection_AddNodes_b → Option (Tup q_goquery_Selection_AddNodes_b) := fun (x : (PUnit × PUnit × PUnit) × List (Option Nat) × List (Option Nat)) => Option.bind (m_goquery_appendWithoutDuplicates_small (x.2.2, x.2.1, ())) fun (r : List (Option Nat)) => Option.bind (m_goquery_pushStack_b (((), (), ()), r)) fun (r : (PUnit × PUnit × PUnit) × List (Option Nat)) => some (((), (), ()), r.2)
noncomputable def cx_goquery_Selection_AddNodes_b : Cx := ⟨tb, lookE [(82, e_goquery_appendWithoutDuplicates_small), (72, e_goquery_pushStack_b)], lookS []⟩
theorem ck_goquery_Selection_AddNodes_b : CxOK Tryz.prog (cx_goquery_Selection_AddNodes_b) := cx_ok tb_ok (.cons ok_goquery_appendWithoutDuplicates_small Tryz.call82 (.cons ok_goquery_pushStack_b Tryz.call72 .nil))
noncomputable def e_goquery_Selection_AddNodes_b : Ent := ⟨0, p_goquery_Selection_AddNodes_b, q_goquery_Selection_AddNodes_b, m_goquery_Selection_AddNodes_b⟩
theorem ok_goquery_Selection_AddNodes_b : FnOK Tryz.prog 51 e_goquery_Selection_AddNodes_b := fn_ok (L := lookL []) ck_goquery_Selection_AddNodes_b mixed Tryz.func51 rfl (by kernel_rfl) (by kernel_rfl) (ls_ok (l := []) (by kernel_rfl) .nil) (by intro x; kernel_rfl)
abbrev p_goquery_Selection_AddNodes_c : Pt := [(0, .fp (.rc .nil [] 2)), (1, .lst .np)]
abbrev q_goquery_Selection_AddNodes_c : Pt := [(0, .blkx 65 [.own, .fl .any, .fl .any]), (2000000000, .hown 0 0 .np 70)]
noncomputable def m_goquery_Selection_AddNodes_c : Tup p_goquery_Selection_AddNodes_c → Option (Tup q_goquery_Selection_AddNodes_c) := fun (x : PUnit × List (Option Nat)) => Option.bind (m_goquery_appendWithoutDuplicates_small ([], x.2, ())) fun (r : List (Option Nat)) => Option.bind (m_goquery_pushStack_o ([], r)) fun (r : (PUnit × PUnit × PUnit) × List (Option Nat)) => some (((), (), ()), r.2)
noncomputable def cx_goquery_Selection_AddNodes_c : Cx := ⟨tb, lookE [(82, e_goquery_appendWithoutDuplicates_small), (72, e_goquery_pushStack_o)], lookS []⟩
theorem ck_goquery_Selection_AddNodes_c : CxOK Tryz.prog (cx_goquery_Selection_AddNodes_c) := cx_ok tb_ok (.cons ok_goquery_appendWithoutDuplicates_small Tryz.call82 (.cons ok_goquery_pushStack_o Tryz.call72 .nil))
noncomputable def e_goquery_Selection_AddNodes_c : Ent := ⟨0, p_goquery_Selection_AddNodes_c, q_goquery_Selection_AddNodes_c, m_goquery_Selection_AddNodes_c⟩
theorem ok_goquery_Selection_AddNodes_c : FnOK Tryz.prog 51 e_goquery_Selection_AddNodes_c := fn_ok (L := lookL []) ck_goquery_Selection_AddNodes_c mixed Tryz.func51 rfl (by kernel_rfl) (by kernel_rfl) (ls_ok (l := []) (by kernel_rfl) .nil) (by intro x; kernel_rfl)
abbrev p_goquery_Selection_AddSelection_b : Pt := [(0, .blkx 65 [.own, .fl .any, .fl .any]), (1, .fp (.rc .nps [] 2)), (2000000000, .hown 0 0 .np 70)]
abbrev q_goquery_Selection_AddSelection_b : Pt := [(0, .blkx 65 [.own, .fl .any, .fl .any]), (2000000000, .hown 0 0 .np 70)]
noncomputable def m_goquery_Selection_AddSelection_b : Tup p_goquery_Selection_AddSelection_b → Option (Tup q_goquery_Selection_AddSelection_b) := fun (x : (PUnit × PUnit × PUnit) × List (Option Nat) × List (Option Nat)) => Option.bind (m_goquery_Selection_AddNodes_b (((), (), ()), x.2.1, x.2.2)) fun (r : (PUnit × PUnit × PUnit) × List (Option Nat)) => some (((), (), ()), r.2)
noncomputable def cx_goquery_Selection_AddSelection_b : Cx := ⟨tb, lookE [(51, e_goquery_Selection_AddNodes_b)], lookS []⟩
theorem ck_goquery_Selection_AddSelection_b : CxOK Tryz.prog (cx_goquery_Selection_AddSelection_b) := cx_ok tb_ok (.cons ok_goquery_Selection_AddNodes_b Tryz.call51 .nil)
noncomputable def e_goquery_Selection_AddSelection_b : Ent := ⟨0, p_goquery_Selection_AddSelection_b, q_goquery_Selection_AddSelection_b, m_goquery_Selection_AddSelection_b⟩
theorem ok_goquery_Selection_AddSelection_b : FnOK Tryz.prog 83 e_goquery_Selection_AddSelection_b := fn_ok (L := lookL []) ck_goquery_Selection_AddSelection_b mixed Tryz.func83 rfl (by kernel_rfl) (by kernel_rfl) (ls_ok (l := []) (by kernel_rfl) .nil) (by intro x; kernel_rfl)
abbrev p_goquery_Selection_Union_b : Pt := [(0, .blkx 65 [.own, .fl .any, .fl .any]), (1, .fp (.rc .nps [] 2)), (2000000000, .hown 0 0 .np 70)]
abbrev q_goquery_Selection_Union_b : Pt := [(0, .blkx 65 [.own, .fl .any, .fl .any]), (2000000000, .hown 0 0 .np 70)]
noncomputable def m_goquery_Selection_Union_b : Tup p_goquery_Selection_Union_b → Option (Tup q_goquery_Selection_Union_b) := fun (x : (PUnit × PUnit × PUnit) × List (Option Nat) × List (Option Nat)) => Option.bind (m_goquery_Selection_AddSelection_b (((), (), ()), x.2.1, x.2.2)) fun (r : (PUnit × PUnit × PUnit) × List (Option Nat)) => some (((), (), ()), r.2)
noncomputable def cx_goquery_Selection_Union_b : Cx := ⟨tb, lookE [(83, e_goquery_Selection_AddSelection_b)], lookS []⟩
theorem ck_goquery_Selection_Union_b : CxOK Tryz.prog (cx_goquery_Selection_Union_b) := cx_ok tb_ok (.cons ok_goquery_Selection_AddSelection_b Tryz.call83 .nil)
noncomputable def e_goquery_Selection_Union_b : Ent := ⟨0, p_goquery_Selection_Union_b, q_goquery_Selection_Union_b, m_goquery_Selection_Union_b⟩
theorem ok_goquery_Selection_Union_b : FnOK Tryz.prog 52 e_goquery_Selection_Union_b := fn_ok (L := lookL []) ck_goquery_Selection_Union_b mixed Tryz.func52 rfl (by kernel_rfl) (by kernel_rfl) (ls_ok (l := []) (by kernel_rfl) .nil) (by intro x; kernel_rfl)
abbrev p_goquery_winnowNodes : Pt := [(0, .fp (.rc .nps [] 2)), (1, .lst .np), (2, .bool)]
abbrev q_goquery_winnowNodes : Pt := [(0, .own .np 70)]
abbrev p_goquery_winnowNodes_0 : Pt := [(1, .lst .np), (2, .bool), (7, .own .np 70), (28, .lst .np), (29, .int .i64), (30, .int .i64)]
abbrev x_goquery_winnowNodes_0 : List (Xt × Pt) := [(.ex 0, [(7, .own .np 70)])]
noncomputable def m_goquery_winnowNodes_0 : Tup p_goquery_winnowNodes_0 → Option (Stp (Tup p_goquery_winnowNodes_0) (SumT (x_goquery_winnowNodes_0.map (·.2)))) := fun (x : List (Option Nat) × Bool × List (Option Nat) × List (Option Nat) × Int × Int) => bif decide (x.2.2.2.2.2 < x.2.2.2.2.1) then Option.bind (atI x.2.2.2.1 x.2.2.2.2.2) fun (v : Option Nat) => Option.bind (m_goquery_isInSlice (x.1, v)) fun (r : Bool) => bif r == x.2.1 then Option.bind (appL x.2.2.1 [v]) fun (r : List (Option Nat)) => some (Stp.nx (x.1, x.2.1, r, x.2.2.2.1, x.2.2.2.2.1, IntKind.wrap .i64 (x.2.2.2.2.2 + (1 : Int)))) else some (Stp.nx (x.1, x.2.1, x.2.2.1, x.2.2.2.1, x.2.2.2.2.1, IntKind.wrap .i64 (x.2.2.2.2.2 + (1 : Int)))) else some (Stp.out x.2.2.1)
abbrev p_goquery_winnowNodes_1 : Pt := [(0, .fp (.rc .nps [] 2)), (2, .bool), (10, .mp), (48, .lst .np), (49, .int .i64), (50, .int .i64)]
abbrev x_goquery_winnowNodes_1 : List (Xt × Pt) := [(.ex 2, [(0, .fp (.rc .nps [] 2)), (2, .bool), (10, .mp)])]
noncomputable def m_goquery_winnowNodes_1 : Tup p_goquery_winnowNodes_1 → Option (Stp (Tup p_goquery_winnowNodes_1) (SumT (x_goquery_winnowNodes_1.map (·.2)))) := fun (x : List (Option Nat) × Bool × List (Option Nat × Bool) × List (Option Nat) × Int × Int) => bif decide (x.2.2.2.2.2 < x.2.2.2.2.1) then Option.bind (atI x.2.2.2.1 x.2.2.2.2.2) fun (v : Option Nat) => some (Stp.nx (x.1, x.2.1, mput x.2.2.1 v true, x.2.2.2.1, x.2.2.2.2.1, IntKind.wrap .i64 (x.2.2.2.2.2 + (1 : Int)))) else some (Stp.out (x.1, x.2.1, x.2.2.1))
abbrev p_goquery_winnowNodes_2 : Pt := [(2, .bool), (10, .mp), (13, .own .np 70), (60, .lst .np), (61, .int .i64), (62, .int .i64)]
abbrev x_goquery_winnowNodes_2 : List (Xt × Pt) := [(.ex 4, [(13, .own .np 70)])]
noncomputable def m_goquery_winnowNodes_2 : Tup p_goquery_winnowNodes_2 → Option (Stp (Tup p_goquery_winnowNodes_2) (SumT (x_goquery_winnowNodes_2.map (·.2)))) := fun (x : Bool × List (Option Nat × Bool) × List (Option Nat) × List (Option Nat) × Int × Int) => bif decide (x.2.2.2.2.2 < x.2.2.2.2.1) then Option.bind (atI x.2.2.2.1 x.2.2.2.2.2) fun (v : Option Nat) => bif mget x.2.1 v == x.1 then Option.bind (appL x.2.2.1 [v]) fun (r : List (Option Nat)) => some (Stp.nx (x.1, x.2.1, r, x.2.2.2.1, x.2.2.2.2.1, IntKind.wrap .i64 (x.2.2.2.2.2 + (1 : Int)))) else some (Stp.nx (x.1, x.2.1, x.2.2.1, x.2.2.2.1, x.2.2.2.2.1, IntKind.wrap .i64 (x.2.2.2.2.2 + (1 : Int)))) else some (Stp.out x.2.2.1)
noncomputable def m_goquery_winnowNodes : Tup p_goquery_winnowNodes → Option (Tup q_goquery_winnowNodes) := fun (x : List (Option Nat) × List (Option Nat) × Bool) => bif decide (IntKind.wrap .i64 ((↑(List.length x.2.1) : Int) + (↑(List.length x.1) : Int)) < (1000 : Int)) then Option.bind (loopO m_goquery_winnowNodes_0 (x.2.1, x.2.2, [], x.1, (↑(List.length x.1) : Int), (0 : Int))) fun (y : List (Option Nat)) => some y else Option.bind (loopO m_goquery_winnowNodes_1 (x.1, x.2.2, [], x.2.1, (↑(List.length x.2.1) : Int), (0 : Int))) fun (y : List (Option Nat) × Bool × List (Option Nat × Bool)) => Option.bind (loopO m_goquery_winnowNodes_2 (y.2.1, y.2.2, [], y.1, (↑(List.length y.1) : Int), (0 : Int))) fun (y : List (Option Nat)) => some y
noncomputable def cx_goquery_winnowNodes : Cx := ⟨tb, lookE [(96, e_goquery_isInSlice)], lookS []⟩
theorem ck_goquery_winnowNodes : CxOK Tryz.prog (cx_goquery_winnowNodes) := cx_ok tb_ok (.cons ok_goquery_isInSlice Tryz.call96 .nil)
noncomputable def c_goquery_winnowNodes_0 : Code := loopAt (Go.Proofs.Tryz.f76.body.getD .skip) 0
noncomputable def l_goquery_winnowNodes_0 : LEnt := ⟨p_goquery_winnowNodes_0, x_goquery_winnowNodes_0, loopO (m_goquery_winnowNodes_0)⟩
theorem lo_goquery_winnowNodes_0 : LOK Tryz.prog 77 0 false (l_goquery_winnowNodes_0) c_goquery_winnowNodes_0 := loop_ok (body := m_goquery_winnowNodes_0) (L := lookL []) (ck_goquery_winnowNodes) mixed (ls_ok (l := []) (by kernel_rfl) .nil) (by intro x; kernel_rfl) (fun x y h => loopO_iff.1 h)
noncomputable def c_goquery_winnowNodes_1 : Code := loopAt (Go.Proofs.Tryz.f76.body.getD .skip) 1
noncomputable def l_goquery_winnowNodes_1 : LEnt := ⟨p_goquery_winnowNodes_1, x_goquery_winnowNodes_1, loopO (m_goquery_winnowNodes_1)⟩
theorem lo_goquery_winnowNodes_1 : LOK Tryz.prog 77 0 false (l_goquery_winnowNodes_1) c_goquery_winnowNodes_1 := loop_ok (body := m_goquery_winnowNodes_1) (L := lookL []) (ck_goquery_winnowNodes) mixed (ls_ok (l := []) (by kernel_rfl) .nil) (by intro x; kernel_rfl) (fun x y h => loopO_iff.1 h)
noncomputable def c_goquery_winnowNodes_2 : Code := loopAt (Go.Proofs.Tryz.f76.body.getD .skip) 2
noncomputable def l_goquery_winnowNodes_2 : LEnt := ⟨p_goquery_winnowNodes_2, x_goquery_winnowNodes_2, loopO (m_goquery_winnowNodes_2)⟩
theorem lo_goquery_winnowNodes_2 : LOK Tryz.prog 77 0 false (l_goquery_winnowNodes_2) c_goquery_winnowNodes_2 := loop_ok (body := m_goquery_winnowNodes_2) (L := lookL []) (ck_goquery_winnowNodes) mixed (ls_ok (l := []) (by kernel_rfl) .nil) (by intro x; kernel_rfl) (fun x y h => loopO_iff.1 h)
noncomputable def e_goquery_winnowNodes : Ent := ⟨0, p_goquery_winnowNodes, q_goquery_winnowNodes, m_goquery_winnowNodes⟩
theorem ok_goquery_winnowNodes : FnOK Tryz.prog 76 e_goquery_winnowNodes := fn_ok (L := lookL [(0, l_goquery_winnowNodes_0), (2, l_goquery_winnowNodes_1), (4, l_goquery_winnowNodes_2)]) ck_goquery_winnowNodes mixed Tryz.func76 rfl (by kernel_rfl) (by kernel_rfl) (ls_ok (l := [(0, c_goquery_winnowNodes_0), (2, c_goquery_winnowNodes_1), (4, c_goquery_winnowNodes_2)]) (by kernel_rfl) (.cons rfl (lo_goquery_winnowNodes_0) (.cons rfl (lo_goquery_winnowNodes_1) (.cons rfl (lo_goquery_winnowNodes_2) .nil)))) (by intro x; kernel_rfl)
abbrev p_goquery_Selection_FilterSelection_b : Pt := [(0, .fp (.rc .nps [] 2)), (1, .fp (.rc .nps [] 2))]
abbrev q_goquery_Selection_FilterSelection_b : Pt := [(0, .blkx 65 [.own, .fl .any, .fl .any]), (2000000000, .hown 0 0 .np 70)]
noncomputable def m_goquery_Selection_FilterSelection_b : Tup p_goquery_Selection_FilterSelection_b → Option (Tup q_goquery_Selection_FilterSelection_b) := fun (x : List (Option Nat) × List (Option Nat)) => Option.bind (m_goquery_winnowNodes (x.1, x.2, true)) fun (r : List (Option Nat)) => Option.bind (m_goquery_pushStack_o (x.1, r)) fun (r : (PUnit × PUnit × PUnit) × List (Option Nat)) => some (((), (), ()), r.2)
noncomputable def cx_goquery_Selection_FilterSelection_b : Cx := ⟨tb, lookE [(76, e_goquery_winnowNodes), (72, e_goquery_pushStack_o)], lookS []⟩
theorem ck_goquery_Selection_FilterSelection_b : CxOK Tryz.prog (cx_goquery_Selection_FilterSelection_b) := cx_ok tb_ok (.cons ok_goquery_winnowNodes Tryz.call76 (.cons ok_goquery_pushStack_o Tryz.call72 .nil))
noncomputable def e_goquery_Selection_FilterSelection_b : Ent := ⟨0, p_goquery_Selection_FilterSelection_b, q_goquery_Selection_FilterSelection_b, m_goquery_Selection_FilterSelection_b⟩
theorem ok_goquery_Selection_FilterSelection_b : FnOK Tryz.prog 84 e_goquery_Selection_FilterSelection_b := fn_ok (L := lookL []) ck_goquery_Selection_FilterSelection_b mixed Tryz.func84 rfl (by kernel_rfl) (by kernel_rfl) (ls_ok (l := []) (by kernel_rfl) .nil) (by intro x; kernel_rfl)
abbrev p_goquery_Selection_Intersection_b : Pt := [(0, .fp (.rc .nps [] 2)), (1, .fp (.rc .nps [] 2))]
abbrev q_goquery_Selection_Intersection_b : Pt := [(0, .blkx 65 [.own, .fl .any, .fl .any]), (2000000000, .hown 0 0 .np 70)]
noncomputable def m_goquery_Selection_Intersection_b : Tup p_goquery_Selection_Intersection_b → Option (Tup q_goquery_Selection_Intersection_b) := fun (x : List (Option Nat) × List (Option Nat)) => Option.bind (m_goquery_Selection_FilterSelection_b (x.1, x.2)) fun (r : (PUnit × PUnit × PUnit) × List (Option Nat)) => some (((), (), ()), r.2)
noncomputable def cx_goquery_Selection_Intersection_b : Cx := ⟨tb, lookE [(84, e_goquery_Selection_FilterSelection_b)], lookS []⟩
theorem ck_goquery_Selection_Intersection_b : CxOK Tryz.prog (cx_goquery_Selection_Intersection_b) := cx_ok tb_ok (.cons ok_goquery_Selection_FilterSelection_b Tryz.call84 .nil)
noncomputable def e_goquery_Selection_Intersection_b : Ent := ⟨0, p_goquery_Selection_Intersection_b, q_goquery_Selection_Intersection_b, m_goquery_Selection_Intersection_b⟩
theorem ok_goquery_Selection_Intersection_b : FnOK Tryz.prog 54 e_goquery_Selection_Intersection_b := fn_ok (L := lookL []) ck_goquery_Selection_Intersection_b mixed Tryz.func54 rfl (by kernel_rfl) (by kernel_rfl) (ls_ok (l := []) (by kernel_rfl) .nil) (by intro x; kernel_rfl)
abbrev p_impl_set : Pt := [(0, .any), (1, .lst .np)]
abbrev q_impl_set : Pt := [(0, .fp (.rc .nps [] 2))]
noncomputable def m_impl_set : Tup p_impl_set → Option (Tup q_impl_set) := fun (x : PUnit × List (Option Nat)) => some x.2
noncomputable def cx_impl_set : Cx := ⟨tb, lookE [], lookS []⟩
theorem ck_impl_set : CxOK Tryz.prog (cx_impl_set) := cx_ok tb_ok .nil
noncomputable def e_impl_set : Ent := ⟨0, p_impl_set, q_impl_set, m_impl_set⟩
theorem ok_impl_set : FnOK Tryz.prog 53 e_impl_set := fn_ok (L := lookL []) ck_impl_set mixed Tryz.func53 rfl (by kernel_rfl) (by kernel_rfl) (ls_ok (l := []) (by kernel_rfl) .nil) (by intro x; kernel_rfl)
abbrev p_impl_bySet_b : Pt := [(0, .blkx 65 [.own, .fl .any, .fl .any]), (1, .el (.rc (.int .i64) [.str, .ints, (.int .i64), (.int .i64)] 0)), (2, .lst .np), (2000000000, .hown 0 0 .np 70)]
abbrev q_impl_bySet_b : Pt := [(0, .blkx 65 [.own, .fl .any, .fl .any]), (2000000000, .hown 0 0 .np 70)]
noncomputable def m_impl_bySet_b : Tup p_impl_bySet_b → Option (Tup q_impl_bySet_b) := fun (x : (PUnit × PUnit × PUnit) × (Int × List UInt8 × List Int × Int × Int) × List (Option Nat) × List (Option Nat)) => bif decide (x.2.1.1 = (2 : Int)) then none else bif decide (x.2.1.1 = (4 : Int)) then none else bif decide (x.2.1.1 = (6 : Int)) then none else bif decide (x.2.1.1 = (8 : Int)) then none else bif decide (x.2.1.1 = (10 : Int)) then none else bif decide (x.2.1.1 = (11 : Int)) then none else bif decide (x.2.1.1 = (24 : Int)) then none else bif decide (x.2.1.1 = (27 : Int)) then none else bif decide (x.2.1.1 = (30 : Int)) then none else bif decide (x.2.1.1 = (37 : Int)) then Option.bind (m_goquery_Selection_AddNodes_b (((), (), ()), x.2.2.1, x.2.2.2)) fun (r : (PUnit × PUnit × PUnit) × List (Option Nat)) => some (((), (), ()), r.2) else bif decide (x.2.1.1 = (38 : Int)) then Option.bind (m_impl_set ((), x.2.2.1)) fun (r : List (Option Nat)) => Option.bind (m_goquery_Selection_Union_b (((), (), ()), r, x.2.2.2)) fun (r : (PUnit × PUnit × PUnit) × List (Option Nat)) => some (((), (), ()), r.2) else bif decide (x.2.1.1 = (39 : Int)) then Option.bind (m_impl_set ((), x.2.2.1)) fun (r : List (Option Nat)) => Option.bind (m_goquery_Selection_Intersection_b (x.2.2.2, r)) fun (r : (PUnit × PUnit × PUnit) × List (Option Nat)) => some (((), (), ()), r.2) else bif decide (x.2.1.1 = (40 : Int)) then none else none
noncomputable def cx_impl_bySet_b : Cx := ⟨tb, lookE [(51, e_goquery_Selection_AddNodes_b), (53, e_impl_set), (52, e_goquery_Selection_Union_b), (54, e_goquery_Selection_Intersection_b)], lookS []⟩
theorem ck_impl_bySet_b : CxOK Tryz.prog (cx_impl_bySet_b) := cx_ok tb_ok (.cons ok_goquery_Selection_AddNodes_b Tryz.call51 (.cons ok_impl_set Tryz.call53 (.cons ok_goquery_Selection_Union_b Tryz.call52 (.cons ok_goquery_Selection_Intersection_b Tryz.call54 .nil))))
noncomputable def e_impl_bySet_b : Ent := ⟨0, p_impl_bySet_b, q_impl_bySet_b, m_impl_bySet_b⟩
theorem ok_impl_bySet_b : FnOK Tryz.prog 32 e_impl_bySet_b := fn_ok (L := lookL []) ck_impl_bySet_b mixed Tryz.func32 rfl (by kernel_rfl) (by kernel_rfl) (ls_ok (l := []) (by kernel_rfl) .nil) (by intro x; kernel_rfl)
abbrev p_impl_among_b : Pt := [(0, .lst .np), (1, .lst .int), (2, .bool)]
abbrev q_impl_among_b : Pt := [(0, .blkx 65 [.own, .fl .any, .fl .any]), (1, .lst .np), (2, .bool), (2000000000, .hown 0 0 .np 70)]
noncomputable def m_impl_among_b : Tup p_impl_among_b → Option (Tup q_impl_among_b) := fun (x : List (Option Nat) × List Int × Bool) => Option.bind (m_impl_these (x.1, x.2.1)) fun (r : List (Option Nat) × Bool) => bif !x.2.2 then none else bif !r.2 then none else Option.bind (atI x.1 (0 : Int)) fun (v : Option Nat) => Option.bind (m_goquery_NewDocumentFromNode v) fun (r_1 : List (Option Nat) × Option Nat) => Option.bind (m_goquery_Selection_Eq_nil (r_1.1, (1 : Int))) fun (r_2 : PUnit) => Option.bind (m_goquery_Selection_AddNodes_c ((), r.1)) fun (r : (PUnit × PUnit × PUnit) × List (Option Nat)) => some (((), (), ()), x.1, true, r.2)
noncomputable def cx_impl_among_b : Cx := ⟨tb, lookE [(31, e_impl_these), (70, e_goquery_NewDocumentFromNode), (71, e_goquery_Selection_Eq_nil), (51, e_goquery_Selection_AddNodes_c)], lookS []⟩
theorem ck_impl_among_b : CxOK Tryz.prog (cx_impl_among_b) := cx_ok tb_ok (.cons ok_impl_these Tryz.call31 (.cons ok_goquery_NewDocumentFromNode Tryz.call70 (.cons ok_goquery_Selection_Eq_nil Tryz.call71 (.cons ok_goquery_Selection_AddNodes_c Tryz.call51 .nil))))
noncomputable def e_impl_among_b : Ent := ⟨0, p_impl_among_b, q_impl_among_b, m_impl_among_b⟩
theorem ok_impl_among_b : FnOK Tryz.prog 41 e_impl_among_b := fn_ok (L := lookL []) ck_impl_among_b mixed Tryz.func41 rfl (by kernel_rfl) (by kernel_rfl) (ls_ok (l := []) (by kernel_rfl) .nil) (by intro x; kernel_rfl)
abbrev p_impl_chosen_b : Pt := [(0, .lst .node), (1, .lst .int), (NT, .ns .h 94 114)]
abbrev q_impl_chosen_b : Pt := [(0, .blkx 65 [.own, .fl .any, .fl .any]), (1, .lst .np), (2, .bool), (2000000000, .hown 0 0 .np 70), (NT, .ns .h 94 114)]
noncomputable def m_impl_chosen_b : Tup p_impl_chosen_b → Option (Tup q_impl_chosen_b) := fun (x : List Node × List Int × List HN) => Option.bind (m_impl_grown (x.1, x.2.2)) fun (r : List (Option Nat) × Bool × List HN) => Option.bind (m_impl_among_b (r.1, x.2.1, r.2.1)) fun (r_1 : (PUnit × PUnit × PUnit) × List (Option Nat) × Bool × List (Option Nat)) => some (((), (), ()), r_1.2.1, r_1.2.2.1, r_1.2.2.2, r.2.2)
noncomputable def cx_impl_chosen_b : Cx := ⟨tb, lookE [(40, e_impl_grown), (41, e_impl_among_b)], lookS []⟩
theorem ck_impl_chosen_b : CxOK Tryz.prog (cx_impl_chosen_b) := cx_ok tb_ok (.cons ok_impl_grown Tryz.call40 (.cons ok_impl_among_b Tryz.call41 .nil))
noncomputable def e_impl_chosen_b : Ent := ⟨0, p_impl_chosen_b, q_impl_chosen_b, m_impl_chosen_b⟩
theorem ok_impl_chosen_b : FnOK Tryz.prog 30 e_impl_chosen_b := fn_ok (L := lookL []) ck_impl_chosen_b mixed Tryz.func30 rfl (by kernel_rfl) (by kernel_rfl) (ls_ok (l := []) (by kernel_rfl) .nil) (by intro x; kernel_rfl)
end Go.Proofs.YtfjhibplplcjjaaGreat.V
set_option linter.unusedVariables false
set_option linter.unusedSimpArgs false
namespace Go.Proofs.YtfjhibplplcjjaaGreat.V
open Go Go.Proofs
abbrev p_impl_Walked : Pt := [(0, .lst .node), (1, .lst .int), (2, .lst (.rc (.int .i64) [.str, .ints, (.int .i64), (.int .i64)] 0)), (NT, .ns .h 94 114)]
abbrev q_impl_Walked : Pt := [(0, .lst (.rc .ints [] 0)), (1, .bool), (NT, .ns .h 94 114)]
abbrev p_impl_Walked_0 : Pt := [(6, .own (.rc .ints [] 0) 23), (8, .blkx 65 [.own, .fl .any, .fl .any]), (9, .lst .np), (25, .lst (.rc (.int .i64) [.str, .ints, (.int .i64), (.int .i64)] 0)), (26, .int .i64), (27, .int .i64), (NT, .ns .h 94 114), (2000000512, .hown 8 0 .np 70)]
abbrev x_impl_Walked_0 : List (Xt × Pt) := [(.ex 0, [(6, .own (.rc .ints [] 0) 23), (NT, .ns .h 94 114)]), (.rt, [(6, .own (.rc .ints [] 0) 23), (7, .bool), (NT, .ns .h 94 114)])]
noncomputable def m_impl_Walked_0 : Tup p_impl_Walked_0 → Option (Stp (Tup p_impl_Walked_0) (SumT (x_impl_Walked_0.map (·.2)))) := fun (x : List (List Int) × (PUnit × PUnit × PUnit) × List (Option Nat) × List (Int × List UInt8 × List Int × Int × Int) × Int × Int × List HN × List (Option Nat)) => bif decide (x.2.2.2.2.2.1 < x.2.2.2.2.1) then Option.bind (atI x.2.2.2.1 x.2.2.2.2.2.1) fun (v : Int × List UInt8 × List Int × Int × Int) => Option.bind (m_impl_these (x.2.2.1, v.2.2.1)) fun (r : List (Option Nat) × Bool) => bif !r.2 then some (Stp.out (Sum.inr ([], false, x.2.2.2.2.2.2.1))) else Option.bind (m_impl_bySet_b (((), (), ()), (v.1, v.2.1, v.2.2.1, v.2.2.2.1, v.2.2.2.2), r.1, x.2.2.2.2.2.2.2)) fun (r : (PUnit × PUnit × PUnit) × List (Option Nat)) => Option.bind (m_impl_placesOf (x.2.2.1, r.2)) fun (r_1 : List Int) => Option.bind (appL x.1 [r_1]) fun (r_2 : List (List Int)) => some (Stp.nx (r_2, ((), (), ()), x.2.2.1, x.2.2.2.1, x.2.2.2.2.1, IntKind.wrap .i64 (x.2.2.2.2.2.1 + (1 : Int)), x.2.2.2.2.2.2.1, r.2)) else some (Stp.out (Sum.inl (x.1, x.2.2.2.2.2.2.1)))
noncomputable def m_impl_Walked : Tup p_impl_Walked → Option (Tup q_impl_Walked) := fun (x : List Node × List Int × List (Int × List UInt8 × List Int × Int × Int) × List HN) => Option.bind (m_impl_chosen_b (x.1, x.2.1, x.2.2.2)) fun (r : (PUnit × PUnit × PUnit) × List (Option Nat) × Bool × List (Option Nat) × List HN) => bif !r.2.2.1 then some ([], false, r.2.2.2.2) else Option.bind (loopO m_impl_Walked_0 ([], ((), (), ()), r.2.1, x.2.2.1, (↑(List.length x.2.2.1) : Int), (0 : Int), r.2.2.2.2, r.2.2.2.1)) fun (y : List (List Int) × List HN ⊕ List (List Int) × Bool × List HN) => selim (fun (y : List (List Int) × List HN) => some (y.1, true, y.2)) (fun (y : List (List Int) × Bool × List HN) => some (y.1, y.2.1, y.2.2)) y
noncomputable def cx_impl_Walked : Cx := ⟨tb, lookE [(30, e_impl_chosen_b), (31, e_impl_these), (32, e_impl_bySet_b), (34, e_impl_placesOf)], lookS []⟩
theorem ck_impl_Walked : CxOK Tryz.prog (cx_impl_Walked) := cx_ok tb_ok (.cons ok_impl_chosen_b Tryz.call30 (.cons ok_impl_these Tryz.call31 (.cons ok_impl_bySet_b Tryz.call32 (.cons ok_impl_placesOf Tryz.call34 .nil))))
noncomputable def c_impl_Walked_0 : Code := loopAt (Go.Proofs.Tryz.f18.body.getD .skip) 0
noncomputable def l_impl_Walked_0 : LEnt := ⟨p_impl_Walked_0, x_impl_Walked_0, loopO (m_impl_Walked_0)⟩
theorem lo_impl_Walked_0 : LOK Tryz.prog 63 0 true (l_impl_Walked_0) c_impl_Walked_0 := loop_ok (body := m_impl_Walked_0) (L := lookL []) (ck_impl_Walked) mixed (ls_ok (l := []) (by kernel_rfl) .nil) (by intro x; kernel_rfl) (fun x y h => loopO_iff.1 h)
noncomputable def e_impl_Walked : Ent := ⟨0, p_impl_Walked, q_impl_Walked, m_impl_Walked⟩
theorem ok_impl_Walked : FnOK Tryz.prog 18 e_impl_Walked := fn_ok (L := lookL [(0, l_impl_Walked_0)]) ck_impl_Walked mixed Tryz.func18 rfl (by kernel_rfl) (by kernel_rfl) (ls_ok (l := [(0, c_impl_Walked_0)]) (by kernel_rfl) (.cons rfl (lo_impl_Walked_0) .nil)) (by intro x; kernel_rfl)
abbrev p_impl_Walked_f : Pt := [(0, .lst .node), (1, .lst .int), (2, .lst (.rc (.int .i64) [.str, .ints, (.int .i64), (.int .i64)] 0))]
abbrev q_impl_Walked_f : Pt := [(0, .lst (.rc .ints [] 0)), (1, .bool)]
noncomputable def m_impl_Walked_f : Tup p_impl_Walked_f → Option (Tup q_impl_Walked_f) := frT 0 p_impl_Walked_f q_impl_Walked_f .h 94 114 (m_impl_Walked)
noncomputable def e_impl_Walked_f : Ent := ⟨0, p_impl_Walked_f, q_impl_Walked_f, m_impl_Walked_f⟩
theorem ok_impl_Walked_f : FnOK Tryz.prog 18 e_impl_Walked_f := fresh_ok (np := 0) (p := p_impl_Walked_f) (q := q_impl_Walked_f) (m := m_impl_Walked) ok_impl_Walked (by kernel_rfl) (by kernel_rfl)
abbrev p_laws_goes7 : Pt := [(0, .lst .node), (1, .lst .int), (2, .lst (.rc (.int .i64) [.str, .ints, (.int .i64), (.int .i64)] 0))]
abbrev q_laws_goes7 : Pt := [(0, .lst .int), (1, .bool)]
noncomputable def m_laws_goes7 : Tup p_laws_goes7 → Option (Tup q_laws_goes7) := fun (x : List Node × List Int × List (Int × List UInt8 × List Int × Int × Int)) => Option.bind (m_impl_Walked_f (x.1, x.2.1, x.2.2)) fun (r : List (List Int) × Bool) => bif !r.2 then some ([], false) else bif decide ((↑(List.length r.1) : Int) ≠ (↑(List.length x.2.2) : Int)) then some ([], false) else bif decide ((↑(List.length x.2.2) : Int) = (0 : Int)) then some ([], false) else Option.bind (atI r.1 (IntKind.wrap .i64 ((↑(List.length r.1) : Int) - (1 : Int)))) fun (v : List Int) => some (v, true)
noncomputable def cx_laws_goes7 : Cx := ⟨tb, lookE [(18, e_impl_Walked_f)], lookS []⟩
theorem ck_laws_goes7 : CxOK Tryz.prog (cx_laws_goes7) := cx_ok tb_ok (.cons ok_impl_Walked_f Tryz.call18 .nil)
noncomputable def e_laws_goes7 : Ent := ⟨0, p_laws_goes7, q_laws_goes7, m_laws_goes7⟩
theorem ok_laws_goes7 : FnOK Tryz.prog 7 e_laws_goes7 := fn_ok (L := lookL []) ck_laws_goes7 mixed Tryz.func7 rfl (by kernel_rfl) (by kernel_rfl) (ls_ok (l := []) (by kernel_rfl) .nil) (by intro x; kernel_rfl)
abbrev p_laws_FnUnited : Pt := [(0, .lst .node), (1, .lst .int), (2, .lst .int), (3, .int .u8)]
abbrev q_laws_FnUnited : Pt := [(0, .bool)]
noncomputable def m_laws_FnUnited : Tup p_laws_FnUnited → Option (Tup q_laws_FnUnited) := fun (x : List Node × List Int × List Int × Int) => Option.bind (m_laws_zzFits1 x.1) fun (r : Bool) => bif !r then some true else bif decide ((2147483647 : Int) < (↑(List.length x.2.1) : Int)) then some true else bif decide ((2147483647 : Int) < (↑(List.length x.2.2.1) : Int)) then some true else Option.bind (m_laws_rising (x.1, x.2.1)) fun (r : Bool) => bif !r then some true else Option.bind (m_laws_rising (x.1, x.2.2.1)) fun (r : Bool) => bif !r then some true else Option.bind (remI x.2.2.2 (3 : Int)) fun (n : Int) => Option.bind (m_spec_Related (x.1, x.2.1, IntKind.wrap .i64 ((37 : Int) + IntKind.wrap .i64 n), [], x.2.2.1, (0 : Int), (0 : Int))) fun (r : List Int × Bool) => Option.bind (m_laws_goes7 (x.1, x.2.1, [(IntKind.wrap .i64 ((37 : Int) + IntKind.wrap .i64 n), [], x.2.2.1, (0 : Int), (0 : Int))])) fun (r_1 : List Int × Bool) => bif !r.2 then some false else bif !r_1.2 then some false else Option.bind (m_spec_SameOnce (r_1.1, r.1)) fun (r_2 : Bool) => bif !r_2 then some false else bif decide (IntKind.wrap .i64 ((37 : Int) + IntKind.wrap .i64 n) = (39 : Int)) then Option.bind (m_spec_SameList (r_1.1, r.1)) fun (r : Bool) => some r else Option.bind (subL r_1.1 (0 : Int) (if (↑(List.length x.2.1) : Int) < (↑(List.length r_1.1) : Int) then (↑(List.length x.2.1) : Int) else (↑(List.length r_1.1) : Int))) fun (m : List Int) => Option.bind (m_spec_SameList (m, x.2.1)) fun (r : Bool) => some r
noncomputable def cx_laws_FnUnited : Cx := ⟨tb, lookE [(4, e_laws_zzFits1), (5, e_laws_rising), (6, e_spec_Related), (7, e_laws_goes7), (8, e_spec_SameOnce), (9, e_spec_SameList)], lookS []⟩
theorem ck_laws_FnUnited : CxOK Tryz.prog (cx_laws_FnUnited) := cx_ok tb_ok (.cons ok_laws_zzFits1 Tryz.call4 (.cons ok_laws_rising Tryz.call5 (.cons ok_spec_Related Tryz.call6 (.cons ok_laws_goes7 Tryz.call7 (.cons ok_spec_SameOnce Tryz.call8 (.cons ok_spec_SameList Tryz.call9 .nil))))))
noncomputable def e_laws_FnUnited : Ent := ⟨0, p_laws_FnUnited, q_laws_FnUnited, m_laws_FnUnited⟩
theorem ok_laws_FnUnited : FnOK Tryz.prog 3 e_laws_FnUnited := fn_ok (L := lookL []) ck_laws_FnUnited mixed Tryz.func3 rfl (by kernel_rfl) (by kernel_rfl) (ls_ok (l := []) (by kernel_rfl) .nil) (by intro x; kernel_rfl)
end Go.Proofs.YtfjhibplplcjjaaGreat.V
set_option linter.unusedVariables false
set_option linter.unusedSimpArgs false
namespace Go.Proofs.YtfjhibplplcjjaaGreat.V
open Go
open Classical in
noncomputable def addAll {α : Type} (acc l : List α) : List α := l.foldl (fun a v => if v ∈ a then a else a ++ [v]) acc
section
variable {α : Type}
theorem addAll_nil (acc : List α) : addAll acc [] = acc := rfl
open Classical in
theorem addAll_cons (acc : List α) (v : α) (l : List α) : addAll acc (v :: l) = addAll (if v ∈ acc then acc else acc ++ [v]) l := rfl
theorem addAll_in {acc : List α} {v : α} (l : List α) (h : v ∈ acc) : addAll acc (v :: l) = addAll acc l := by rw [addAll_cons, if_pos h]
theorem addAll_out {acc : List α} {v : α} (l : List α) (h : v ∉ acc) : addAll acc (v :: l) = addAll (acc ++ [v]) l := by rw [addAll_cons, if_neg h]
theorem addAll_app (acc l m : List α) : addAll acc (l ++ m) = addAll (addAll acc l) m := by simp [addAll, List.foldl_append]
theorem addAll_len : ∀ (l acc : List α), (addAll acc l).length ≤ acc.length + l.length
  | [], acc => by simp [addAll_nil]
  | v :: l, acc => by
    rw [addAll_cons]
    refine Nat.le_trans (addAll_len l _) ?_
    split
    · simp
    · simp; omega
theorem addAll_mem {u : α} : ∀ {l acc : List α}, u ∈ addAll acc l ↔ u ∈ acc ∨ u ∈ l
  | [], acc => by simp [addAll_nil]
  | v :: l, acc => by
    rw [addAll_cons, addAll_mem]
    by_cases h : v ∈ acc
    · rw [if_pos h, List.mem_cons]
      constructor
      · rintro (h1 | h1)
        · exact .inl h1
        · exact .inr (.inr h1)
      · rintro (h1 | rfl | h1)
        · exact .inl h1
        · exact .inl h
        · exact .inr h1
    · rw [if_neg h, List.mem_append, List.mem_singleton, List.mem_cons, or_assoc]
theorem addAll_nodup : ∀ {l acc : List α}, acc.Nodup → (addAll acc l).Nodup
  | [], acc, h => h
  | v :: l, acc, h => by
    rw [addAll_cons]
    refine addAll_nodup ?_
    split
    · exact h
    · rename_i hv
      rw [List.nodup_append]
      refine ⟨h, by simp, fun a ha b hb => ?_⟩
      simp only [List.mem_singleton] at hb
      subst hb
      exact fun e => hv (e ▸ ha)
theorem addAll_new : ∀ {l acc : List α}, l.Nodup → (∀ v ∈ l, v ∉ acc) → addAll acc l = acc ++ l
  | [], acc, _, _ => by simp [addAll_nil]
  | v :: l, acc, hn, hd => by
    rw [List.nodup_cons] at hn
    rw [addAll_cons, if_neg (hd v (by simp)), addAll_new hn.2 fun u hu => ?_]
    · simp
    · rw [List.mem_append, List.mem_singleton]
      rintro (h | rfl)
      · exact hd u (by simp [hu]) h
      · exact hn.1 hu
theorem addAll_once {l : List α} (h : l.Nodup) : addAll [] l = l := by
  rw [addAll_new h (by simp)]
  rfl
end
theorem once_eq (l : List Int) (hl : l.length ≤ 1000000) : m_spec_once l = some (addAll [] l) := by
  simp only [m_spec_once]
  have key : ∀ C A, l = A ++ C → loopO m_spec_once_0 (l, addAll [] A, (A.length : Int)) = some (addAll [] l) := by
    intro C
    induction C with
    | nil =>
      intro A hA
      refine loopO_out ?_
      simp only [m_spec_once_0, cond_dec]
      rw [hA, List.append_nil, if_neg (by omega)]
    | cons c C ih =>
      intro A hA
      have hlen := congrArg List.length hA
      simp only [List.length_append, List.length_cons] at hlen
      have hc : l[A.length]? = some c := by rw [hA]; simp
      have hal := addAll_len A []
      simp only [List.length_nil, Nat.zero_add] at hal
      have ha : addAll [] (A ++ [c]) = addAll (addAll [] A) [c] := addAll_app _ _ _
      have step : m_spec_once_0 (l, addAll [] A, (A.length : Int)) = some (.nx (l, addAll [] (A ++ [c]), ((A ++ [c]).length : Int))) := by
        simp only [m_spec_once_0, cond_dec, atI_nat]
        rw [if_pos (by omega), hc, bind_some, in_eq _ _ (by omega), bind_some, w64 (by omega) (by omega), ha]
        by_cases hm : c ∈ addAll [] A
        · rw [decide_eq_true hm, addAll_in _ hm, addAll_nil]
          simp
        · rw [decide_eq_false hm, addAll_out _ hm, addAll_nil]
          simp only [Bool.not_false, cond_true, bind_some]
          rw [appL_some (by simp only [List.length_singleton]; omega), bind_some]
          simp
      rw [loopO_nx step]
      exact ih (A ++ [c]) (by rw [hA]; simp)
  rw [show loopO m_spec_once_0 (l, [], (0 : Int)) = some (addAll [] l) from key l [] rfl, bind_some]
theorem sameOnce_true (a b : List Int) (ha : a.length ≤ 1000000) (hb : b.length = a.length) (hn : a.Nodup) (h : ∀ v ∈ a, v ∈ b) : m_spec_SameOnce (a, b) = some true := by
  simp only [m_spec_SameOnce, cond_dec]
  rw [if_neg (by omega), once_eq a ha, bind_some, addAll_once hn, if_neg (by simp)]
  have hl := loop_all (body := m_spec_SameOnce_0) a (fun v => decide (v ∈ b)) (fun k => (a, b, (k : Int))) (.inl ()) (.inr false) (fun k u hu => by
    have hk := (List.getElem?_eq_some_iff.1 hu).1
    simp only [m_spec_SameOnce_0, cond_dec, atI_nat]
    rw [if_pos (by omega), hu, bind_some, in_eq _ _ (by omega), bind_some, w64 (by omega) (by omega)]
    cases decide (u ∈ b) <;> rfl) (by
    simp only [m_spec_SameOnce_0, cond_dec]
    rw [if_neg (by omega)]) 0 (Nat.zero_le _)
  rw [show loopO m_spec_SameOnce_0 (a, b, (0 : Int)) = _ from hl, bind_some, List.drop_zero]
  have e : (a.all fun v => decide (v ∈ b)) = true := List.all_eq_true.2 fun v hv => decide_eq_true (h v hv)
  rw [e]
  rfl
theorem isPlace_eq (l : List Int) (v : Int) (hl : l.length ≤ 2147483647) : m_laws_isPlace (l, v) = some (decide (v ∈ l)) := by
  simp only [m_laws_isPlace]
  have h := loop_all (body := m_laws_isPlace_0) l (fun x => !decide (x = v)) (fun k => (l, v, (k : Int))) (.inl ()) (.inr true) (fun k u hu => by
    have hk := (List.getElem?_eq_some_iff.1 hu).1
    simp only [m_laws_isPlace_0, cond_dec, atI_nat]
    rw [if_pos (by omega), hu, bind_some, w64 (by omega) (by omega)]
    by_cases e : u = v
    · rw [if_pos e, decide_eq_true e]; rfl
    · rw [if_neg e, decide_eq_false e]; rfl) (by
    simp only [m_laws_isPlace_0, cond_dec]
    rw [if_neg (by omega)]) 0 (Nat.zero_le _)
  rw [show loopO m_laws_isPlace_0 (l, v, (0 : Int)) = _ from h, bind_some, List.drop_zero]
  have e : (l.all fun x => !decide (x = v)) = !decide (v ∈ l) := by
    rw [Bool.eq_iff_iff]
    simp only [List.all_eq_true, Bool.not_eq_true', decide_eq_false_iff_not]
    constructor
    · intro h hv; exact h v hv rfl
    · intro h x hx e; exact h (e ▸ hx)
  rw [e]
  cases decide (v ∈ l) <;> rfl
theorem elements_ex (t : List Node) (l : List Int) (hl : l.length ≤ 2147483647) (ht : t.length ≤ 2147483647) : ∃ b, m_laws_elements (t, l) = some b ∧ (b = true → ∀ v ∈ l, 0 ≤ v ∧ v < t.length ∧ kindN t v.toNat = 3) := by
  simp only [m_laws_elements]
  obtain ⟨y, h, q1, q2⟩ := loopO_rule (body := m_laws_elements_0) (fun x => ∃ k : Nat, x = (t, l, (k : Int)) ∧ k ≤ l.length ∧ ∀ (i : Nat) (v : Int), i < k → l[i]? = some v → 0 ≤ v ∧ v < t.length ∧ kindN t v.toNat = 3) (fun _ y => (y = .inl () → ∀ v ∈ l, 0 ≤ v ∧ v < t.length ∧ kindN t v.toNat = 3) ∧ ∀ b, y = .inr b → b = false) (fun x => ((l.length : Int) - x.2.2).toNat) (fun x hx => by
    obtain ⟨k, rfl, hk, h1⟩ := hx
    simp only [m_laws_elements_0, cond_dec, atI_nat]
    split
    · rename_i h3
      obtain ⟨v, hv⟩ := get_lt (l := l) (k := k) (by omega)
      rw [hv]
      simp only [bind_some]
      split
      · exact .inl ⟨_, rfl, (fun h => by cases h), fun b h => by cases h; rfl⟩
      · split
        · exact .inl ⟨_, rfl, (fun h => by cases h), fun b h => by cases h; rfl⟩
        · rename_i h4 h5
          obtain ⟨n, rfl⟩ := Int.eq_ofNat_of_zero_le (by omega : 0 ≤ v)
          obtain ⟨u, hu⟩ := get_lt (l := t) (k := n) (by omega)
          rw [atI_nat, hu]
          simp only [bind_some]
          split
          · exact .inl ⟨_, rfl, (fun h => by cases h), fun b h => by cases h; rfl⟩
          · rename_i h6
            have hs : subL l 0 (k : Int) = some (l.take k) := by
              unfold subL
              rw [if_pos ⟨by omega, by omega, by omega⟩]
              simp
            rw [hs, bind_some, isPlace_eq _ _ (by rw [List.length_take]; omega), bind_some, w64 (by omega) (by omega)]
            cases decide ((n : Int) ∈ l.take k) with
            | true => exact .inl ⟨_, rfl, (fun h => by cases h), fun b h => by cases h; rfl⟩
            | false =>
              refine .inr ⟨_, rfl, ⟨k + 1, by simp, by omega, fun i w hi hw => ?_⟩, by simp only; omega, fun _ h => h⟩
              by_cases e : i = k
              · subst e
                rw [hv] at hw
                cases hw
                refine ⟨by omega, by omega, ?_⟩
                rw [Int.toNat_natCast, kind_some hu]
                exact Decidable.byContradiction h6
              · exact h1 i w (by omega) hw
    · have : k = l.length := by omega
      subst this
      exact .inl ⟨_, rfl, (fun _ v hv => by
        obtain ⟨i, hi⟩ := List.mem_iff_getElem?.1 hv
        exact h1 i v (List.getElem?_eq_some_iff.1 hi).1 hi), fun b h => by cases h⟩) (t, l, (0 : Int)) ⟨0, rfl, Nat.zero_le _, fun i v hi => by omega⟩
  rw [h, bind_some]
  rcases y with u | b
  · exact ⟨_, rfl, fun _ => q1 rfl⟩
  · obtain rfl := q2 b rfl
    exact ⟨_, rfl, fun h => by cases h⟩
structure Ris (t : List Node) (l : List Int) : Prop where
  rt : RT t
  asc : Asc t l
  el : ∀ v ∈ l, 0 ≤ v ∧ v < t.length ∧ kindN t v.toNat = 3
theorem rising_ex (t : List Node) (l : List Int) (hf : fits1 t = true) (hl : l.length ≤ 2147483647) : ∃ b, m_laws_rising (t, l) = some b ∧ (b = true → Ris t l) := by
  have ht : t.length ≤ 2147483647 := by
    simp only [fits1, Bool.and_eq_true, decide_eq_true_eq] at hf
    exact hf.1
  obtain ⟨b1, e1, g1⟩ := Right_ex t hf
  obtain ⟨b2, e2, g2⟩ := order_ex t l hl
  obtain ⟨b3, e3, g3⟩ := elements_ex t l hl ht
  simp only [m_laws_rising, e1, bind_some]
  cases b1
  · exact ⟨_, rfl, fun h => by cases h⟩
  · simp only [cond_true, e2, bind_some]
    cases b2
    · exact ⟨_, rfl, fun h => by cases h⟩
    · simp only [cond_true, e3, bind_some]
      exact ⟨_, rfl, fun h => ⟨g1 rfl, g2 rfl, g3 h⟩⟩
def keepP (w : List Int) (keep : Bool) (v : Int) : Bool := decide (some v.toNat ∈ pts w) == keep
theorem winnow_eq (l w : List Int) (keep : Bool) (h : l.length + w.length < 1000) : m_goquery_winnowNodes (pts l, pts w, keep) = some (pts (l.filter (keepP w keep))) := by
  simp only [m_goquery_winnowNodes, cond_dec, pts_len]
  rw [w64 (by omega) (by omega), if_pos (by omega)]
  have key : ∀ m k, l.length - k = m → k ≤ l.length → loopO m_goquery_winnowNodes_0 (pts w, keep, pts ((l.take k).filter (keepP w keep)), pts l, (l.length : Int), (k : Int)) = some (pts (l.filter (keepP w keep))) := by
    intro m
    induction m with
    | zero =>
      intro k hm hk
      refine loopO_out ?_
      simp only [m_goquery_winnowNodes_0, cond_dec]
      rw [if_neg (by omega), List.take_of_length_le (by omega)]
    | succ m ih =>
      intro k hm hk
      obtain ⟨v, hv⟩ := get_lt (l := l) (k := k) (by omega)
      have hlen : (pts ((l.take k).filter (keepP w keep))).length ≤ 1000 := by
        rw [pts_len]
        have := List.length_filter_le (keepP w keep) (l.take k)
        have := List.length_take_le k l
        omega
      have step : m_goquery_winnowNodes_0 (pts w, keep, pts ((l.take k).filter (keepP w keep)), pts l, (l.length : Int), (k : Int)) = some (.nx (pts w, keep, pts ((l.take (k + 1)).filter (keepP w keep)), pts l, (l.length : Int), ((k + 1 : Nat) : Int))) := by
        simp only [m_goquery_winnowNodes_0, cond_dec, atI_nat]
        rw [if_pos (by omega), pts_get, hv]
        simp only [Option.map_some, bind_some]
        rw [isIn_eq _ _ (by rw [pts_len]; omega), bind_some, w64 (by omega) (by omega), List.take_add_one, hv]
        have e : (decide (some v.toNat ∈ pts w) == keep) = keepP w keep v := rfl
        rw [e]
        cases hp : keepP w keep v with
        | false =>
          simp [List.filter_append, hp]
        | true =>
          rw [appL_some (by simp only [List.length_singleton]; omega)]
          simp [List.filter_append, hp, pts]
      rw [loopO_nx step]
      exact ih (k + 1) (by omega) (by omega)
  rw [show loopO m_goquery_winnowNodes_0 (pts w, keep, [], pts l, (l.length : Int), (0 : Int)) = _ from key l.length 0 (by omega) (Nat.zero_le _), bind_some]
theorem keep_mem {t : List Node} {l w : List Int} (hA : Asc t l) (hw : ∀ v ∈ w, 0 ≤ v) (keep : Bool) : l.filter (keepP w keep) = l.filter fun v => decide (v ∈ w) == keep := by
  refine List.filter_congr fun v hv => ?_
  obtain ⟨i, hi⟩ := List.mem_iff_getElem?.1 hv
  have h0 := (hA.bd i v hi).1
  unfold keepP
  have : (some v.toNat ∈ pts w) ↔ v ∈ w := by
    unfold pts
    rw [List.mem_map]
    constructor
    · rintro ⟨u, hu, e⟩
      have := hw u hu
      have e2 : u = v := by simp at e; omega
      exact e2 ▸ hu
    · intro h; exact ⟨v, h, rfl⟩
  simp only [this]
theorem pts_iff {l : List Int} {v : Int} (h : ∀ u ∈ l, 0 ≤ u) (h0 : 0 ≤ v) : some v.toNat ∈ pts l ↔ v ∈ l := by
  unfold pts
  rw [List.mem_map]
  constructor
  · rintro ⟨u, hu, e⟩
    have := h u hu
    have e2 : u = v := by simp at e; omega
    exact e2 ▸ hu
  · intro h; exact ⟨v, h, rfl⟩
theorem app_eq (l w : List Int) (h : l.length + w.length < 1000) (h1 : ∀ v ∈ l, 0 ≤ v) (h2 : ∀ v ∈ w, 0 ≤ v) : m_goquery_appendWithoutDuplicates_small (pts l, pts w, ()) = some (pts (addAll l w)) := by
  simp only [m_goquery_appendWithoutDuplicates_small, cond_dec, pts_len]
  rw [w64 (by omega) (by omega), if_pos (by omega)]
  have key : ∀ m k, w.length - k = m → k ≤ w.length → loopO m_goquery_appendWithoutDuplicates_small_0 (pts (addAll l (w.take k)), pts w, (w.length : Int), (k : Int)) = some (pts (addAll l w)) := by
    intro m
    induction m with
    | zero =>
      intro k hm hk
      refine loopO_out ?_
      simp only [m_goquery_appendWithoutDuplicates_small_0, cond_dec]
      rw [if_neg (by omega), List.take_of_length_le (by omega)]
    | succ m ih =>
      intro k hm hk
      obtain ⟨v, hv⟩ := get_lt (l := w) (k := k) (by omega)
      have hlen : (addAll l (w.take k)).length ≤ l.length + k := by
        have a := addAll_len (w.take k) l
        have b := List.length_take_le k w
        omega
      have hmem : some v.toNat ∈ pts (addAll l (w.take k)) ↔ v ∈ addAll l (w.take k) := pts_iff (fun u hu => by
        rcases addAll_mem.1 hu with hu | hu
        · exact h1 u hu
        · exact h2 u (List.mem_of_mem_take hu)) (h2 v (List.mem_of_getElem? hv))
      have hap : addAll l (w.take (k + 1)) = addAll (addAll l (w.take k)) [v] := by
        rw [List.take_add_one, hv]
        exact addAll_app _ _ _
      have step : m_goquery_appendWithoutDuplicates_small_0 (pts (addAll l (w.take k)), pts w, (w.length : Int), (k : Int)) = some (.nx (pts (addAll l (w.take (k + 1))), pts w, (w.length : Int), ((k + 1 : Nat) : Int))) := by
        simp only [m_goquery_appendWithoutDuplicates_small_0, cond_dec, atI_nat]
        rw [if_pos (by omega), pts_get, hv]
        simp only [Option.map_some, bind_some]
        rw [isIn_eq _ _ (by rw [pts_len]; omega), bind_some, w64 (by omega) (by omega), hap]
        by_cases hm : v ∈ addAll l (w.take k)
        · rw [decide_eq_true (hmem.2 hm), addAll_in _ hm, addAll_nil]
          rfl
        · rw [decide_eq_false (fun e => hm (hmem.1 e)), addAll_out _ hm, addAll_nil]
          simp only [Bool.not_false, cond_true]
          rw [appL_some (by rw [pts_len]; simp only [List.length_singleton]; omega), bind_some]
          simp [pts]
      rw [loopO_nx step]
      exact ih (k + 1) (by omega) (by omega)
  rw [show loopO m_goquery_appendWithoutDuplicates_small_0 (pts l, pts w, (w.length : Int), (0 : Int)) = _ from key w.length 0 (by omega) (Nat.zero_le _), bind_some]
theorem chosenb_eq (t : List Node) (l : List Int) (hf : fits1 t = true) (hR : RT t) (hO : Asc t l) : m_impl_chosen_b (t, l, []) = some (((), (), ()), ptrs t, true, pts l, store t) := by
  have h1 := hR.pos
  have h2 := hR.len
  have h3 := hO.len
  have hn : ∀ (i j : Nat) (v w : Int), i < j → l[i]? = some v → l[j]? = some w → v.toNat ≠ w.toNat := fun i j v w hij hv hw => by
    have a := hO.lt hij hv hw
    have b := (hO.bd i v hv).1
    omega
  simp only [m_impl_chosen_b, grown_eq t hf hR, bind_some, m_impl_among_b, these_eq t l (by omega) hO.bd, Bool.not_true, cond_false, atI_zero, ptrs_get h1]
  simp only [m_goquery_NewDocumentFromNode, m_goquery_newDocument, m_goquery_newSingleSelection, bind_some, m_goquery_Selection_Eq_nil, cond_dec, List.length_singleton]
  rw [if_neg (by omega), if_pos (by omega)]
  simp only [m_goquery_newEmptySelection, bind_some, m_goquery_Selection_AddNodes_c, appSmall_eq l (by omega) hn, m_goquery_pushStack_o]
theorem walkedf (t : List Node) (l : List Int) (x : List (Int × List UInt8 × List Int × Int × Int)) : m_impl_Walked_f (t, l, x) = (m_impl_Walked (t, l, x, [])).map fun r => (r.1, r.2.1) := rfl
theorem goes_eq {t : List Node} {l w r : List Int} {op : Int} (hf : fits1 t = true) (hl : Ris t l) (hw : Ris t w) (hr : ∀ v ∈ r, 0 ≤ v ∧ v < t.length) (hrl : r.length ≤ 1000000)
    (hb : m_impl_bySet_b (((), (), ()), (op, [], w, 0, 0), pts w, pts l) = some (((), (), ()), pts r)) : m_laws_goes7 (t, l, [(op, [], w, (0 : Int), (0 : Int))]) = some (r, true) := by
  have h2 := hl.rt.len
  have h3 := hw.asc.len
  have hth := these_eq t w (by omega) hw.asc.bd
  have e1 : m_impl_Walked_0 ([], ((), (), ()), ptrs t, [(op, [], w, (0 : Int), (0 : Int))], (1 : Int), (0 : Int), store t, pts l) = some (.nx ([r], ((), (), ()), ptrs t, [(op, [], w, (0 : Int), (0 : Int))], (1 : Int), (1 : Int), store t, pts r)) := by
    simp only [m_impl_Walked_0, cond_dec, atI_zero]
    rw [if_pos (by omega)]
    simp only [List.getElem?_cons_zero, bind_some, hth, Bool.not_true, cond_false, hb, placesOf_eq t (by omega) r hrl hr]
    rw [appL_some (by simp), bind_some]
    rfl
  have e2 : m_impl_Walked_0 ([r], ((), (), ()), ptrs t, [(op, [], w, (0 : Int), (0 : Int))], (1 : Int), (1 : Int), store t, pts r) = some (.out (.inl ([r], store t))) := by
    simp only [m_impl_Walked_0, cond_dec]
    rw [if_neg (by omega)]
  have hW : m_impl_Walked_f (t, l, [(op, [], w, (0 : Int), (0 : Int))]) = some ([r], true) := by
    rw [walkedf]
    simp only [m_impl_Walked, chosenb_eq t l hf hl.rt hl.asc, bind_some, Bool.not_true, cond_false]
    rw [show loopO m_impl_Walked_0 ([], ((), (), ()), ptrs t, [(op, [], w, (0 : Int), (0 : Int))], ((([(op, [], w, (0 : Int), (0 : Int))] : List (Int × List UInt8 × List Int × Int × Int)).length : Nat) : Int), (0 : Int), store t, pts l) = some (.inl ([r], store t)) from by
      rw [show ((([(op, [], w, (0 : Int), (0 : Int))] : List (Int × List UInt8 × List Int × Int × Int)).length : Nat) : Int) = (1 : Int) from rfl, loopO_nx e1]
      exact loopO_out e2]
    rfl
  simp only [m_laws_goes7, hW, bind_some, Bool.not_true, cond_false]
  rfl
theorem filter_loop (t : List Node) (l w : List Int) (hl : l.length ≤ 1000) (hw : w.length ≤ 1000) (x : Int × List UInt8 × List Int × Int × Int) (hx : x.2.2.1 = w) : loopO m_spec_Related_0 (l, x, [], (0 : Int)) = some (l.filter fun v => decide (v ∈ w)) := by
  obtain ⟨x1, x2, x3, x4, x5⟩ := x
  simp only at hx
  subst hx
  have key : ∀ m k, l.length - k = m → k ≤ l.length → loopO m_spec_Related_0 (l, (x1, x2, x3, x4, x5), (l.take k).filter (fun v => decide (v ∈ x3)), (k : Int)) = some (l.filter fun v => decide (v ∈ x3)) := by
    intro m
    induction m with
    | zero =>
      intro k hm hk
      refine loopO_out ?_
      simp only [m_spec_Related_0, cond_dec]
      rw [if_neg (by omega), List.take_of_length_le (by omega)]
    | succ m ih =>
      intro k hm hk
      obtain ⟨v, hv⟩ := get_lt (l := l) (k := k) (by omega)
      have hlen : ∀ p : Int → Bool, ((l.take k).filter p).length ≤ 1000 := fun p => by
        have a := List.length_filter_le p (l.take k)
        have b := List.length_take_le k l
        omega
      have step : m_spec_Related_0 (l, (x1, x2, x3, x4, x5), (l.take k).filter (fun v => decide (v ∈ x3)), (k : Int)) = some (.nx (l, (x1, x2, x3, x4, x5), (l.take (k + 1)).filter (fun v => decide (v ∈ x3)), ((k + 1 : Nat) : Int))) := by
        simp only [m_spec_Related_0, cond_dec, atI_nat]
        rw [if_pos (by omega), hv]
        simp only [bind_some]
        rw [in_eq _ _ (by omega), bind_some, w64 (by omega) (by omega), List.take_add_one, hv]
        by_cases hp : v ∈ x3
        · rw [decide_eq_true hp]
          simp only [cond_true]
          rw [appL_some (Nat.le_trans (Nat.add_le_add_right (hlen _) 1) (by decide))]
          simp [List.filter_append, hp]
        · rw [decide_eq_false hp]
          simp [List.filter_append, hp]
      rw [loopO_nx step]
      exact ih (k + 1) (by omega) (by omega)
  exact key l.length 0 (by omega) (Nat.zero_le _)
theorem addAll_take (l : List Int) : ∀ (w : List Int), ∃ m, addAll l w = l ++ m
  | [] => ⟨[], by simp [addAll_nil]⟩
  | v :: w => by
    by_cases h : v ∈ l
    · rw [addAll_in _ h]; exact addAll_take l w
    · rw [addAll_out _ h]
      obtain ⟨m, e⟩ := addAll_take (l ++ [v]) w
      exact ⟨v :: m, by rw [e]; simp⟩
theorem bySet37 (l w : List Int) (h : l.length + w.length < 1000) (h1 : ∀ v ∈ l, 0 ≤ v) (h2 : ∀ v ∈ w, 0 ≤ v) : m_impl_bySet_b (((), (), ()), (37, [], w, 0, 0), pts w, pts l) = some (((), (), ()), pts (addAll l w)) := by
  simp only [m_impl_bySet_b, cond_dec, m_goquery_Selection_AddNodes_b, app_eq l w h h1 h2, bind_some, m_goquery_pushStack_b]
  rfl
theorem bySet38 (l w : List Int) (h : l.length + w.length < 1000) (h1 : ∀ v ∈ l, 0 ≤ v) (h2 : ∀ v ∈ w, 0 ≤ v) : m_impl_bySet_b (((), (), ()), (38, [], w, 0, 0), pts w, pts l) = some (((), (), ()), pts (addAll l w)) := by
  simp only [m_impl_bySet_b, cond_dec, m_impl_set, m_goquery_Selection_Union_b, m_goquery_Selection_AddSelection_b, m_goquery_Selection_AddNodes_b, app_eq l w h h1 h2, bind_some, m_goquery_pushStack_b]
  rfl
theorem bySet39 (l w : List Int) (h : l.length + w.length < 1000) : m_impl_bySet_b (((), (), ()), (39, [], w, 0, 0), pts w, pts l) = some (((), (), ()), pts (l.filter (keepP w true))) := by
  simp only [m_impl_bySet_b, cond_dec, m_impl_set, m_goquery_Selection_Intersection_b, m_goquery_Selection_FilterSelection_b, winnow_eq l w true h, bind_some, m_goquery_pushStack_o]
  rfl
theorem related37 (t : List Node) (l w : List Int) (hl : l.length ≤ 1000) (hw : w.length ≤ 1000) (hn : l.Nodup) (op : Int) (ho : op = 37 ∨ op = 38) : m_spec_Related (t, l, op, [], w, (0 : Int), (0 : Int)) = some (addAll l w, true) := by
  have e : addAll [] (l ++ w) = addAll l w := by rw [addAll_app, addAll_once hn]
  rcases ho with rfl | rfl
  · simp only [m_spec_Related, cond_dec]
    rw [if_neg (by decide), if_neg (by decide), if_neg (by decide), if_neg (by decide), if_neg (by decide), if_pos trivial, appL_some (by simp; omega), bind_some, List.nil_append, appL_some (by omega), bind_some, once_eq _ (by rw [List.length_append]; omega), bind_some, e]
  · simp only [m_spec_Related, cond_dec]
    rw [if_neg (by decide), if_neg (by decide), if_neg (by decide), if_neg (by decide), if_neg (by decide), if_neg (by decide), if_pos trivial, appL_some (by simp; omega), bind_some, List.nil_append, appL_some (by omega), bind_some, once_eq _ (by rw [List.length_append]; omega), bind_some, e]
theorem related39 (t : List Node) (l w : List Int) (hl : l.length ≤ 1000) (hw : w.length ≤ 1000) : m_spec_Related (t, l, 39, [], w, (0 : Int), (0 : Int)) = some (l.filter fun v => decide (v ∈ w), true) := by
  simp only [m_spec_Related, cond_dec]
  rw [if_neg (by decide), if_neg (by decide), if_neg (by decide), if_neg (by decide), if_neg (by decide), if_neg (by decide), if_neg (by decide), if_pos trivial, filter_loop t l w hl hw _ rfl, bind_some]
theorem fn_united (t : List Node) (l w : List Int) (n : Int) (hn : (Lit.int .u8 n).wf = true) : m_laws_FnUnited (t, l, w, n) = some true := by
  have h0 : 0 ≤ n := by
    simp only [Lit.wf, Bool.and_eq_true, decide_eq_true_eq] at hn
    exact Int.le_trans (by decide) hn.1
  simp only [m_laws_FnUnited, zz1, bind_some, not_cond, cond_dec]
  cases hf : fits1 t
  · rfl
  · rw [if_pos rfl]
    split
    · rfl
    · split
      · rfl
      · obtain ⟨b, e, g⟩ := rising_ex t l hf (by omega)
        obtain ⟨b2, e2, g2⟩ := rising_ex t w hf (by omega)
        rw [e, bind_some]
        cases b
        · rfl
        · rw [e2]
          simp only [if_true, bind_some]
          cases b2
          · rfl
          · have h := g rfl
            have hw := g2 rfl
            have h3 := hw.asc.len
            have h4 := h.asc.len
            have h5 := h.rt.len
            have hr : remI n 3 = some (n.tmod 3) := by unfold remI; rw [if_neg (by decide)]
            have hnn := asc_nodup h.asc
            have hl0 : ∀ v ∈ l, 0 ≤ v := fun v hv => (h.el v hv).1
            have hw0 : ∀ v ∈ w, 0 ≤ v := fun v hv => (hw.el v hv).1
            have ht0 : 0 ≤ n.tmod 3 ∧ n.tmod 3 < 3 := ⟨Int.tmod_nonneg 3 h0, Int.tmod_lt_of_pos n (by decide)⟩
            simp only [if_true]
            rw [hr, bind_some, w64 (n := n.tmod 3) (by omega) (by omega), w64 (by omega) (by omega)]
            have hlen := addAll_len w l
            have hmem : ∀ v ∈ addAll l w, 0 ≤ v ∧ v < t.length := fun v hv => by
              rcases addAll_mem.1 hv with hv | hv
              · exact ⟨(h.el v hv).1, (h.el v hv).2.1⟩
              · exact ⟨(hw.el v hv).1, (hw.el v hv).2.1⟩
            have both : ∀ op : Int, op = 37 ∨ op = 38 → m_impl_bySet_b (((), (), ()), (op, [], w, 0, 0), pts w, pts l) = some (((), (), ()), pts (addAll l w)) := fun op ho => by
              rcases ho with rfl | rfl
              · exact bySet37 l w (by omega) hl0 hw0
              · exact bySet38 l w (by omega) hl0 hw0
            by_cases h9 : n.tmod 3 = 2
            · rw [h9, show (37 : Int) + 2 = 39 from rfl, related39 t l w (by omega) (by omega), bind_some]
              have hfl := List.length_filter_le (fun v => decide (v ∈ w)) l
              have hk : l.filter (keepP w true) = l.filter fun v => decide (v ∈ w) := by
                rw [keep_mem h.asc hw0]
                refine List.filter_congr fun v _ => ?_
                cases decide (v ∈ w) <;> rfl
              have hg := goes_eq (op := 39) (r := l.filter (keepP w true)) hf h hw (fun v hv => by
                have := (List.mem_filter.1 hv).1
                exact ⟨(h.el v this).1, (h.el v this).2.1⟩) (by rw [hk]; omega) (bySet39 l w (by omega))
              rw [hk] at hg
              rw [hg, bind_some]
              simp only [if_true]
              rw [sameOnce_true _ _ (by omega) rfl (hnn.filter _) (fun v hv => hv), bind_some]
              simp only [if_true]
              rw [sameList_refl _ (by omega), bind_some]
            · have ho : 37 + n.tmod 3 = 37 ∨ 37 + n.tmod 3 = 38 := by omega
              rw [related37 t l w (by omega) (by omega) hnn _ ho, bind_some, goes_eq hf h hw hmem (by omega) (both _ ho), bind_some]
              simp only [if_true]
              rw [sameOnce_true _ _ (by omega) rfl (addAll_nodup hnn) (fun v hv => hv), bind_some]
              simp only [if_true]
              rw [if_neg (by omega)]
              obtain ⟨m, hm⟩ := addAll_take l w
              have hs : subL (addAll l w) 0 (if (l.length : Int) < ((addAll l w).length : Int) then (l.length : Int) else ((addAll l w).length : Int)) = some l := by
                have hml : (addAll l w).length = l.length + m.length := by rw [hm, List.length_append]
                have e1 : (if (l.length : Int) < ((addAll l w).length : Int) then (l.length : Int) else ((addAll l w).length : Int)) = (l.length : Int) := by
                  split
                  · rfl
                  · omega
                rw [e1]
                unfold subL
                rw [if_pos ⟨by omega, by omega, by omega⟩]
                rw [hm]
                simp
              rw [hs, bind_some, sameList_refl _ (by omega), bind_some]
end Go.Proofs.YtfjhibplplcjjaaGreat.V
