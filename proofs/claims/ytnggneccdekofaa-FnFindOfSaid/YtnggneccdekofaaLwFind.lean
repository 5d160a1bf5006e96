/-
  Models of functions, and that they are what the code does (written by a program).
-/
import Derived.Test.YtnggneccdekofaaKTab
import Derived.Test.YtnggneccdekofaaSpecA
import Derived.Test.YtnggneccdekofaaSpecB
import Derived.Test.YtnggneccdekofaaImplA
import Derived.Test.YtnggneccdekofaaGoqA
import Derived.Test.YtnggneccdekofaaGoqM
namespace Go.Proofs.Ytnggneccdekofaa.V
open Go Go.Proofs

/-! (*goquery.Selection).FindNodes$1 -/
abbrev p_goquery_Selection_FindNodes_1 : Pt := [(0, .int .i64), (1, .np), (2, .fp (.rc .fsel [] 0)), (NTR, .nsr)]
abbrev q_goquery_Selection_FindNodes_1 : Pt := [(0, .own .np 75)]

noncomputable def m_goquery_Selection_FindNodes_1 : Tup p_goquery_Selection_FindNodes_1 → Option (Tup q_goquery_Selection_FindNodes_1) := fun (x : Int × Option Nat × List (Option Nat) × List HN) => Option.bind (m_goquery_sliceContains (Prod.fst (Prod.snd (Prod.snd x)), Prod.fst (Prod.snd x), Prod.snd (Prod.snd (Prod.snd x)))) fun (r : Bool) => bif r then Option.some [Prod.fst (Prod.snd x)] else Option.some []

noncomputable def cx_goquery_Selection_FindNodes_1 : Cx := ⟨tb, lookE [(110, e_goquery_sliceContains)]⟩

theorem ck_goquery_Selection_FindNodes_1 : CxOK Try.prog (cx_goquery_Selection_FindNodes_1) := cx_ok tb_ok (.cons ok_goquery_sliceContains Try.call110 .nil)

noncomputable def e_goquery_Selection_FindNodes_1 : Ent := ⟨0, p_goquery_Selection_FindNodes_1, q_goquery_Selection_FindNodes_1, m_goquery_Selection_FindNodes_1⟩
theorem ok_goquery_Selection_FindNodes_1 : FnOK Try.prog 119 e_goquery_Selection_FindNodes_1 := fn_ok (L := lookL []) ck_goquery_Selection_FindNodes_1 mixed Try.func119 rfl (by kernel_rfl) (by kernel_rfl) (ls_ok (l := []) (by kernel_rfl) .nil) (by intro x; kernel_rfl)

/-! goquery.mapNodes@find -/
abbrev p_goquery_mapNodes_find : Pt := [(0, .lst .np), (1, .clo 119 [(.rc .fsel [] 0)]), (NTR, .nsr)]
abbrev q_goquery_mapNodes_find : Pt := [(0, .own .np 75)]

abbrev p_goquery_mapNodes_find_0 : Pt := [(1, .clo 119 [(.rc .fsel [] 0)]), (4, .own .np 75), (5, .mp), (23, .lst .np), (24, .int .i64), (25, .int .i64), (NTR, .nsr)]
abbrev x_goquery_mapNodes_find_0 : List (Xt × Pt) := [(.ex 1, [(4, .own .np 75), (NTR, .nsr)])]
noncomputable def m_goquery_mapNodes_find_0 : Tup p_goquery_mapNodes_find_0 → Option (Stp (Tup p_goquery_mapNodes_find_0) (SumT (x_goquery_mapNodes_find_0.map (·.2)))) := fun (x : List (Option Nat) × List (Option Nat) × List (Option Nat × Bool) × List (Option Nat) × Int × Int × List HN) => bif Decidable.decide (Prod.fst (Prod.snd (Prod.snd (Prod.snd (Prod.snd (Prod.snd x))))) < Prod.fst (Prod.snd (Prod.snd (Prod.snd (Prod.snd x))))) then Option.bind (atI (Prod.fst (Prod.snd (Prod.snd (Prod.snd x)))) (Prod.fst (Prod.snd (Prod.snd (Prod.snd (Prod.snd (Prod.snd x))))))) fun (v : Option Nat) => Option.bind (m_goquery_Selection_FindNodes_1 (Prod.fst (Prod.snd (Prod.snd (Prod.snd (Prod.snd (Prod.snd x))))), v, Prod.fst x, Prod.snd (Prod.snd (Prod.snd (Prod.snd (Prod.snd (Prod.snd x))))))) fun (r : List (Option Nat)) => bif Decidable.decide ((0 : Int) < (↑(List.length r) : Int)) then Option.bind (m_goquery_appendWithoutDuplicates_mp (Prod.fst (Prod.snd x), r, Prod.fst (Prod.snd (Prod.snd x)))) fun (r : List (Option Nat) × List (Option Nat × Bool)) => Option.some (Stp.nx (Prod.fst x, Prod.fst r, Prod.snd r, Prod.fst (Prod.snd (Prod.snd (Prod.snd x))), Prod.fst (Prod.snd (Prod.snd (Prod.snd (Prod.snd x)))), Go.IntKind.wrap Go.IntKind.i64 (Prod.fst (Prod.snd (Prod.snd (Prod.snd (Prod.snd (Prod.snd x))))) + (1 : Int)), Prod.snd (Prod.snd (Prod.snd (Prod.snd (Prod.snd (Prod.snd x))))))) else Option.some (Stp.nx (Prod.fst x, Prod.fst (Prod.snd x), Prod.fst (Prod.snd (Prod.snd x)), Prod.fst (Prod.snd (Prod.snd (Prod.snd x))), Prod.fst (Prod.snd (Prod.snd (Prod.snd (Prod.snd x)))), Go.IntKind.wrap Go.IntKind.i64 (Prod.fst (Prod.snd (Prod.snd (Prod.snd (Prod.snd (Prod.snd x))))) + (1 : Int)), Prod.snd (Prod.snd (Prod.snd (Prod.snd (Prod.snd (Prod.snd x))))))) else Option.some (Stp.out (Prod.fst (Prod.snd x), Prod.snd (Prod.snd (Prod.snd (Prod.snd (Prod.snd (Prod.snd x)))))))

noncomputable def m_goquery_mapNodes_find : Tup p_goquery_mapNodes_find → Option (Tup q_goquery_mapNodes_find) := fun (x : List (Option Nat) × List (Option Nat) × List HN) => bif Decidable.decide ((↑(List.length (Prod.fst x)) : Int) = (0 : Int)) then Option.some [] else bif Decidable.decide ((↑(List.length (Prod.fst x)) : Int) = (1 : Int)) then Option.bind (atI (Prod.fst x) (0 : Int)) fun (v : Option Nat) => Option.bind (m_goquery_Selection_FindNodes_1 ((0 : Int), v, Prod.fst (Prod.snd x), Prod.snd (Prod.snd x))) fun (r : List (Option Nat)) => Option.some r else Option.bind (loopO m_goquery_mapNodes_find_0 (Prod.fst (Prod.snd x), [], [], Prod.fst x, (↑(List.length (Prod.fst x)) : Int), (0 : Int), Prod.snd (Prod.snd x))) fun (y : List (Option Nat) × List HN) => Option.some (Prod.fst y)

noncomputable def cx_goquery_mapNodes_find : Cx := ⟨tb, lookE [(153, e_goquery_appendWithoutDuplicates_mp), (119, e_goquery_Selection_FindNodes_1)]⟩

theorem ck_goquery_mapNodes_find : CxOK Try.prog (cx_goquery_mapNodes_find) := cx_ok tb_ok (.cons ok_goquery_appendWithoutDuplicates_mp Try.call153 (.cons ok_goquery_Selection_FindNodes_1 Try.call119 .nil))

noncomputable def c_goquery_mapNodes_find_0 : Code := loopAt (Go.Proofs.Try.f118.body.getD .skip) 0

noncomputable def l_goquery_mapNodes_find_0 : LEnt := ⟨p_goquery_mapNodes_find_0, x_goquery_mapNodes_find_0, loopO (m_goquery_mapNodes_find_0)⟩

theorem lo_goquery_mapNodes_find_0 : LOK Try.prog 43 0 false (l_goquery_mapNodes_find_0) c_goquery_mapNodes_find_0 := loop_ok (body := m_goquery_mapNodes_find_0) (L := lookL []) (ck_goquery_mapNodes_find) mixed (ls_ok (l := []) (by kernel_rfl) .nil) (by intro x; kernel_rfl) (fun x y h => loopO_iff.1 h)

noncomputable def e_goquery_mapNodes_find : Ent := ⟨0, p_goquery_mapNodes_find, q_goquery_mapNodes_find, m_goquery_mapNodes_find⟩
theorem ok_goquery_mapNodes_find : FnOK Try.prog 118 e_goquery_mapNodes_find := fn_ok (L := lookL [(1, l_goquery_mapNodes_find_0)]) ck_goquery_mapNodes_find mixed Try.func118 rfl (by kernel_rfl) (by kernel_rfl) (ls_ok (l := [(1, c_goquery_mapNodes_find_0)]) (by kernel_rfl) (.cons rfl (lo_goquery_mapNodes_find_0) .nil)) (by intro x; kernel_rfl)

/-! (*goquery.Selection).FindNodes -/
abbrev p_goquery_Selection_FindNodes : Pt := [(0, .fp (.rc .nps [] 2)), (1, .lst .np), (NT, .ns 133 129)]
abbrev q_goquery_Selection_FindNodes : Pt := [(0, .fp (.rc .nps [] 2)), (NT, .ns 133 129)]

noncomputable def m_goquery_Selection_FindNodes : Tup p_goquery_Selection_FindNodes → Option (Tup q_goquery_Selection_FindNodes) := fun (x : List (Option Nat) × List (Option Nat) × List HN) => Option.bind (m_goquery_mapNodes_find (Prod.fst (Prod.snd x), Prod.fst x, Prod.snd (Prod.snd x))) fun (r : List (Option Nat)) => Option.bind (m_goquery_pushStack (Prod.fst x, r)) fun (r : List (Option Nat)) => Option.some (r, Prod.snd (Prod.snd x))

noncomputable def cx_goquery_Selection_FindNodes : Cx := ⟨tb, lookE [(118, e_goquery_mapNodes_find), (113, e_goquery_pushStack), (119, e_goquery_Selection_FindNodes_1)]⟩

theorem ck_goquery_Selection_FindNodes : CxOK Try.prog (cx_goquery_Selection_FindNodes) := cx_ok tb_ok (.cons ok_goquery_mapNodes_find Try.call118 (.cons ok_goquery_pushStack Try.call113 (.cons ok_goquery_Selection_FindNodes_1 Try.call119 .nil)))

noncomputable def e_goquery_Selection_FindNodes : Ent := ⟨0, p_goquery_Selection_FindNodes, q_goquery_Selection_FindNodes, m_goquery_Selection_FindNodes⟩
theorem ok_goquery_Selection_FindNodes : FnOK Try.prog 84 e_goquery_Selection_FindNodes := fn_ok (L := lookL []) ck_goquery_Selection_FindNodes mixed Try.func84 rfl (by kernel_rfl) (by kernel_rfl) (ls_ok (l := []) (by kernel_rfl) .nil) (by intro x; kernel_rfl)

/-! impl.FindOf -/
abbrev p_impl_FindOf : Pt := [(0, .lst .node), (1, .lst .int), (2, .lst .int), (NT, .ns 133 129)]
abbrev q_impl_FindOf : Pt := [(0, .own .int 3), (1, .bool), (NT, .ns 133 129)]

noncomputable def m_impl_FindOf : Tup p_impl_FindOf → Option (Tup q_impl_FindOf) := fun (x : List Node × List Int × List Int × List HN) => Option.bind (m_impl_chosen (Prod.fst x, Prod.fst (Prod.snd x), Prod.snd (Prod.snd (Prod.snd x)))) fun (r : List (Option Nat) × List (Option Nat) × Bool × List HN) => Option.bind (m_impl_these (Prod.fst (Prod.snd r), Prod.fst (Prod.snd (Prod.snd x)))) fun (r_1 : List (Option Nat) × Bool) => bif !Prod.fst (Prod.snd (Prod.snd r)) then Option.some ([], Bool.false, Prod.snd (Prod.snd (Prod.snd r))) else bif !Prod.snd r_1 then Option.some ([], Bool.false, Prod.snd (Prod.snd (Prod.snd r))) else Option.bind (m_goquery_Selection_FindNodes (Prod.fst r, Prod.fst r_1, Prod.snd (Prod.snd (Prod.snd r)))) fun (r_2 : List (Option Nat) × List HN) => Option.bind (m_impl_placesOf (Prod.fst (Prod.snd r), Prod.fst r_2)) fun (r : List Int) => Option.some (r, Bool.true, Prod.snd r_2)

noncomputable def cx_impl_FindOf : Cx := ⟨tb, lookE [(55, e_impl_chosen), (75, e_impl_these), (84, e_goquery_Selection_FindNodes), (71, e_impl_placesOf)]⟩

theorem ck_impl_FindOf : CxOK Try.prog (cx_impl_FindOf) := cx_ok tb_ok (.cons ok_impl_chosen Try.call55 (.cons ok_impl_these Try.call75 (.cons ok_goquery_Selection_FindNodes Try.call84 (.cons ok_impl_placesOf Try.call71 .nil))))

noncomputable def e_impl_FindOf : Ent := ⟨0, p_impl_FindOf, q_impl_FindOf, m_impl_FindOf⟩
theorem ok_impl_FindOf : FnOK Try.prog 47 e_impl_FindOf := fn_ok (L := lookL []) ck_impl_FindOf mixed Try.func47 rfl (by kernel_rfl) (by kernel_rfl) (ls_ok (l := []) (by kernel_rfl) .nil) (by intro x; kernel_rfl)

abbrev p_impl_FindOf_f : Pt := [(0, .lst .node), (1, .lst .int), (2, .lst .int)]
abbrev q_impl_FindOf_f : Pt := [(0, .own .int 3), (1, .bool)]
noncomputable def m_impl_FindOf_f : Tup p_impl_FindOf_f → Option (Tup q_impl_FindOf_f) := frT 0 p_impl_FindOf_f q_impl_FindOf_f 133 129 (m_impl_FindOf)
noncomputable def e_impl_FindOf_f : Ent := ⟨0, p_impl_FindOf_f, q_impl_FindOf_f, m_impl_FindOf_f⟩
theorem ok_impl_FindOf_f : FnOK Try.prog 47 e_impl_FindOf_f := fresh_ok (np := 0) (p := p_impl_FindOf_f) (q := q_impl_FindOf_f) (m := m_impl_FindOf) ok_impl_FindOf (by kernel_rfl) (by kernel_rfl)

/-! laws.FnFindOf -/
abbrev p_laws_FnFindOf : Pt := [(0, .lst .node), (1, .lst .int), (2, .lst .int)]
abbrev q_laws_FnFindOf : Pt := [(0, .bool)]

noncomputable def m_laws_FnFindOf : Tup p_laws_FnFindOf → Option (Tup q_laws_FnFindOf) := fun (x : List Node × List Int × List Int) => Option.bind (m_laws_zzFits1 (Prod.fst x)) fun (r : Bool) => bif !r then Option.some Bool.true else bif Decidable.decide ((2147483647 : Int) < (↑(List.length (Prod.fst (Prod.snd x))) : Int)) then Option.some Bool.true else bif Decidable.decide ((2147483647 : Int) < (↑(List.length (Prod.snd (Prod.snd x))) : Int)) then Option.some Bool.true else Option.bind (m_laws_some (Prod.fst x, Prod.fst (Prod.snd x), Prod.snd (Prod.snd x))) fun (r : Bool) => bif !r then Option.some Bool.true else Option.bind (m_impl_FindOf_f (Prod.fst x, Prod.fst (Prod.snd x), Prod.snd (Prod.snd x))) fun (r : List Int × Bool) => Option.bind (m_spec_Beneath (Prod.fst x, Prod.fst (Prod.snd x), Prod.snd (Prod.snd x))) fun (r_1 : List Int) => bif Prod.snd r then bif Decidable.decide ((↑(List.length (Prod.fst r)) : Int) = (↑(List.length r_1) : Int)) then Option.bind (m_spec_SameSet (Prod.fst r, r_1)) fun (r : Bool) => Option.some r else Option.some Bool.false else Option.some Bool.false

noncomputable def cx_laws_FnFindOf : Cx := ⟨tb, lookE [(20, e_laws_zzFits1), (39, e_laws_some), (47, e_impl_FindOf_f), (33, e_spec_Beneath), (46, e_spec_SameSet)]⟩

theorem ck_laws_FnFindOf : CxOK Try.prog (cx_laws_FnFindOf) := cx_ok tb_ok (.cons ok_laws_zzFits1 Try.call20 (.cons ok_laws_some Try.call39 (.cons ok_impl_FindOf_f Try.call47 (.cons ok_spec_Beneath Try.call33 (.cons ok_spec_SameSet Try.call46 .nil)))))

noncomputable def e_laws_FnFindOf : Ent := ⟨0, p_laws_FnFindOf, q_laws_FnFindOf, m_laws_FnFindOf⟩
theorem ok_laws_FnFindOf : FnOK Try.prog 14 e_laws_FnFindOf := fn_ok (L := lookL []) ck_laws_FnFindOf mixed Try.func14 rfl (by kernel_rfl) (by kernel_rfl) (ls_ok (l := []) (by kernel_rfl) .nil) (by intro x; kernel_rfl)

end Go.Proofs.Ytnggneccdekofaa.V
