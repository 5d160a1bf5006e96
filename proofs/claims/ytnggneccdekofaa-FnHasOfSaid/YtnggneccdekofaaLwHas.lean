/-
  Models of functions, and that they are what the code does (written by a program).
-/
import Derived.Test.YtnggneccdekofaaKTab
import Derived.Test.YtnggneccdekofaaSpecA
import Derived.Test.YtnggneccdekofaaSpecB
import Derived.Test.YtnggneccdekofaaSpecC
import Derived.Test.YtnggneccdekofaaImplA
import Derived.Test.YtnggneccdekofaaGoqA
namespace Go.Proofs.Ytnggneccdekofaa.V
open Go Go.Proofs

/-! (*goquery.Selection).HasNodes -/
abbrev p_goquery_Selection_HasNodes : Pt := [(0, .fp (.rc .nps [] 2)), (1, .lst .np), (NT, .ns 133 129)]
abbrev q_goquery_Selection_HasNodes : Pt := [(0, .fp (.rc .nps [] 2)), (NT, .ns 133 129)]

abbrev p_goquery_Selection_HasNodes_0_0 : Pt := [(0, .fp (.rc .nps [] 2)), (1, .lst .np), (5, .own .np 75), (7, .np), (13, .lst .np), (14, .int .i64), (15, .int .i64), (19, .lst .np), (20, .int .i64), (21, .int .i64), (NT, .ns 133 129)]
abbrev x_goquery_Selection_HasNodes_0_0 : List (Xt × Pt) := [(.ex 2, [(0, .fp (.rc .nps [] 2)), (1, .lst .np), (5, .own .np 75), (13, .lst .np), (14, .int .i64), (15, .int .i64), (NT, .ns 133 129)])]
noncomputable def m_goquery_Selection_HasNodes_0_0 : Tup p_goquery_Selection_HasNodes_0_0 → Option (Stp (Tup p_goquery_Selection_HasNodes_0_0) (SumT (x_goquery_Selection_HasNodes_0_0.map (·.2)))) := fun (x : List (Option Nat) × List (Option Nat) × List (Option Nat) × Option Nat × List (Option Nat) × Int × Int × List (Option Nat) × Int × Int × List HN) => bif Decidable.decide (Prod.fst (Prod.snd (Prod.snd (Prod.snd (Prod.snd (Prod.snd (Prod.snd (Prod.snd (Prod.snd (Prod.snd x))))))))) < Prod.fst (Prod.snd (Prod.snd (Prod.snd (Prod.snd (Prod.snd (Prod.snd (Prod.snd (Prod.snd x))))))))) then Option.bind (atI (Prod.fst (Prod.snd (Prod.snd (Prod.snd (Prod.snd (Prod.snd (Prod.snd (Prod.snd x)))))))) (Prod.fst (Prod.snd (Prod.snd (Prod.snd (Prod.snd (Prod.snd (Prod.snd (Prod.snd (Prod.snd (Prod.snd x))))))))))) fun (v : Option Nat) => Option.bind (m_goquery_nodeContains (Prod.fst (Prod.snd (Prod.snd (Prod.snd x))), v, Prod.snd (Prod.snd (Prod.snd (Prod.snd (Prod.snd (Prod.snd (Prod.snd (Prod.snd (Prod.snd (Prod.snd x))))))))))) fun (r : Bool) => bif r then Option.bind (appL (Prod.fst (Prod.snd (Prod.snd x))) [Prod.fst (Prod.snd (Prod.snd (Prod.snd x)))]) fun (r : List (Option Nat)) => Option.some (Stp.out (Prod.fst x, Prod.fst (Prod.snd x), r, Prod.fst (Prod.snd (Prod.snd (Prod.snd (Prod.snd x)))), Prod.fst (Prod.snd (Prod.snd (Prod.snd (Prod.snd (Prod.snd x))))), Prod.fst (Prod.snd (Prod.snd (Prod.snd (Prod.snd (Prod.snd (Prod.snd x)))))), Prod.snd (Prod.snd (Prod.snd (Prod.snd (Prod.snd (Prod.snd (Prod.snd (Prod.snd (Prod.snd (Prod.snd x))))))))))) else Option.some (Stp.nx (Prod.fst x, Prod.fst (Prod.snd x), Prod.fst (Prod.snd (Prod.snd x)), Prod.fst (Prod.snd (Prod.snd (Prod.snd x))), Prod.fst (Prod.snd (Prod.snd (Prod.snd (Prod.snd x)))), Prod.fst (Prod.snd (Prod.snd (Prod.snd (Prod.snd (Prod.snd x))))), Prod.fst (Prod.snd (Prod.snd (Prod.snd (Prod.snd (Prod.snd (Prod.snd x)))))), Prod.fst (Prod.snd (Prod.snd (Prod.snd (Prod.snd (Prod.snd (Prod.snd (Prod.snd x))))))), Prod.fst (Prod.snd (Prod.snd (Prod.snd (Prod.snd (Prod.snd (Prod.snd (Prod.snd (Prod.snd x)))))))), Go.IntKind.wrap Go.IntKind.i64 (Prod.fst (Prod.snd (Prod.snd (Prod.snd (Prod.snd (Prod.snd (Prod.snd (Prod.snd (Prod.snd (Prod.snd x))))))))) + (1 : Int)), Prod.snd (Prod.snd (Prod.snd (Prod.snd (Prod.snd (Prod.snd (Prod.snd (Prod.snd (Prod.snd (Prod.snd x))))))))))) else Option.some (Stp.out (Prod.fst x, Prod.fst (Prod.snd x), Prod.fst (Prod.snd (Prod.snd x)), Prod.fst (Prod.snd (Prod.snd (Prod.snd (Prod.snd x)))), Prod.fst (Prod.snd (Prod.snd (Prod.snd (Prod.snd (Prod.snd x))))), Prod.fst (Prod.snd (Prod.snd (Prod.snd (Prod.snd (Prod.snd (Prod.snd x)))))), Prod.snd (Prod.snd (Prod.snd (Prod.snd (Prod.snd (Prod.snd (Prod.snd (Prod.snd (Prod.snd (Prod.snd x)))))))))))

abbrev p_goquery_Selection_HasNodes_0 : Pt := [(0, .fp (.rc .nps [] 2)), (1, .lst .np), (5, .own .np 75), (13, .lst .np), (14, .int .i64), (15, .int .i64), (NT, .ns 133 129)]
abbrev x_goquery_Selection_HasNodes_0 : List (Xt × Pt) := [(.ex 0, [(0, .fp (.rc .nps [] 2)), (5, .own .np 75), (NT, .ns 133 129)])]
noncomputable def m_goquery_Selection_HasNodes_0 : Tup p_goquery_Selection_HasNodes_0 → Option (Stp (Tup p_goquery_Selection_HasNodes_0) (SumT (x_goquery_Selection_HasNodes_0.map (·.2)))) := fun (x : List (Option Nat) × List (Option Nat) × List (Option Nat) × List (Option Nat) × Int × Int × List HN) => bif Decidable.decide (Prod.fst (Prod.snd (Prod.snd (Prod.snd (Prod.snd (Prod.snd x))))) < Prod.fst (Prod.snd (Prod.snd (Prod.snd (Prod.snd x))))) then Option.bind (atI (Prod.fst (Prod.snd (Prod.snd (Prod.snd x)))) (Prod.fst (Prod.snd (Prod.snd (Prod.snd (Prod.snd (Prod.snd x))))))) fun (v : Option Nat) => Option.bind (loopO m_goquery_Selection_HasNodes_0_0 (Prod.fst x, Prod.fst (Prod.snd x), Prod.fst (Prod.snd (Prod.snd x)), v, Prod.fst (Prod.snd (Prod.snd (Prod.snd x))), Prod.fst (Prod.snd (Prod.snd (Prod.snd (Prod.snd x)))), Prod.fst (Prod.snd (Prod.snd (Prod.snd (Prod.snd (Prod.snd x))))), Prod.fst (Prod.snd x), (↑(List.length (Prod.fst (Prod.snd x))) : Int), (0 : Int), Prod.snd (Prod.snd (Prod.snd (Prod.snd (Prod.snd (Prod.snd x))))))) fun (y : List (Option Nat) × List (Option Nat) × List (Option Nat) × List (Option Nat) × Int × Int × List HN) => Option.some (Stp.nx (Prod.fst y, Prod.fst (Prod.snd y), Prod.fst (Prod.snd (Prod.snd y)), Prod.fst (Prod.snd (Prod.snd (Prod.snd y))), Prod.fst (Prod.snd (Prod.snd (Prod.snd (Prod.snd y)))), Go.IntKind.wrap Go.IntKind.i64 (Prod.fst (Prod.snd (Prod.snd (Prod.snd (Prod.snd (Prod.snd y))))) + (1 : Int)), Prod.snd (Prod.snd (Prod.snd (Prod.snd (Prod.snd (Prod.snd y))))))) else Option.some (Stp.out (Prod.fst x, Prod.fst (Prod.snd (Prod.snd x)), Prod.snd (Prod.snd (Prod.snd (Prod.snd (Prod.snd (Prod.snd x)))))))

noncomputable def m_goquery_Selection_HasNodes : Tup p_goquery_Selection_HasNodes → Option (Tup q_goquery_Selection_HasNodes) := fun (x : List (Option Nat) × List (Option Nat) × List HN) => Option.bind (loopO m_goquery_Selection_HasNodes_0 (Prod.fst x, Prod.fst (Prod.snd x), [], Prod.fst x, (↑(List.length (Prod.fst x)) : Int), (0 : Int), Prod.snd (Prod.snd x))) fun (y : List (Option Nat) × List (Option Nat) × List HN) => Option.bind (m_goquery_pushStack (Prod.fst y, Prod.fst (Prod.snd y))) fun (r : List (Option Nat)) => Option.some (r, Prod.snd (Prod.snd y))

noncomputable def cx_goquery_Selection_HasNodes : Cx := ⟨tb, lookE [(112, e_goquery_nodeContains), (113, e_goquery_pushStack)]⟩

theorem ck_goquery_Selection_HasNodes : CxOK Try.prog (cx_goquery_Selection_HasNodes) := cx_ok tb_ok (.cons ok_goquery_nodeContains Try.call112 (.cons ok_goquery_pushStack Try.call113 .nil))

noncomputable def c_goquery_Selection_HasNodes_0_0 : Code := loopAt (loopAt (Go.Proofs.Try.f76.body.getD .skip) 0) 0

noncomputable def l_goquery_Selection_HasNodes_0_0 : LEnt := ⟨p_goquery_Selection_HasNodes_0_0, x_goquery_Selection_HasNodes_0_0, loopO (m_goquery_Selection_HasNodes_0_0)⟩

theorem lo_goquery_Selection_HasNodes_0_0 : LOK Try.prog 37 0 true (l_goquery_Selection_HasNodes_0_0) c_goquery_Selection_HasNodes_0_0 := loop_ok (body := m_goquery_Selection_HasNodes_0_0) (L := lookL []) (ck_goquery_Selection_HasNodes) mixed (ls_ok (l := []) (by kernel_rfl) .nil) (by intro x; kernel_rfl) (fun x y h => loopO_iff.1 h)

noncomputable def c_goquery_Selection_HasNodes_0 : Code := loopAt (Go.Proofs.Try.f76.body.getD .skip) 0

noncomputable def l_goquery_Selection_HasNodes_0 : LEnt := ⟨p_goquery_Selection_HasNodes_0, x_goquery_Selection_HasNodes_0, loopO (m_goquery_Selection_HasNodes_0)⟩

theorem lo_goquery_Selection_HasNodes_0 : LOK Try.prog 37 0 true (l_goquery_Selection_HasNodes_0) c_goquery_Selection_HasNodes_0 := loop_ok (body := m_goquery_Selection_HasNodes_0) (L := lookL [(2, l_goquery_Selection_HasNodes_0_0)]) (ck_goquery_Selection_HasNodes) mixed (ls_ok (l := [(2, c_goquery_Selection_HasNodes_0_0)]) (by kernel_rfl) (.cons rfl (lo_goquery_Selection_HasNodes_0_0) .nil)) (by intro x; kernel_rfl) (fun x y h => loopO_iff.1 h)

noncomputable def e_goquery_Selection_HasNodes : Ent := ⟨0, p_goquery_Selection_HasNodes, q_goquery_Selection_HasNodes, m_goquery_Selection_HasNodes⟩
theorem ok_goquery_Selection_HasNodes : FnOK Try.prog 76 e_goquery_Selection_HasNodes := fn_ok (L := lookL [(0, l_goquery_Selection_HasNodes_0)]) ck_goquery_Selection_HasNodes mixed Try.func76 rfl (by kernel_rfl) (by kernel_rfl) (ls_ok (l := [(0, c_goquery_Selection_HasNodes_0)]) (by kernel_rfl) (.cons rfl (lo_goquery_Selection_HasNodes_0) .nil)) (by intro x; kernel_rfl)

/-! impl.HasOf -/
abbrev p_impl_HasOf : Pt := [(0, .lst .node), (1, .lst .int), (2, .lst .int), (NT, .ns 133 129)]
abbrev q_impl_HasOf : Pt := [(0, .own .int 3), (1, .bool), (NT, .ns 133 129)]

noncomputable def m_impl_HasOf : Tup p_impl_HasOf → Option (Tup q_impl_HasOf) := fun (x : List Node × List Int × List Int × List HN) => Option.bind (m_impl_chosen (Prod.fst x, Prod.fst (Prod.snd x), Prod.snd (Prod.snd (Prod.snd x)))) fun (r : List (Option Nat) × List (Option Nat) × Bool × List HN) => Option.bind (m_impl_these (Prod.fst (Prod.snd r), Prod.fst (Prod.snd (Prod.snd x)))) fun (r_1 : List (Option Nat) × Bool) => bif !Prod.fst (Prod.snd (Prod.snd r)) then Option.some ([], Bool.false, Prod.snd (Prod.snd (Prod.snd r))) else bif !Prod.snd r_1 then Option.some ([], Bool.false, Prod.snd (Prod.snd (Prod.snd r))) else Option.bind (m_goquery_Selection_HasNodes (Prod.fst r, Prod.fst r_1, Prod.snd (Prod.snd (Prod.snd r)))) fun (r_2 : List (Option Nat) × List HN) => Option.bind (m_impl_placesOf (Prod.fst (Prod.snd r), Prod.fst r_2)) fun (r : List Int) => Option.some (r, Bool.true, Prod.snd r_2)

noncomputable def cx_impl_HasOf : Cx := ⟨tb, lookE [(55, e_impl_chosen), (75, e_impl_these), (76, e_goquery_Selection_HasNodes), (71, e_impl_placesOf)]⟩

theorem ck_impl_HasOf : CxOK Try.prog (cx_impl_HasOf) := cx_ok tb_ok (.cons ok_impl_chosen Try.call55 (.cons ok_impl_these Try.call75 (.cons ok_goquery_Selection_HasNodes Try.call76 (.cons ok_impl_placesOf Try.call71 .nil))))

noncomputable def e_impl_HasOf : Ent := ⟨0, p_impl_HasOf, q_impl_HasOf, m_impl_HasOf⟩
theorem ok_impl_HasOf : FnOK Try.prog 40 e_impl_HasOf := fn_ok (L := lookL []) ck_impl_HasOf mixed Try.func40 rfl (by kernel_rfl) (by kernel_rfl) (ls_ok (l := []) (by kernel_rfl) .nil) (by intro x; kernel_rfl)

abbrev p_impl_HasOf_f : Pt := [(0, .lst .node), (1, .lst .int), (2, .lst .int)]
abbrev q_impl_HasOf_f : Pt := [(0, .own .int 3), (1, .bool)]
noncomputable def m_impl_HasOf_f : Tup p_impl_HasOf_f → Option (Tup q_impl_HasOf_f) := frT 0 p_impl_HasOf_f q_impl_HasOf_f 133 129 (m_impl_HasOf)
noncomputable def e_impl_HasOf_f : Ent := ⟨0, p_impl_HasOf_f, q_impl_HasOf_f, m_impl_HasOf_f⟩
theorem ok_impl_HasOf_f : FnOK Try.prog 40 e_impl_HasOf_f := fresh_ok (np := 0) (p := p_impl_HasOf_f) (q := q_impl_HasOf_f) (m := m_impl_HasOf) ok_impl_HasOf (by kernel_rfl) (by kernel_rfl)

/-! laws.FnHasOf -/
abbrev p_laws_FnHasOf : Pt := [(0, .lst .node), (1, .lst .int), (2, .lst .int)]
abbrev q_laws_FnHasOf : Pt := [(0, .bool)]

noncomputable def m_laws_FnHasOf : Tup p_laws_FnHasOf → Option (Tup q_laws_FnHasOf) := fun (x : List Node × List Int × List Int) => Option.bind (m_laws_zzFits1 (Prod.fst x)) fun (r : Bool) => bif !r then Option.some Bool.true else bif Decidable.decide ((2147483647 : Int) < (↑(List.length (Prod.fst (Prod.snd x))) : Int)) then Option.some Bool.true else bif Decidable.decide ((2147483647 : Int) < (↑(List.length (Prod.snd (Prod.snd x))) : Int)) then Option.some Bool.true else Option.bind (m_laws_some (Prod.fst x, Prod.fst (Prod.snd x), Prod.snd (Prod.snd x))) fun (r : Bool) => bif !r then Option.some Bool.true else Option.bind (m_impl_HasOf_f (Prod.fst x, Prod.fst (Prod.snd x), Prod.snd (Prod.snd x))) fun (r : List Int × Bool) => bif Prod.snd r then Option.bind (m_spec_Over (Prod.fst x, Prod.fst (Prod.snd x), Prod.snd (Prod.snd x))) fun (r_1 : List Int) => Option.bind (m_spec_SameList (Prod.fst r, r_1)) fun (r : Bool) => Option.some r else Option.some Bool.false

noncomputable def cx_laws_FnHasOf : Cx := ⟨tb, lookE [(20, e_laws_zzFits1), (39, e_laws_some), (40, e_impl_HasOf_f), (41, e_spec_Over), (37, e_spec_SameList)]⟩

theorem ck_laws_FnHasOf : CxOK Try.prog (cx_laws_FnHasOf) := cx_ok tb_ok (.cons ok_laws_zzFits1 Try.call20 (.cons ok_laws_some Try.call39 (.cons ok_impl_HasOf_f Try.call40 (.cons ok_spec_Over Try.call41 (.cons ok_spec_SameList Try.call37 .nil)))))

noncomputable def e_laws_FnHasOf : Ent := ⟨0, p_laws_FnHasOf, q_laws_FnHasOf, m_laws_FnHasOf⟩
theorem ok_laws_FnHasOf : FnOK Try.prog 11 e_laws_FnHasOf := fn_ok (L := lookL []) ck_laws_FnHasOf mixed Try.func11 rfl (by kernel_rfl) (by kernel_rfl) (ls_ok (l := []) (by kernel_rfl) .nil) (by intro x; kernel_rfl)

end Go.Proofs.Ytnggneccdekofaa.V
