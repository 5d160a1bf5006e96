/-
  Models of functions, and that they are what the code does (written by a program).
-/
import Derived.Test.YtnggneccdekofaaKTab
import Derived.Test.YtnggneccdekofaaSpecA
import Derived.Test.YtnggneccdekofaaSpecB
import Derived.Test.YtnggneccdekofaaImplA
import Derived.Test.YtnggneccdekofaaGoqA
namespace Go.Proofs.Ytnggneccdekofaa.V
open Go Go.Proofs

/-! laws.FnGet -/
abbrev p_laws_FnGet : Pt := [(0, .lst .node), (1, .lst .int), (2, .int .i64)]
abbrev q_laws_FnGet : Pt := [(0, .bool)]

noncomputable def m_laws_FnGet : Tup p_laws_FnGet → Option (Tup q_laws_FnGet) := fun (x : List Node × List Int × Int) => Option.bind (m_laws_zzFits1 (Prod.fst x)) fun (r : Bool) => bif !r then Option.some Bool.true else bif Decidable.decide ((2147483647 : Int) < (↑(List.length (Prod.fst (Prod.snd x))) : Int)) then Option.some Bool.true else Option.bind (m_spec_Right (Prod.fst x)) fun (r : Bool) => bif !r then Option.some Bool.true else Option.bind (m_spec_Order (Prod.fst x, Prod.fst (Prod.snd x))) fun (r : Bool) => bif !r then Option.some Bool.true else bif Decidable.decide (Prod.snd (Prod.snd x) < (0 : Int)) then Option.bind (m_impl_GetOf_f (Prod.fst x, Prod.fst (Prod.snd x), Prod.snd (Prod.snd x))) fun (r : Int × Bool) => bif Decidable.decide (Go.IntKind.wrap Go.IntKind.i64 ((↑(List.length (Prod.fst (Prod.snd x))) : Int) + Prod.snd (Prod.snd x)) < (0 : Int)) then Option.bind (m_impl_GetOf_f (Prod.fst x, [(0 : Int)], (0 : Int))) fun (r_1 : Int × Bool) => bif !Prod.snd r then bif Prod.snd r_1 then Option.some (Decidable.decide (Prod.fst r_1 = (0 : Int))) else Option.some Bool.false else Option.some Bool.false else bif Decidable.decide ((↑(List.length (Prod.fst (Prod.snd x))) : Int) ≤ Go.IntKind.wrap Go.IntKind.i64 ((↑(List.length (Prod.fst (Prod.snd x))) : Int) + Prod.snd (Prod.snd x))) then Option.bind (m_impl_GetOf_f (Prod.fst x, [(0 : Int)], (0 : Int))) fun (r_1 : Int × Bool) => bif !Prod.snd r then bif Prod.snd r_1 then Option.some (Decidable.decide (Prod.fst r_1 = (0 : Int))) else Option.some Bool.false else Option.some Bool.false else bif Prod.snd r then Option.bind (atI (Prod.fst (Prod.snd x)) (Go.IntKind.wrap Go.IntKind.i64 ((↑(List.length (Prod.fst (Prod.snd x))) : Int) + Prod.snd (Prod.snd x)))) fun (v : Int) => Option.some (Decidable.decide (Prod.fst r = v)) else Option.some Bool.false else Option.bind (m_impl_GetOf_f (Prod.fst x, Prod.fst (Prod.snd x), Prod.snd (Prod.snd x))) fun (r : Int × Bool) => bif Decidable.decide (Prod.snd (Prod.snd x) < (0 : Int)) then Option.bind (m_impl_GetOf_f (Prod.fst x, [(0 : Int)], (0 : Int))) fun (r_1 : Int × Bool) => bif !Prod.snd r then bif Prod.snd r_1 then Option.some (Decidable.decide (Prod.fst r_1 = (0 : Int))) else Option.some Bool.false else Option.some Bool.false else bif Decidable.decide ((↑(List.length (Prod.fst (Prod.snd x))) : Int) ≤ Prod.snd (Prod.snd x)) then Option.bind (m_impl_GetOf_f (Prod.fst x, [(0 : Int)], (0 : Int))) fun (r_1 : Int × Bool) => bif !Prod.snd r then bif Prod.snd r_1 then Option.some (Decidable.decide (Prod.fst r_1 = (0 : Int))) else Option.some Bool.false else Option.some Bool.false else bif Prod.snd r then Option.bind (atI (Prod.fst (Prod.snd x)) (Prod.snd (Prod.snd x))) fun (v : Int) => Option.some (Decidable.decide (Prod.fst r = v)) else Option.some Bool.false

noncomputable def cx_laws_FnGet : Cx := ⟨tb, lookE [(20, e_laws_zzFits1), (29, e_spec_Right), (30, e_spec_Order), (31, e_impl_GetOf_f)]⟩

theorem ck_laws_FnGet : CxOK Try.prog (cx_laws_FnGet) := cx_ok tb_ok (.cons ok_laws_zzFits1 Try.call20 (.cons ok_spec_Right Try.call29 (.cons ok_spec_Order Try.call30 (.cons ok_impl_GetOf_f Try.call31 .nil))))

noncomputable def e_laws_FnGet : Ent := ⟨0, p_laws_FnGet, q_laws_FnGet, m_laws_FnGet⟩
theorem ok_laws_FnGet : FnOK Try.prog 7 e_laws_FnGet := fn_ok (L := lookL []) ck_laws_FnGet mixed Try.func7 rfl (by kernel_rfl) (by kernel_rfl) (ls_ok (l := []) (by kernel_rfl) .nil) (by intro x; kernel_rfl)

/-! laws.FnIndexOf -/
abbrev p_laws_FnIndexOf : Pt := [(0, .lst .node), (1, .lst .int), (2, .int .i64)]
abbrev q_laws_FnIndexOf : Pt := [(0, .bool)]

abbrev p_laws_FnIndexOf_0 : Pt := [(0, .lst .node), (1, .lst .int), (2, .int .i64), (7, .int .i64), (8, .int .i64)]
abbrev x_laws_FnIndexOf_0 : List (Xt × Pt) := [(.ex 0, [(0, .lst .node), (1, .lst .int), (2, .int .i64), (7, .int .i64)])]
noncomputable def m_laws_FnIndexOf_0 : Tup p_laws_FnIndexOf_0 → Option (Stp (Tup p_laws_FnIndexOf_0) (SumT (x_laws_FnIndexOf_0.map (·.2)))) := fun (x : List Node × List Int × Int × Int × Int) => bif Decidable.decide (Prod.snd (Prod.snd (Prod.snd (Prod.snd x))) < (↑(List.length (Prod.fst (Prod.snd x))) : Int)) then Option.bind (atI (Prod.fst (Prod.snd x)) (Prod.snd (Prod.snd (Prod.snd (Prod.snd x))))) fun (v : Int) => bif Decidable.decide (v = Prod.fst (Prod.snd (Prod.snd x))) then Option.some (Stp.nx (Prod.fst x, Prod.fst (Prod.snd x), Prod.fst (Prod.snd (Prod.snd x)), Prod.snd (Prod.snd (Prod.snd (Prod.snd x))), Go.IntKind.wrap Go.IntKind.i64 (Prod.snd (Prod.snd (Prod.snd (Prod.snd x))) + (1 : Int)))) else Option.some (Stp.nx (Prod.fst x, Prod.fst (Prod.snd x), Prod.fst (Prod.snd (Prod.snd x)), Prod.fst (Prod.snd (Prod.snd (Prod.snd x))), Go.IntKind.wrap Go.IntKind.i64 (Prod.snd (Prod.snd (Prod.snd (Prod.snd x))) + (1 : Int)))) else Option.some (Stp.out (Prod.fst x, Prod.fst (Prod.snd x), Prod.fst (Prod.snd (Prod.snd x)), Prod.fst (Prod.snd (Prod.snd (Prod.snd x)))))

noncomputable def m_laws_FnIndexOf : Tup p_laws_FnIndexOf → Option (Tup q_laws_FnIndexOf) := fun (x : List Node × List Int × Int) => Option.bind (m_laws_zzFits1 (Prod.fst x)) fun (r : Bool) => bif !r then Option.some Bool.true else bif Decidable.decide ((2147483647 : Int) < (↑(List.length (Prod.fst (Prod.snd x))) : Int)) then Option.some Bool.true else Option.bind (m_laws_selection (Prod.fst x, Prod.fst (Prod.snd x))) fun (r : Bool) => bif !r then Option.some Bool.true else Option.bind (m_laws_within (Prod.fst x, Prod.snd (Prod.snd x))) fun (r : Bool) => bif !r then Option.some Bool.true else Option.bind (loopO m_laws_FnIndexOf_0 (Prod.fst x, Prod.fst (Prod.snd x), Prod.snd (Prod.snd x), (-1 : Int), (0 : Int))) fun (y : List Node × List Int × Int × Int) => Option.bind (m_impl_IndexOf_f (Prod.fst y, Prod.fst (Prod.snd y), Prod.fst (Prod.snd (Prod.snd y)))) fun (r : Int × Bool) => bif Prod.snd r then Option.some (Decidable.decide (Prod.fst r = Prod.snd (Prod.snd (Prod.snd y)))) else Option.some Bool.false

noncomputable def cx_laws_FnIndexOf : Cx := ⟨tb, lookE [(20, e_laws_zzFits1), (23, e_laws_selection), (24, e_laws_within), (25, e_impl_IndexOf_f)]⟩

theorem ck_laws_FnIndexOf : CxOK Try.prog (cx_laws_FnIndexOf) := cx_ok tb_ok (.cons ok_laws_zzFits1 Try.call20 (.cons ok_laws_selection Try.call23 (.cons ok_laws_within Try.call24 (.cons ok_impl_IndexOf_f Try.call25 .nil))))

noncomputable def c_laws_FnIndexOf_0 : Code := loopAt (Go.Proofs.Try.f5.body.getD .skip) 0

noncomputable def l_laws_FnIndexOf_0 : LEnt := ⟨p_laws_FnIndexOf_0, x_laws_FnIndexOf_0, loopO (m_laws_FnIndexOf_0)⟩

theorem lo_laws_FnIndexOf_0 : LOK Try.prog 55 0 false (l_laws_FnIndexOf_0) c_laws_FnIndexOf_0 := loop_ok (body := m_laws_FnIndexOf_0) (L := lookL []) (ck_laws_FnIndexOf) mixed (ls_ok (l := []) (by kernel_rfl) .nil) (by intro x; kernel_rfl) (fun x y h => loopO_iff.1 h)

noncomputable def e_laws_FnIndexOf : Ent := ⟨0, p_laws_FnIndexOf, q_laws_FnIndexOf, m_laws_FnIndexOf⟩
theorem ok_laws_FnIndexOf : FnOK Try.prog 5 e_laws_FnIndexOf := fn_ok (L := lookL [(0, l_laws_FnIndexOf_0)]) ck_laws_FnIndexOf mixed Try.func5 rfl (by kernel_rfl) (by kernel_rfl) (ls_ok (l := [(0, c_laws_FnIndexOf_0)]) (by kernel_rfl) (.cons rfl (lo_laws_FnIndexOf_0) .nil)) (by intro x; kernel_rfl)

/-! laws.FnContains -/
abbrev p_laws_FnContains : Pt := [(0, .lst .node), (1, .lst .int), (2, .int .i64)]
abbrev q_laws_FnContains : Pt := [(0, .bool)]

noncomputable def m_laws_FnContains : Tup p_laws_FnContains → Option (Tup q_laws_FnContains) := fun (x : List Node × List Int × Int) => Option.bind (m_laws_zzFits1 (Prod.fst x)) fun (r : Bool) => bif !r then Option.some Bool.true else bif Decidable.decide ((2147483647 : Int) < (↑(List.length (Prod.fst (Prod.snd x))) : Int)) then Option.some Bool.true else Option.bind (m_laws_selection (Prod.fst x, Prod.fst (Prod.snd x))) fun (r : Bool) => bif !r then Option.some Bool.true else Option.bind (m_laws_within (Prod.fst x, Prod.snd (Prod.snd x))) fun (r : Bool) => bif !r then Option.some Bool.true else Option.bind (m_impl_Contains_f (Prod.fst x, Prod.fst (Prod.snd x), Prod.snd (Prod.snd x))) fun (r : Bool × Bool) => bif Prod.snd r then Option.bind (m_spec_Beneath (Prod.fst x, Prod.fst (Prod.snd x), [Prod.snd (Prod.snd x)])) fun (r_1 : List Int) => Option.some (Prod.fst r == Decidable.decide ((0 : Int) < (↑(List.length r_1) : Int))) else Option.some Bool.false

noncomputable def cx_laws_FnContains : Cx := ⟨tb, lookE [(20, e_laws_zzFits1), (23, e_laws_selection), (24, e_laws_within), (32, e_impl_Contains_f), (33, e_spec_Beneath)]⟩

theorem ck_laws_FnContains : CxOK Try.prog (cx_laws_FnContains) := cx_ok tb_ok (.cons ok_laws_zzFits1 Try.call20 (.cons ok_laws_selection Try.call23 (.cons ok_laws_within Try.call24 (.cons ok_impl_Contains_f Try.call32 (.cons ok_spec_Beneath Try.call33 .nil)))))

noncomputable def e_laws_FnContains : Ent := ⟨0, p_laws_FnContains, q_laws_FnContains, m_laws_FnContains⟩
theorem ok_laws_FnContains : FnOK Try.prog 8 e_laws_FnContains := fn_ok (L := lookL []) ck_laws_FnContains mixed Try.func8 rfl (by kernel_rfl) (by kernel_rfl) (ls_ok (l := []) (by kernel_rfl) .nil) (by intro x; kernel_rfl)

/-! laws.FnParted -/
abbrev p_laws_FnParted : Pt := [(0, .lst .node), (1, .lst .int), (2, .lst .int)]
abbrev q_laws_FnParted : Pt := [(0, .bool)]

noncomputable def m_laws_FnParted : Tup p_laws_FnParted → Option (Tup q_laws_FnParted) := fun (x : List Node × List Int × List Int) => Option.bind (m_laws_zzFits1 (Prod.fst x)) fun (r : Bool) => bif !r then Option.some Bool.true else bif Decidable.decide ((2147483647 : Int) < (↑(List.length (Prod.fst (Prod.snd x))) : Int)) then Option.some Bool.true else bif Decidable.decide ((2147483647 : Int) < (↑(List.length (Prod.snd (Prod.snd x))) : Int)) then Option.some Bool.true else Option.bind (m_laws_some (Prod.fst x, Prod.fst (Prod.snd x), Prod.snd (Prod.snd x))) fun (r : Bool) => bif !r then Option.some Bool.true else Option.bind (m_impl_FilterOf_f (Prod.fst x, Prod.fst (Prod.snd x), Prod.snd (Prod.snd x))) fun (r : List Int × Bool) => Option.bind (m_impl_NotOf_f (Prod.fst x, Prod.fst (Prod.snd x), Prod.snd (Prod.snd x))) fun (r_1 : List Int × Bool) => Option.bind (m_impl_NotOf_f (Prod.fst x, Prod.fst (Prod.snd x), Prod.fst r_1)) fun (r_2 : List Int × Bool) => Option.bind (appL [] (Prod.fst r)) fun (r_3 : List Int) => Option.bind (appL r_3 (Prod.fst r_1)) fun (r_4 : List Int) => bif Prod.snd r then bif Prod.snd r_1 then bif Prod.snd r_2 then bif Decidable.decide ((↑(List.length r_4) : Int) = (↑(List.length (Prod.fst (Prod.snd x))) : Int)) then Option.bind (m_spec_SameSet (r_4, Prod.fst (Prod.snd x))) fun (r_5 : Bool) => bif r_5 then Option.bind (m_spec_SameList (Prod.fst r, Prod.fst r_2)) fun (r : Bool) => Option.some r else Option.some Bool.false else Option.some Bool.false else Option.some Bool.false else Option.some Bool.false else Option.some Bool.false

noncomputable def cx_laws_FnParted : Cx := ⟨tb, lookE [(20, e_laws_zzFits1), (39, e_laws_some), (44, e_impl_FilterOf_f), (45, e_impl_NotOf_f), (46, e_spec_SameSet), (37, e_spec_SameList)]⟩

theorem ck_laws_FnParted : CxOK Try.prog (cx_laws_FnParted) := cx_ok tb_ok (.cons ok_laws_zzFits1 Try.call20 (.cons ok_laws_some Try.call39 (.cons ok_impl_FilterOf_f Try.call44 (.cons ok_impl_NotOf_f Try.call45 (.cons ok_spec_SameSet Try.call46 (.cons ok_spec_SameList Try.call37 .nil))))))

noncomputable def e_laws_FnParted : Ent := ⟨0, p_laws_FnParted, q_laws_FnParted, m_laws_FnParted⟩
theorem ok_laws_FnParted : FnOK Try.prog 13 e_laws_FnParted := fn_ok (L := lookL []) ck_laws_FnParted mixed Try.func13 rfl (by kernel_rfl) (by kernel_rfl) (ls_ok (l := []) (by kernel_rfl) .nil) (by intro x; kernel_rfl)

end Go.Proofs.Ytnggneccdekofaa.V
