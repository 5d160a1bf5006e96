/-
  Models of functions, and that they are what the code does (written by a program).
-/
import Derived.Test.YtfmlpodcldhgdaaKTab
import Derived.Test.YtfmlpodcldhgdaaSpecA
set_option linter.unusedVariables false
set_option linter.unusedSimpArgs false
namespace Go.Proofs.Ytfmlpodcldhgdaa.V
open Go Go.Proofs

/-! spec.rightAttrs -/
abbrev p_spec_rightAttrs : Pt := [(0, .lst .attr)]
abbrev q_spec_rightAttrs : Pt := [(0, .bool)]

abbrev p_spec_rightAttrs_0_0 : Pt := [(0, .lst .attr), (3, .int .i64), (4, .int .i64)]
abbrev x_spec_rightAttrs_0_0 : List (Xt × Pt) := [(.ex 2, [(0, .lst .attr), (3, .int .i64)]), (.rt, [(2, .bool)])]
noncomputable def m_spec_rightAttrs_0_0 : Tup p_spec_rightAttrs_0_0 → Option (Stp (Tup p_spec_rightAttrs_0_0) (SumT (x_spec_rightAttrs_0_0.map (·.2)))) := fun (x : List Attr × Int × Int) => bif Decidable.decide (Prod.snd (Prod.snd x) < Prod.fst (Prod.snd x)) then Option.bind (atI (Prod.fst x) (Prod.snd (Prod.snd x))) fun (v : Attr) => Option.bind (atI (Prod.fst x) (Prod.fst (Prod.snd x))) fun (v_1 : Attr) => bif Decidable.decide (Attr.key v = Attr.key v_1) then Option.some (Stp.out (Sum.inr Bool.false)) else Option.some (Stp.nx (Prod.fst x, Prod.fst (Prod.snd x), Go.IntKind.wrap Go.IntKind.i64 (Prod.snd (Prod.snd x) + (1 : Int)))) else Option.some (Stp.out (Sum.inl (Prod.fst x, Prod.fst (Prod.snd x))))

abbrev p_spec_rightAttrs_0 : Pt := [(0, .lst .attr), (3, .int .i64)]
abbrev x_spec_rightAttrs_0 : List (Xt × Pt) := [(.ex 0, []), (.rt, [(2, .bool)])]
noncomputable def m_spec_rightAttrs_0 : Tup p_spec_rightAttrs_0 → Option (Stp (Tup p_spec_rightAttrs_0) (SumT (x_spec_rightAttrs_0.map (·.2)))) := fun (x : List Attr × Int) => bif Decidable.decide (Prod.snd x < (↑(List.length (Prod.fst x)) : Int)) then Option.bind (atI (Prod.fst x) (Prod.snd x)) fun (v : Attr) => Option.bind (m_spec_Name (Attr.key v)) fun (r : Bool) => bif !r then Option.some (Stp.out (Sum.inr Bool.false)) else Option.bind (atI (Prod.fst x) (Prod.snd x)) fun (v : Attr) => Option.bind (m_spec_Plain (Attr.val v)) fun (r : Bool) => bif !r then Option.some (Stp.out (Sum.inr Bool.false)) else Option.bind (loopO m_spec_rightAttrs_0_0 (Prod.fst x, Prod.snd x, (0 : Int))) fun (y : List Attr × Int ⊕ Bool) => selim (fun (y : List Attr × Int) => Option.some (Stp.nx (Prod.fst y, Go.IntKind.wrap Go.IntKind.i64 (Prod.snd y + (1 : Int))))) (fun (y : Bool) => Option.some (Stp.out (Sum.inr y))) y else Option.some (Stp.out (Sum.inl PUnit.unit))

noncomputable def m_spec_rightAttrs : Tup p_spec_rightAttrs → Option (Tup q_spec_rightAttrs) := fun (x : List Attr) => bif Decidable.decide ((20 : Int) < (↑(List.length x) : Int)) then Option.some Bool.false else Option.bind (loopO m_spec_rightAttrs_0 (x, (0 : Int))) fun (y : PUnit ⊕ Bool) => selim (fun (y : PUnit) => Option.some Bool.true) (fun (y : Bool) => Option.some y) y

noncomputable def cx_spec_rightAttrs : Cx := ⟨tb, lookE [(67, e_spec_Name), (65, e_spec_Plain)], lookS [(11, [(true, 0), (true, 1), (true, 2), (true, 3), (true, 4), (true, 5), (true, 6), (true, 7), (true, 8), (true, 9), (true, 10)])]⟩

theorem ck_spec_rightAttrs : CxOK Try.prog (cx_spec_rightAttrs) := cx_ok tb_ok (.cons ok_spec_Name Try.call67 (.cons ok_spec_Plain Try.call65 .nil))

noncomputable def c_spec_rightAttrs_0_0 : Code := loopAt (loopAt (Go.Proofs.Try.f68.body.getD .skip) 0) 0

noncomputable def l_spec_rightAttrs_0_0 : LEnt := ⟨p_spec_rightAttrs_0_0, x_spec_rightAttrs_0_0, loopO (m_spec_rightAttrs_0_0)⟩

theorem lo_spec_rightAttrs_0_0 : LOK Try.prog 46 0 false (l_spec_rightAttrs_0_0) c_spec_rightAttrs_0_0 := loop_ok (body := m_spec_rightAttrs_0_0) (L := lookL []) (ck_spec_rightAttrs) mixed (ls_ok (l := []) (by kernel_rfl) .nil) (by intro x; kernel_rfl) (fun x y h => loopO_iff.1 h)

noncomputable def c_spec_rightAttrs_0 : Code := loopAt (Go.Proofs.Try.f68.body.getD .skip) 0

noncomputable def l_spec_rightAttrs_0 : LEnt := ⟨p_spec_rightAttrs_0, x_spec_rightAttrs_0, loopO (m_spec_rightAttrs_0)⟩

theorem lo_spec_rightAttrs_0 : LOK Try.prog 46 0 false (l_spec_rightAttrs_0) c_spec_rightAttrs_0 := loop_ok (body := m_spec_rightAttrs_0) (L := lookL [(2, l_spec_rightAttrs_0_0)]) (ck_spec_rightAttrs) mixed (ls_ok (l := [(2, c_spec_rightAttrs_0_0)]) (by kernel_rfl) (.cons rfl (lo_spec_rightAttrs_0_0) .nil)) (by intro x; kernel_rfl) (fun x y h => loopO_iff.1 h)

noncomputable def e_spec_rightAttrs : Ent := ⟨0, p_spec_rightAttrs, q_spec_rightAttrs, m_spec_rightAttrs⟩
theorem ok_spec_rightAttrs : FnOK Try.prog 68 e_spec_rightAttrs := fn_ok (L := lookL [(0, l_spec_rightAttrs_0)]) ck_spec_rightAttrs mixed Try.func68 rfl (by kernel_rfl) (by kernel_rfl) (ls_ok (l := [(0, c_spec_rightAttrs_0)]) (by kernel_rfl) (.cons rfl (lo_spec_rightAttrs_0) .nil)) (by intro x; kernel_rfl)

/-! spec.rightNode -/
abbrev p_spec_rightNode : Pt := [(0, .lst .node), (1, .int .i64)]
abbrev q_spec_rightNode : Pt := [(0, .bool)]

noncomputable def m_spec_rightNode : Tup p_spec_rightNode → Option (Tup q_spec_rightNode) := fun (x : List Node × Int) => Option.bind (atI (Prod.fst x) (Prod.snd x)) fun (v : Node) => bif Decidable.decide (Node.kind v ≠ (3 : Int)) then bif Decidable.decide (Node.tag v ≠ Array.toList (ByteArray.data { data := #[] })) then Option.some Bool.false else bif Decidable.decide ((0 : Int) < (↑(List.length (Node.attrs v)) : Int)) then Option.some Bool.false else Option.bind (m_spec_Plain (Node.text v)) fun (r : Bool) => bif !r then Option.some Bool.false else bif Decidable.decide (Node.kind v = (1 : Int)) then bif Decidable.decide (Prod.snd x = (0 : Int)) then bif Decidable.decide (Node.text v = Array.toList (ByteArray.data { data := #[] })) then Option.bind (m_spec_rightRoot (Prod.fst x)) fun (r : Bool) => Option.some r else Option.some Bool.false else Option.some Bool.false else bif Decidable.decide (Node.kind v = (2 : Int)) then bif Decidable.decide (Node.size v = (1 : Int)) then Option.bind (m_spec_Name (Node.text v)) fun (r : Bool) => bif r then Option.bind (m_spec_Parent (Prod.fst x, Prod.snd x)) fun (r : Int) => Option.some (Decidable.decide (r = (0 : Int))) else Option.some Bool.false else Option.some Bool.false else bif Decidable.decide (Node.kind v = (4 : Int)) then Option.some (Decidable.decide (Node.size v = (1 : Int))) else bif Decidable.decide (Node.kind v = (5 : Int)) then Option.some (Decidable.decide (Node.size v = (1 : Int))) else bif Decidable.decide (Node.kind v = (3 : Int)) then bif Decidable.decide (Node.text v = Array.toList (ByteArray.data { data := #[] })) then Option.bind (m_spec_Name (Node.tag v)) fun (r : Bool) => bif r then Option.bind (m_spec_rightAttrs (Node.attrs v)) fun (r : Bool) => Option.some r else Option.some Bool.false else Option.some Bool.false else Option.some Bool.false else Option.bind (m_spec_Plain (Node.text v)) fun (r : Bool) => bif !r then Option.some Bool.false else bif Decidable.decide (Node.kind v = (1 : Int)) then bif Decidable.decide (Prod.snd x = (0 : Int)) then bif Decidable.decide (Node.text v = Array.toList (ByteArray.data { data := #[] })) then Option.bind (m_spec_rightRoot (Prod.fst x)) fun (r : Bool) => Option.some r else Option.some Bool.false else Option.some Bool.false else bif Decidable.decide (Node.kind v = (2 : Int)) then bif Decidable.decide (Node.size v = (1 : Int)) then Option.bind (m_spec_Name (Node.text v)) fun (r : Bool) => bif r then Option.bind (m_spec_Parent (Prod.fst x, Prod.snd x)) fun (r : Int) => Option.some (Decidable.decide (r = (0 : Int))) else Option.some Bool.false else Option.some Bool.false else bif Decidable.decide (Node.kind v = (4 : Int)) then Option.some (Decidable.decide (Node.size v = (1 : Int))) else bif Decidable.decide (Node.kind v = (5 : Int)) then Option.some (Decidable.decide (Node.size v = (1 : Int))) else bif Decidable.decide (Node.kind v = (3 : Int)) then bif Decidable.decide (Node.text v = Array.toList (ByteArray.data { data := #[] })) then Option.bind (m_spec_Name (Node.tag v)) fun (r : Bool) => bif r then Option.bind (m_spec_rightAttrs (Node.attrs v)) fun (r : Bool) => Option.some r else Option.some Bool.false else Option.some Bool.false else Option.some Bool.false

noncomputable def cx_spec_rightNode : Cx := ⟨tb, lookE [(65, e_spec_Plain), (66, e_spec_rightRoot), (67, e_spec_Name), (42, e_spec_Parent), (68, e_spec_rightAttrs)], lookS []⟩

theorem ck_spec_rightNode : CxOK Try.prog (cx_spec_rightNode) := cx_ok tb_ok (.cons ok_spec_Plain Try.call65 (.cons ok_spec_rightRoot Try.call66 (.cons ok_spec_Name Try.call67 (.cons ok_spec_Parent Try.call42 (.cons ok_spec_rightAttrs Try.call68 .nil)))))

noncomputable def e_spec_rightNode : Ent := ⟨0, p_spec_rightNode, q_spec_rightNode, m_spec_rightNode⟩
theorem ok_spec_rightNode : FnOK Try.prog 40 e_spec_rightNode := fn_ok (L := lookL []) ck_spec_rightNode mixed Try.func40 rfl (by kernel_rfl) (by kernel_rfl) (ls_ok (l := []) (by kernel_rfl) .nil) (by intro x; kernel_rfl)

/-! spec.Right -/
abbrev p_spec_Right : Pt := [(0, .lst .node)]
abbrev q_spec_Right : Pt := [(0, .bool)]

abbrev p_spec_Right_0_0 : Pt := [(0, .lst .node), (3, .int .i64), (4, .int .i64), (5, .int .i64)]
abbrev x_spec_Right_0_0 : List (Xt × Pt) := [(.ex 2, [(0, .lst .node), (3, .int .i64), (4, .int .i64)])]
noncomputable def m_spec_Right_0_0 : Tup p_spec_Right_0_0 → Option (Stp (Tup p_spec_Right_0_0) (SumT (x_spec_Right_0_0.map (·.2)))) := fun (x : List Node × Int × Int × Int) => Option.bind (atI (Prod.fst x) (Prod.fst (Prod.snd (Prod.snd x)))) fun (v : Node) => bif Decidable.decide (Prod.snd (Prod.snd (Prod.snd x)) < (↑(List.length (Node.attrs v)) : Int)) then bif Decidable.decide (Prod.fst (Prod.snd x) ≤ (4000 : Int)) then Option.bind (atI (Prod.fst x) (Prod.fst (Prod.snd (Prod.snd x)))) fun (v : Node) => Option.bind (atI (Node.attrs v) (Prod.snd (Prod.snd (Prod.snd x)))) fun (v : Attr) => Option.some (Stp.nx (Prod.fst x, Go.IntKind.wrap Go.IntKind.i64 (Prod.fst (Prod.snd x) + if (4001 : Int) < (↑(List.length (Attr.val v)) : Int) then (4001 : Int) else (↑(List.length (Attr.val v)) : Int)), Prod.fst (Prod.snd (Prod.snd x)), Go.IntKind.wrap Go.IntKind.i64 (Prod.snd (Prod.snd (Prod.snd x)) + (1 : Int)))) else Option.some (Stp.out (Prod.fst x, Prod.fst (Prod.snd x), Prod.fst (Prod.snd (Prod.snd x)))) else Option.some (Stp.out (Prod.fst x, Prod.fst (Prod.snd x), Prod.fst (Prod.snd (Prod.snd x))))

abbrev p_spec_Right_0 : Pt := [(0, .lst .node), (3, .int .i64), (4, .int .i64)]
abbrev x_spec_Right_0 : List (Xt × Pt) := [(.ex 0, []), (.rt, [(2, .bool)])]
noncomputable def m_spec_Right_0 : Tup p_spec_Right_0 → Option (Stp (Tup p_spec_Right_0) (SumT (x_spec_Right_0.map (·.2)))) := fun (x : List Node × Int × Int) => bif Decidable.decide (Prod.snd (Prod.snd x) < (↑(List.length (Prod.fst x)) : Int)) then Option.bind (atI (Prod.fst x) (Prod.snd (Prod.snd x))) fun (v : Node) => Option.bind (loopO m_spec_Right_0_0 (Prod.fst x, Go.IntKind.wrap Go.IntKind.i64 (Prod.fst (Prod.snd x) + if (4001 : Int) < (↑(List.length (Node.text v)) : Int) then (4001 : Int) else (↑(List.length (Node.text v)) : Int)), Prod.snd (Prod.snd x), (0 : Int))) fun (y : List Node × Int × Int) => bif Decidable.decide ((4000 : Int) < Prod.fst (Prod.snd y)) then Option.some (Stp.out (Sum.inr Bool.false)) else Option.bind (m_spec_rightNode (Prod.fst y, Prod.snd (Prod.snd y))) fun (r : Bool) => bif !r then Option.some (Stp.out (Sum.inr Bool.false)) else Option.some (Stp.nx (Prod.fst y, Prod.fst (Prod.snd y), Go.IntKind.wrap Go.IntKind.i64 (Prod.snd (Prod.snd y) + (1 : Int)))) else Option.some (Stp.out (Sum.inl PUnit.unit))

noncomputable def m_spec_Right : Tup p_spec_Right → Option (Tup q_spec_Right) := fun (x : List Node) => bif Decidable.decide ((↑(List.length x) : Int) = (0 : Int)) then Option.some Bool.false else bif Decidable.decide ((200 : Int) < (↑(List.length x) : Int)) then Option.some Bool.false else Option.bind (atI x (0 : Int)) fun (v : Node) => bif Decidable.decide (Node.size v ≠ (↑(List.length x) : Int)) then Option.some Bool.false else Option.bind (atI x (0 : Int)) fun (v : Node) => bif Decidable.decide (Node.kind v ≠ (1 : Int)) then Option.some Bool.false else Option.bind (m_spec_sized big (x, (0 : Int), (↑(List.length x) : Int), (40 : Int))) fun (r : Bool) => bif !r then Option.some Bool.false else Option.bind (loopO m_spec_Right_0 (x, (0 : Int), (0 : Int))) fun (y : PUnit ⊕ Bool) => selim (fun (y : PUnit) => Option.some Bool.true) (fun (y : Bool) => Option.some y) y

noncomputable def cx_spec_Right : Cx := ⟨tb, lookE [(39, e_spec_sized), (40, e_spec_rightNode)], lookS []⟩

theorem ck_spec_Right : CxOK Try.prog (cx_spec_Right) := cx_ok tb_ok (.cons ok_spec_sized Try.call39 (.cons ok_spec_rightNode Try.call40 .nil))

noncomputable def c_spec_Right_0_0 : Code := loopAt (loopAt (Go.Proofs.Try.f14.body.getD .skip) 0) 0

noncomputable def l_spec_Right_0_0 : LEnt := ⟨p_spec_Right_0_0, x_spec_Right_0_0, loopO (m_spec_Right_0_0)⟩

theorem lo_spec_Right_0_0 : LOK Try.prog 87 0 false (l_spec_Right_0_0) c_spec_Right_0_0 := loop_ok (body := m_spec_Right_0_0) (L := lookL []) (ck_spec_Right) mixed (ls_ok (l := []) (by kernel_rfl) .nil) (by intro x; kernel_rfl) (fun x y h => loopO_iff.1 h)

noncomputable def c_spec_Right_0 : Code := loopAt (Go.Proofs.Try.f14.body.getD .skip) 0

noncomputable def l_spec_Right_0 : LEnt := ⟨p_spec_Right_0, x_spec_Right_0, loopO (m_spec_Right_0)⟩

theorem lo_spec_Right_0 : LOK Try.prog 87 0 false (l_spec_Right_0) c_spec_Right_0 := loop_ok (body := m_spec_Right_0) (L := lookL [(2, l_spec_Right_0_0)]) (ck_spec_Right) mixed (ls_ok (l := [(2, c_spec_Right_0_0)]) (by kernel_rfl) (.cons rfl (lo_spec_Right_0_0) .nil)) (by intro x; kernel_rfl) (fun x y h => loopO_iff.1 h)

noncomputable def e_spec_Right : Ent := ⟨0, p_spec_Right, q_spec_Right, m_spec_Right⟩
theorem ok_spec_Right : FnOK Try.prog 14 e_spec_Right := fn_ok (L := lookL [(0, l_spec_Right_0)]) ck_spec_Right mixed Try.func14 rfl (by kernel_rfl) (by kernel_rfl) (ls_ok (l := [(0, c_spec_Right_0)]) (by kernel_rfl) (.cons rfl (lo_spec_Right_0) .nil)) (by intro x; kernel_rfl)

/-! spec.Order -/
abbrev p_spec_Order : Pt := [(0, .lst .node), (1, .lst .int)]
abbrev q_spec_Order : Pt := [(0, .bool)]

abbrev p_spec_Order_0 : Pt := [(0, .lst .node), (1, .lst .int), (5, .int .i64)]
abbrev x_spec_Order_0 : List (Xt × Pt) := [(.ex 0, []), (.rt, [(4, .bool)])]
noncomputable def m_spec_Order_0 : Tup p_spec_Order_0 → Option (Stp (Tup p_spec_Order_0) (SumT (x_spec_Order_0.map (·.2)))) := fun (x : List Node × List Int × Int) => bif Decidable.decide (Prod.snd (Prod.snd x) < (↑(List.length (Prod.fst (Prod.snd x))) : Int)) then Option.bind (atI (Prod.fst (Prod.snd x)) (Prod.snd (Prod.snd x))) fun (v : Int) => bif Decidable.decide (v < (0 : Int)) then Option.some (Stp.out (Sum.inr Bool.false)) else Option.bind (atI (Prod.fst (Prod.snd x)) (Prod.snd (Prod.snd x))) fun (v : Int) => bif Decidable.decide ((↑(List.length (Prod.fst x)) : Int) ≤ v) then Option.some (Stp.out (Sum.inr Bool.false)) else bif Decidable.decide ((0 : Int) < Prod.snd (Prod.snd x)) then Option.bind (atI (Prod.fst (Prod.snd x)) (Prod.snd (Prod.snd x))) fun (v : Int) => Option.bind (atI (Prod.fst (Prod.snd x)) (Go.IntKind.wrap Go.IntKind.i64 (Prod.snd (Prod.snd x) - (1 : Int)))) fun (v_1 : Int) => bif Decidable.decide (v ≤ v_1) then Option.some (Stp.out (Sum.inr Bool.false)) else Option.some (Stp.nx (Prod.fst x, Prod.fst (Prod.snd x), Go.IntKind.wrap Go.IntKind.i64 (Prod.snd (Prod.snd x) + (1 : Int)))) else Option.some (Stp.nx (Prod.fst x, Prod.fst (Prod.snd x), Go.IntKind.wrap Go.IntKind.i64 (Prod.snd (Prod.snd x) + (1 : Int)))) else Option.some (Stp.out (Sum.inl PUnit.unit))

noncomputable def m_spec_Order : Tup p_spec_Order → Option (Tup q_spec_Order) := fun (x : List Node × List Int) => Option.bind (loopO m_spec_Order_0 (Prod.fst x, Prod.snd x, (0 : Int))) fun (y : PUnit ⊕ Bool) => selim (fun (y : PUnit) => Option.some Bool.true) (fun (y : Bool) => Option.some y) y

noncomputable def cx_spec_Order : Cx := ⟨tb, lookE [], lookS [(4, [(true, 0), (true, 1), (true, 2), (true, 3), (true, 4), (true, 5), (true, 6), (true, 7), (true, 8), (true, 9), (true, 10), (true, 11), (true, 12), (true, 13), (true, 14), (true, 15), (true, 16), (true, 17), (true, 18), (true, 19), (true, 20), (true, 21), (true, 22), (true, 23), (true, 24), (true, 25), (true, 26), (true, 27), (true, 28), (true, 29)])]⟩

theorem ck_spec_Order : CxOK Try.prog (cx_spec_Order) := cx_ok tb_ok .nil

noncomputable def c_spec_Order_0 : Code := loopAt (Go.Proofs.Try.f15.body.getD .skip) 0

noncomputable def l_spec_Order_0 : LEnt := ⟨p_spec_Order_0, x_spec_Order_0, loopO (m_spec_Order_0)⟩

theorem lo_spec_Order_0 : LOK Try.prog 42 0 false (l_spec_Order_0) c_spec_Order_0 := loop_ok (body := m_spec_Order_0) (L := lookL []) (ck_spec_Order) mixed (ls_ok (l := []) (by kernel_rfl) .nil) (by intro x; kernel_rfl) (fun x y h => loopO_iff.1 h)

noncomputable def e_spec_Order : Ent := ⟨0, p_spec_Order, q_spec_Order, m_spec_Order⟩
theorem ok_spec_Order : FnOK Try.prog 15 e_spec_Order := fn_ok (L := lookL [(0, l_spec_Order_0)]) ck_spec_Order mixed Try.func15 rfl (by kernel_rfl) (by kernel_rfl) (ls_ok (l := [(0, c_spec_Order_0)]) (by kernel_rfl) (.cons rfl (lo_spec_Order_0) .nil)) (by intro x; kernel_rfl)

/-! spec.SameList -/
abbrev p_spec_SameList : Pt := [(0, .lst .int), (1, .lst .int)]
abbrev q_spec_SameList : Pt := [(0, .bool)]

abbrev p_spec_SameList_0 : Pt := [(0, .lst .int), (1, .lst .int), (5, .int .i64)]
abbrev x_spec_SameList_0 : List (Xt × Pt) := [(.ex 0, []), (.rt, [(4, .bool)])]
noncomputable def m_spec_SameList_0 : Tup p_spec_SameList_0 → Option (Stp (Tup p_spec_SameList_0) (SumT (x_spec_SameList_0.map (·.2)))) := fun (x : List Int × List Int × Int) => bif Decidable.decide (Prod.snd (Prod.snd x) < (↑(List.length (Prod.fst x)) : Int)) then Option.bind (atI (Prod.fst x) (Prod.snd (Prod.snd x))) fun (v : Int) => Option.bind (atI (Prod.fst (Prod.snd x)) (Prod.snd (Prod.snd x))) fun (v_1 : Int) => bif Decidable.decide (v ≠ v_1) then Option.some (Stp.out (Sum.inr Bool.false)) else Option.some (Stp.nx (Prod.fst x, Prod.fst (Prod.snd x), Go.IntKind.wrap Go.IntKind.i64 (Prod.snd (Prod.snd x) + (1 : Int)))) else Option.some (Stp.out (Sum.inl PUnit.unit))

noncomputable def m_spec_SameList : Tup p_spec_SameList → Option (Tup q_spec_SameList) := fun (x : List Int × List Int) => bif Decidable.decide ((↑(List.length (Prod.fst x)) : Int) ≠ (↑(List.length (Prod.snd x)) : Int)) then Option.some Bool.false else Option.bind (loopO m_spec_SameList_0 (Prod.fst x, Prod.snd x, (0 : Int))) fun (y : PUnit ⊕ Bool) => selim (fun (y : PUnit) => Option.some Bool.true) (fun (y : Bool) => Option.some y) y

noncomputable def cx_spec_SameList : Cx := ⟨tb, lookE [], lookS [(6, [(true, 0), (true, 1), (true, 2), (true, 3), (true, 4), (true, 5), (true, 6), (true, 7), (true, 8)])]⟩

theorem ck_spec_SameList : CxOK Try.prog (cx_spec_SameList) := cx_ok tb_ok .nil

noncomputable def c_spec_SameList_0 : Code := loopAt (Go.Proofs.Try.f34.body.getD .skip) 0

noncomputable def l_spec_SameList_0 : LEnt := ⟨p_spec_SameList_0, x_spec_SameList_0, loopO (m_spec_SameList_0)⟩

theorem lo_spec_SameList_0 : LOK Try.prog 26 0 false (l_spec_SameList_0) c_spec_SameList_0 := loop_ok (body := m_spec_SameList_0) (L := lookL []) (ck_spec_SameList) mixed (ls_ok (l := []) (by kernel_rfl) .nil) (by intro x; kernel_rfl) (fun x y h => loopO_iff.1 h)

noncomputable def e_spec_SameList : Ent := ⟨0, p_spec_SameList, q_spec_SameList, m_spec_SameList⟩
theorem ok_spec_SameList : FnOK Try.prog 34 e_spec_SameList := fn_ok (L := lookL [(0, l_spec_SameList_0)]) ck_spec_SameList mixed Try.func34 rfl (by kernel_rfl) (by kernel_rfl) (ls_ok (l := [(0, c_spec_SameList_0)]) (by kernel_rfl) (.cons rfl (lo_spec_SameList_0) .nil)) (by intro x; kernel_rfl)

end Go.Proofs.Ytfmlpodcldhgdaa.V
