/-
  Models of functions, and that they are what the code does (written by a program).
-/
import Derived.Test.YtpedmnlpccngiaaDoorKTab
import Derived.Test.YtpedmnlpccngiaaDoorSpecA
set_option linter.unusedVariables false
set_option linter.unusedSimpArgs false
namespace Go.Proofs.YtpedmnlpccngiaaDoor.V
open Go Go.Proofs

/-! spec.rightAttrs -/
abbrev p_spec_rightAttrs : Pt := [(0, .lst .attr)]
abbrev q_spec_rightAttrs : Pt := [(0, .bool)]

abbrev p_spec_rightAttrs_0_0 : Pt := [(0, .lst .attr), (3, .int .i64), (4, .int .i64)]
abbrev x_spec_rightAttrs_0_0 : List (Xt × Pt) := [(.ex 2, [(0, .lst .attr), (3, .int .i64)]), (.rt, [(2, .bool)])]
noncomputable def m_spec_rightAttrs_0_0 : Tup p_spec_rightAttrs_0_0 → Option (Stp (Tup p_spec_rightAttrs_0_0) (SumT (x_spec_rightAttrs_0_0.map (·.2)))) := fun (x : List Attr × Int × Int) => bif decide (x.2.2 < x.2.1) then Option.bind (atI x.1 x.2.2) fun (v : Attr) => Option.bind (atI x.1 x.2.1) fun (v_1 : Attr) => bif decide (Attr.key v = Attr.key v_1) then some (Stp.out (Sum.inr false)) else some (Stp.nx (x.1, x.2.1, IntKind.wrap .i64 (x.2.2 + (1 : Int)))) else some (Stp.out (Sum.inl (x.1, x.2.1)))

abbrev p_spec_rightAttrs_0 : Pt := [(0, .lst .attr), (3, .int .i64)]
abbrev x_spec_rightAttrs_0 : List (Xt × Pt) := [(.ex 0, []), (.rt, [(2, .bool)])]
noncomputable def m_spec_rightAttrs_0 : Tup p_spec_rightAttrs_0 → Option (Stp (Tup p_spec_rightAttrs_0) (SumT (x_spec_rightAttrs_0.map (·.2)))) := fun (x : List Attr × Int) => bif decide (x.2 < (↑(List.length x.1) : Int)) then Option.bind (atI x.1 x.2) fun (v : Attr) => Option.bind (m_spec_Name (Attr.key v)) fun (r : Bool) => bif !r then some (Stp.out (Sum.inr false)) else Option.bind (atI x.1 x.2) fun (v : Attr) => Option.bind (m_spec_Plain (Attr.val v)) fun (r : Bool) => bif !r then some (Stp.out (Sum.inr false)) else Option.bind (loopO m_spec_rightAttrs_0_0 (x.1, x.2, (0 : Int))) fun (y : List Attr × Int ⊕ Bool) => selim (fun (y : List Attr × Int) => some (Stp.nx (y.1, IntKind.wrap .i64 (y.2 + (1 : Int))))) (fun (y : Bool) => some (Stp.out (Sum.inr y))) y else some (Stp.out (Sum.inl ()))

noncomputable def m_spec_rightAttrs : Tup p_spec_rightAttrs → Option (Tup q_spec_rightAttrs) := fun (x : List Attr) => bif decide ((20 : Int) < (↑(List.length x) : Int)) then some false else Option.bind (loopO m_spec_rightAttrs_0 (x, (0 : Int))) fun (y : PUnit ⊕ Bool) => selim (fun (y : PUnit) => some true) (fun (y : Bool) => some y) y

noncomputable def cx_spec_rightAttrs : Cx := ⟨tb, lookE [(32, e_spec_Name), (30, e_spec_Plain)], lookS [(11, [(true, 0), (true, 1), (true, 2), (true, 3), (true, 4), (true, 5), (true, 6), (true, 7), (true, 8), (true, 9), (true, 10)])], mth, ast⟩

theorem ck_spec_rightAttrs : CxOK Tryd.prog (cx_spec_rightAttrs) := cx_ok tb_ok if_ok (.cons ok_spec_Name Tryd.call32 (.cons ok_spec_Plain Tryd.call30 .nil))

noncomputable def c_spec_rightAttrs_0_0 : Code := loopAt (loopAt (Go.Proofs.Tryd.f34.body.getD .skip) 0) 0

noncomputable def l_spec_rightAttrs_0_0 : LEnt := ⟨p_spec_rightAttrs_0_0, x_spec_rightAttrs_0_0, loopO (m_spec_rightAttrs_0_0)⟩

theorem lo_spec_rightAttrs_0_0 : LOK Tryd.prog 46 0 false (l_spec_rightAttrs_0_0) c_spec_rightAttrs_0_0 := loop_ok (body := m_spec_rightAttrs_0_0) (L := lookL []) (ck_spec_rightAttrs) mixed (ls_ok (l := []) (by kernel_rfl) .nil) (by intro x; kernel_rfl) (fun x y h => loopO_iff.1 h)

noncomputable def c_spec_rightAttrs_0 : Code := loopAt (Go.Proofs.Tryd.f34.body.getD .skip) 0

noncomputable def l_spec_rightAttrs_0 : LEnt := ⟨p_spec_rightAttrs_0, x_spec_rightAttrs_0, loopO (m_spec_rightAttrs_0)⟩

theorem lo_spec_rightAttrs_0 : LOK Tryd.prog 46 0 false (l_spec_rightAttrs_0) c_spec_rightAttrs_0 := loop_ok (body := m_spec_rightAttrs_0) (L := lookL [(2, l_spec_rightAttrs_0_0)]) (ck_spec_rightAttrs) mixed (ls_ok (l := [(2, c_spec_rightAttrs_0_0)]) (by kernel_rfl) (.cons rfl (lo_spec_rightAttrs_0_0) .nil)) (by intro x; kernel_rfl) (fun x y h => loopO_iff.1 h)

noncomputable def e_spec_rightAttrs : Ent := ⟨0, p_spec_rightAttrs, q_spec_rightAttrs, m_spec_rightAttrs⟩
theorem ok_spec_rightAttrs : FnOK Tryd.prog 34 e_spec_rightAttrs := fn_ok (L := lookL [(0, l_spec_rightAttrs_0)]) ck_spec_rightAttrs mixed Tryd.func34 rfl (by kernel_rfl) (by kernel_rfl) (ls_ok (l := [(0, c_spec_rightAttrs_0)]) (by kernel_rfl) (.cons rfl (lo_spec_rightAttrs_0) .nil)) (by intro x; kernel_rfl)

/-! spec.rightNode -/
abbrev p_spec_rightNode : Pt := [(0, .lst .node), (1, .int .i64)]
abbrev q_spec_rightNode : Pt := [(0, .bool)]

noncomputable def m_spec_rightNode : Tup p_spec_rightNode → Option (Tup q_spec_rightNode) := fun (x : List Node × Int) => Option.bind (atI x.1 x.2) fun (v : Node) => bif decide (Node.kind v ≠ (3 : Int)) then bif decide (Node.tag v ≠ Array.toList (ByteArray.data { data := #[] })) then some false else bif decide ((0 : Int) < (↑(List.length (Node.attrs v)) : Int)) then some false else Option.bind (m_spec_Plain (Node.text v)) fun (r : Bool) => bif !r then some false else bif decide (Node.kind v = (1 : Int)) then bif decide (x.2 = (0 : Int)) then bif decide (Node.text v = Array.toList (ByteArray.data { data := #[] })) then Option.bind (m_spec_rightRoot x.1) fun (r : Bool) => some r else some false else some false else bif decide (Node.kind v = (2 : Int)) then bif decide (Node.size v = (1 : Int)) then Option.bind (m_spec_Name (Node.text v)) fun (r : Bool) => bif r then Option.bind (m_spec_Parent (x.1, x.2)) fun (r : Int) => some (decide (r = (0 : Int))) else some false else some false else bif decide (Node.kind v = (4 : Int)) then some (decide (Node.size v = (1 : Int))) else bif decide (Node.kind v = (5 : Int)) then some (decide (Node.size v = (1 : Int))) else bif decide (Node.kind v = (3 : Int)) then bif decide (Node.text v = Array.toList (ByteArray.data { data := #[] })) then Option.bind (m_spec_Name (Node.tag v)) fun (r : Bool) => bif r then Option.bind (m_spec_rightAttrs (Node.attrs v)) fun (r : Bool) => some r else some false else some false else some false else Option.bind (m_spec_Plain (Node.text v)) fun (r : Bool) => bif !r then some false else bif decide (Node.kind v = (1 : Int)) then bif decide (x.2 = (0 : Int)) then bif decide (Node.text v = Array.toList (ByteArray.data { data := #[] })) then Option.bind (m_spec_rightRoot x.1) fun (r : Bool) => some r else some false else some false else bif decide (Node.kind v = (2 : Int)) then bif decide (Node.size v = (1 : Int)) then Option.bind (m_spec_Name (Node.text v)) fun (r : Bool) => bif r then Option.bind (m_spec_Parent (x.1, x.2)) fun (r : Int) => some (decide (r = (0 : Int))) else some false else some false else bif decide (Node.kind v = (4 : Int)) then some (decide (Node.size v = (1 : Int))) else bif decide (Node.kind v = (5 : Int)) then some (decide (Node.size v = (1 : Int))) else bif decide (Node.kind v = (3 : Int)) then bif decide (Node.text v = Array.toList (ByteArray.data { data := #[] })) then Option.bind (m_spec_Name (Node.tag v)) fun (r : Bool) => bif r then Option.bind (m_spec_rightAttrs (Node.attrs v)) fun (r : Bool) => some r else some false else some false else some false

noncomputable def cx_spec_rightNode : Cx := ⟨tb, lookE [(30, e_spec_Plain), (31, e_spec_rightRoot), (32, e_spec_Name), (33, e_spec_Parent), (34, e_spec_rightAttrs)], lookS [], mth, ast⟩

theorem ck_spec_rightNode : CxOK Tryd.prog (cx_spec_rightNode) := cx_ok tb_ok if_ok (.cons ok_spec_Plain Tryd.call30 (.cons ok_spec_rightRoot Tryd.call31 (.cons ok_spec_Name Tryd.call32 (.cons ok_spec_Parent Tryd.call33 (.cons ok_spec_rightAttrs Tryd.call34 .nil)))))

noncomputable def e_spec_rightNode : Ent := ⟨0, p_spec_rightNode, q_spec_rightNode, m_spec_rightNode⟩
theorem ok_spec_rightNode : FnOK Tryd.prog 21 e_spec_rightNode := fn_ok (L := lookL []) ck_spec_rightNode mixed Tryd.func21 rfl (by kernel_rfl) (by kernel_rfl) (ls_ok (l := []) (by kernel_rfl) .nil) (by intro x; kernel_rfl)

/-! spec.Right -/
abbrev p_spec_Right : Pt := [(0, .lst .node)]
abbrev q_spec_Right : Pt := [(0, .bool)]

abbrev p_spec_Right_0_0 : Pt := [(0, .lst .node), (3, .int .i64), (4, .int .i64), (5, .int .i64)]
abbrev x_spec_Right_0_0 : List (Xt × Pt) := [(.ex 2, [(0, .lst .node), (3, .int .i64), (4, .int .i64)])]
noncomputable def m_spec_Right_0_0 : Tup p_spec_Right_0_0 → Option (Stp (Tup p_spec_Right_0_0) (SumT (x_spec_Right_0_0.map (·.2)))) := fun (x : List Node × Int × Int × Int) => Option.bind (atI x.1 x.2.2.1) fun (v : Node) => bif decide (x.2.2.2 < (↑(List.length (Node.attrs v)) : Int)) then bif decide (x.2.1 ≤ (4000 : Int)) then Option.bind (atI x.1 x.2.2.1) fun (v : Node) => Option.bind (atI (Node.attrs v) x.2.2.2) fun (v : Attr) => some (Stp.nx (x.1, IntKind.wrap .i64 (x.2.1 + if (4001 : Int) < (↑(List.length (Attr.val v)) : Int) then (4001 : Int) else (↑(List.length (Attr.val v)) : Int)), x.2.2.1, IntKind.wrap .i64 (x.2.2.2 + (1 : Int)))) else some (Stp.out (x.1, x.2.1, x.2.2.1)) else some (Stp.out (x.1, x.2.1, x.2.2.1))

abbrev p_spec_Right_0 : Pt := [(0, .lst .node), (3, .int .i64), (4, .int .i64)]
abbrev x_spec_Right_0 : List (Xt × Pt) := [(.ex 0, []), (.rt, [(2, .bool)])]
noncomputable def m_spec_Right_0 : Tup p_spec_Right_0 → Option (Stp (Tup p_spec_Right_0) (SumT (x_spec_Right_0.map (·.2)))) := fun (x : List Node × Int × Int) => bif decide (x.2.2 < (↑(List.length x.1) : Int)) then Option.bind (atI x.1 x.2.2) fun (v : Node) => Option.bind (loopO m_spec_Right_0_0 (x.1, IntKind.wrap .i64 (x.2.1 + if (4001 : Int) < (↑(List.length (Node.text v)) : Int) then (4001 : Int) else (↑(List.length (Node.text v)) : Int)), x.2.2, (0 : Int))) fun (y : List Node × Int × Int) => bif decide ((4000 : Int) < y.2.1) then some (Stp.out (Sum.inr false)) else Option.bind (m_spec_rightNode (y.1, y.2.2)) fun (r : Bool) => bif !r then some (Stp.out (Sum.inr false)) else some (Stp.nx (y.1, y.2.1, IntKind.wrap .i64 (y.2.2 + (1 : Int)))) else some (Stp.out (Sum.inl ()))

noncomputable def m_spec_Right : Tup p_spec_Right → Option (Tup q_spec_Right) := fun (x : List Node) => bif decide ((↑(List.length x) : Int) = (0 : Int)) then some false else bif decide ((200 : Int) < (↑(List.length x) : Int)) then some false else Option.bind (atI x (0 : Int)) fun (v : Node) => bif decide (Node.size v ≠ (↑(List.length x) : Int)) then some false else Option.bind (atI x (0 : Int)) fun (v : Node) => bif decide (Node.kind v ≠ (1 : Int)) then some false else Option.bind (m_spec_sized big (x, (0 : Int), (↑(List.length x) : Int), (40 : Int))) fun (r : Bool) => bif !r then some false else Option.bind (loopO m_spec_Right_0 (x, (0 : Int), (0 : Int))) fun (y : PUnit ⊕ Bool) => selim (fun (y : PUnit) => some true) (fun (y : Bool) => some y) y

noncomputable def cx_spec_Right : Cx := ⟨tb, lookE [(20, e_spec_sized), (21, e_spec_rightNode)], lookS [], mth, ast⟩

theorem ck_spec_Right : CxOK Tryd.prog (cx_spec_Right) := cx_ok tb_ok if_ok (.cons ok_spec_sized Tryd.call20 (.cons ok_spec_rightNode Tryd.call21 .nil))

noncomputable def c_spec_Right_0_0 : Code := loopAt (loopAt (Go.Proofs.Tryd.f12.body.getD .skip) 0) 0

noncomputable def l_spec_Right_0_0 : LEnt := ⟨p_spec_Right_0_0, x_spec_Right_0_0, loopO (m_spec_Right_0_0)⟩

theorem lo_spec_Right_0_0 : LOK Tryd.prog 87 0 false (l_spec_Right_0_0) c_spec_Right_0_0 := loop_ok (body := m_spec_Right_0_0) (L := lookL []) (ck_spec_Right) mixed (ls_ok (l := []) (by kernel_rfl) .nil) (by intro x; kernel_rfl) (fun x y h => loopO_iff.1 h)

noncomputable def c_spec_Right_0 : Code := loopAt (Go.Proofs.Tryd.f12.body.getD .skip) 0

noncomputable def l_spec_Right_0 : LEnt := ⟨p_spec_Right_0, x_spec_Right_0, loopO (m_spec_Right_0)⟩

theorem lo_spec_Right_0 : LOK Tryd.prog 87 0 false (l_spec_Right_0) c_spec_Right_0 := loop_ok (body := m_spec_Right_0) (L := lookL [(2, l_spec_Right_0_0)]) (ck_spec_Right) mixed (ls_ok (l := [(2, c_spec_Right_0_0)]) (by kernel_rfl) (.cons rfl (lo_spec_Right_0_0) .nil)) (by intro x; kernel_rfl) (fun x y h => loopO_iff.1 h)

noncomputable def e_spec_Right : Ent := ⟨0, p_spec_Right, q_spec_Right, m_spec_Right⟩
theorem ok_spec_Right : FnOK Tryd.prog 12 e_spec_Right := fn_ok (L := lookL [(0, l_spec_Right_0)]) ck_spec_Right mixed Tryd.func12 rfl (by kernel_rfl) (by kernel_rfl) (ls_ok (l := [(0, c_spec_Right_0)]) (by kernel_rfl) (.cons rfl (lo_spec_Right_0) .nil)) (by intro x; kernel_rfl)

/-! spec.Order -/
abbrev p_spec_Order : Pt := [(0, .lst .node), (1, .lst .int)]
abbrev q_spec_Order : Pt := [(0, .bool)]

abbrev p_spec_Order_0 : Pt := [(0, .lst .node), (1, .lst .int), (5, .int .i64)]
abbrev x_spec_Order_0 : List (Xt × Pt) := [(.ex 0, []), (.rt, [(4, .bool)])]
noncomputable def m_spec_Order_0 : Tup p_spec_Order_0 → Option (Stp (Tup p_spec_Order_0) (SumT (x_spec_Order_0.map (·.2)))) := fun (x : List Node × List Int × Int) => bif decide (x.2.2 < (↑(List.length x.2.1) : Int)) then Option.bind (atI x.2.1 x.2.2) fun (v : Int) => bif decide (v < (0 : Int)) then some (Stp.out (Sum.inr false)) else Option.bind (atI x.2.1 x.2.2) fun (v : Int) => bif decide ((↑(List.length x.1) : Int) ≤ v) then some (Stp.out (Sum.inr false)) else bif decide ((0 : Int) < x.2.2) then Option.bind (atI x.2.1 x.2.2) fun (v : Int) => Option.bind (atI x.2.1 (IntKind.wrap .i64 (x.2.2 - (1 : Int)))) fun (v_1 : Int) => bif decide (v ≤ v_1) then some (Stp.out (Sum.inr false)) else some (Stp.nx (x.1, x.2.1, IntKind.wrap .i64 (x.2.2 + (1 : Int)))) else some (Stp.nx (x.1, x.2.1, IntKind.wrap .i64 (x.2.2 + (1 : Int)))) else some (Stp.out (Sum.inl ()))

noncomputable def m_spec_Order : Tup p_spec_Order → Option (Tup q_spec_Order) := fun (x : List Node × List Int) => Option.bind (loopO m_spec_Order_0 (x.1, x.2, (0 : Int))) fun (y : PUnit ⊕ Bool) => selim (fun (y : PUnit) => some true) (fun (y : Bool) => some y) y

noncomputable def cx_spec_Order : Cx := ⟨tb, lookE [], lookS [(4, [(true, 0), (true, 1), (true, 2), (true, 3), (true, 4), (true, 5), (true, 6), (true, 7), (true, 8), (true, 9), (true, 10), (true, 11), (true, 12), (true, 13), (true, 14), (true, 15), (true, 16), (true, 17), (true, 18), (true, 19), (true, 20), (true, 21), (true, 22), (true, 23), (true, 24), (true, 25), (true, 26), (true, 27), (true, 28), (true, 29)])], mth, ast⟩

theorem ck_spec_Order : CxOK Tryd.prog (cx_spec_Order) := cx_ok tb_ok if_ok .nil

noncomputable def c_spec_Order_0 : Code := loopAt (Go.Proofs.Tryd.f7.body.getD .skip) 0

noncomputable def l_spec_Order_0 : LEnt := ⟨p_spec_Order_0, x_spec_Order_0, loopO (m_spec_Order_0)⟩

theorem lo_spec_Order_0 : LOK Tryd.prog 42 0 false (l_spec_Order_0) c_spec_Order_0 := loop_ok (body := m_spec_Order_0) (L := lookL []) (ck_spec_Order) mixed (ls_ok (l := []) (by kernel_rfl) .nil) (by intro x; kernel_rfl) (fun x y h => loopO_iff.1 h)

noncomputable def e_spec_Order : Ent := ⟨0, p_spec_Order, q_spec_Order, m_spec_Order⟩
theorem ok_spec_Order : FnOK Tryd.prog 7 e_spec_Order := fn_ok (L := lookL [(0, l_spec_Order_0)]) ck_spec_Order mixed Tryd.func7 rfl (by kernel_rfl) (by kernel_rfl) (ls_ok (l := [(0, c_spec_Order_0)]) (by kernel_rfl) (.cons rfl (lo_spec_Order_0) .nil)) (by intro x; kernel_rfl)

end Go.Proofs.YtpedmnlpccngiaaDoor.V
