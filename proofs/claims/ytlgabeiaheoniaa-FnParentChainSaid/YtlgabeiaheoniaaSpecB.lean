/-
  Models of functions, and that they are what the code does (written by a program).
-/
import Derived.Test.YtlgabeiaheoniaaKTab
import Derived.Test.YtlgabeiaheoniaaSpecA
namespace Go.Proofs.Ytlgabeiaheoniaa.V
open Go Go.Proofs

/-! spec.rightAttrs -/
abbrev p_spec_rightAttrs : Pt := [(0, .lst .attr)]
abbrev q_spec_rightAttrs : Pt := [(0, .bool)]

abbrev p_spec_rightAttrs_0_0 : Pt := [(0, .lst .attr), (3, .int .i64), (4, .int .i64)]
abbrev x_spec_rightAttrs_0_0 : List (Xt × Pt) := [(.ex 2, [(0, .lst .attr), (3, .int .i64)]), (.rt, [(2, .bool)])]
noncomputable def m_spec_rightAttrs_0_0 : Tup p_spec_rightAttrs_0_0 → Option (Stp (Tup p_spec_rightAttrs_0_0) (SumT (x_spec_rightAttrs_0_0.map (·.2)))) := fun (x : List Attr × Int × Int) => bif Decidable.decide (Prod.snd (Prod.snd x) < Prod.fst (Prod.snd x)) then Option.bind (atI (Prod.fst x) (Prod.snd (Prod.snd x))) fun (v : Attr) => Option.bind (atI (Prod.fst x) (Prod.fst (Prod.snd x))) fun (v_1 : Attr) => bif Decidable.decide (Attr.key v = Attr.key v_1) then Option.some (Stp.out (Sum.inr Bool.false)) else Option.some (Stp.nx (Prod.fst x, Prod.fst (Prod.snd x), Go.IntKind.wrap Go.IntKind.i64 (Prod.snd (Prod.snd x) + (1 : Int)))) else Option.some (Stp.out (Sum.inl (Prod.fst x, Prod.fst (Prod.snd x))))

abbrev p_spec_rightAttrs_0 : Pt := [(0, .lst .attr), (3, .int .i64)]
abbrev x_spec_rightAttrs_0 : List (Xt × Pt) := [(.ex 0, []), (.rt, [(2, .bool)])]
noncomputable def m_spec_rightAttrs_0 : Tup p_spec_rightAttrs_0 → Option (Stp (Tup p_spec_rightAttrs_0) (SumT (x_spec_rightAttrs_0.map (·.2)))) := fun (x : List Attr × Int) => bif Decidable.decide (Prod.snd x < (↑(List.length (Prod.fst x)) : Int)) then Option.bind (atI (Prod.fst x) (Prod.snd x)) fun (v : Attr) => Option.bind (m_spec_Name (Attr.key v)) fun (r : Bool) => bif !r then Option.some (Stp.out (Sum.inr Bool.false)) else Option.bind (atI (Prod.fst x) (Prod.snd x)) fun (v : Attr) => Option.bind (m_spec_Plain (Attr.val v)) fun (r : Bool) => bif !r then Option.some (Stp.out (Sum.inr Bool.false)) else Option.bind (loopO m_spec_rightAttrs_0_0 (Prod.fst x, Prod.snd x, (0 : Int))) fun (y : List Attr × Int ⊕ Bool) => selim (fun (y : List Attr × Int) => Option.some (Stp.nx (Prod.fst y, Go.IntKind.wrap Go.IntKind.i64 (Prod.snd y + (1 : Int))))) (fun (y : Bool) => Option.some (Stp.out (Sum.inr y))) y else Option.some (Stp.out (Sum.inl PUnit.unit))

noncomputable def m_spec_rightAttrs : Tup p_spec_rightAttrs → Option (Tup q_spec_rightAttrs) := fun (x : List Attr) => bif Decidable.decide ((20 : Int) < (↑(List.length x) : Int)) then Option.some Bool.false else Option.bind (loopO m_spec_rightAttrs_0 (x, (0 : Int))) fun (y : PUnit ⊕ Bool) => selim (fun (y : PUnit) => Option.some Bool.true) (fun (y : Bool) => Option.some y) y

noncomputable def cx_spec_rightAttrs : Cx := ⟨tb, lookE [(104, e_spec_Name), (102, e_spec_Plain)]⟩

theorem ck_spec_rightAttrs : CxOK Try.prog (cx_spec_rightAttrs) := cx_ok tb_ok (.cons ok_spec_Name Try.call104 (.cons ok_spec_Plain Try.call102 .nil))

noncomputable def c_spec_rightAttrs_0_0 : Code := loopAt (loopAt (Go.Proofs.Try.f105.body.getD .skip) 0) 0

noncomputable def l_spec_rightAttrs_0_0 : LEnt := ⟨p_spec_rightAttrs_0_0, x_spec_rightAttrs_0_0, loopO (m_spec_rightAttrs_0_0)⟩

theorem lo_spec_rightAttrs_0_0 : LOK Try.prog 46 0 false (l_spec_rightAttrs_0_0) c_spec_rightAttrs_0_0 := loop_ok (body := m_spec_rightAttrs_0_0) (L := lookL []) (ck_spec_rightAttrs) mixed (ls_ok (l := []) (by kernel_rfl) .nil) (by intro x; kernel_rfl) (fun x y h => loopO_iff.1 h)

noncomputable def c_spec_rightAttrs_0 : Code := loopAt (Go.Proofs.Try.f105.body.getD .skip) 0

noncomputable def l_spec_rightAttrs_0 : LEnt := ⟨p_spec_rightAttrs_0, x_spec_rightAttrs_0, loopO (m_spec_rightAttrs_0)⟩

theorem lo_spec_rightAttrs_0 : LOK Try.prog 46 0 false (l_spec_rightAttrs_0) c_spec_rightAttrs_0 := loop_ok (body := m_spec_rightAttrs_0) (L := lookL [(2, l_spec_rightAttrs_0_0)]) (ck_spec_rightAttrs) mixed (ls_ok (l := [(2, c_spec_rightAttrs_0_0)]) (by kernel_rfl) (.cons rfl (lo_spec_rightAttrs_0_0) .nil)) (by intro x; kernel_rfl) (fun x y h => loopO_iff.1 h)

noncomputable def e_spec_rightAttrs : Ent := ⟨0, p_spec_rightAttrs, q_spec_rightAttrs, m_spec_rightAttrs⟩
theorem ok_spec_rightAttrs : FnOK Try.prog 105 e_spec_rightAttrs := fn_ok (L := lookL [(0, l_spec_rightAttrs_0)]) ck_spec_rightAttrs mixed Try.func105 rfl (by kernel_rfl) (by kernel_rfl) (ls_ok (l := [(0, c_spec_rightAttrs_0)]) (by kernel_rfl) (.cons rfl (lo_spec_rightAttrs_0) .nil)) (by intro x; kernel_rfl)

/-! spec.rightNode -/
abbrev p_spec_rightNode : Pt := [(0, .lst .node), (1, .int .i64)]
abbrev q_spec_rightNode : Pt := [(0, .bool)]

noncomputable def m_spec_rightNode : Tup p_spec_rightNode → Option (Tup q_spec_rightNode) := fun (x : List Node × Int) => Option.bind (atI (Prod.fst x) (Prod.snd x)) fun (v : Node) => bif Decidable.decide (Node.kind v ≠ (3 : Int)) then bif Decidable.decide (Node.tag v ≠ Array.toList (ByteArray.data { data := #[] })) then Option.some Bool.false else bif Decidable.decide ((0 : Int) < (↑(List.length (Node.attrs v)) : Int)) then Option.some Bool.false else Option.bind (m_spec_Plain (Node.text v)) fun (r : Bool) => bif !r then Option.some Bool.false else bif Decidable.decide (Node.kind v = (1 : Int)) then bif Decidable.decide (Prod.snd x = (0 : Int)) then bif Decidable.decide (Node.text v = Array.toList (ByteArray.data { data := #[] })) then Option.bind (m_spec_rightRoot (Prod.fst x)) fun (r : Bool) => Option.some r else Option.some Bool.false else Option.some Bool.false else bif Decidable.decide (Node.kind v = (2 : Int)) then bif Decidable.decide (Node.size v = (1 : Int)) then Option.bind (m_spec_Name (Node.text v)) fun (r : Bool) => bif r then Option.bind (m_spec_Parent (Prod.fst x, Prod.snd x)) fun (r : Int) => Option.some (Decidable.decide (r = (0 : Int))) else Option.some Bool.false else Option.some Bool.false else bif Decidable.decide (Node.kind v = (4 : Int)) then Option.some (Decidable.decide (Node.size v = (1 : Int))) else bif Decidable.decide (Node.kind v = (5 : Int)) then Option.some (Decidable.decide (Node.size v = (1 : Int))) else bif Decidable.decide (Node.kind v = (3 : Int)) then bif Decidable.decide (Node.text v = Array.toList (ByteArray.data { data := #[] })) then Option.bind (m_spec_Name (Node.tag v)) fun (r : Bool) => bif r then Option.bind (m_spec_rightAttrs (Node.attrs v)) fun (r : Bool) => Option.some r else Option.some Bool.false else Option.some Bool.false else Option.some Bool.false else Option.bind (m_spec_Plain (Node.text v)) fun (r : Bool) => bif !r then Option.some Bool.false else bif Decidable.decide (Node.kind v = (1 : Int)) then bif Decidable.decide (Prod.snd x = (0 : Int)) then bif Decidable.decide (Node.text v = Array.toList (ByteArray.data { data := #[] })) then Option.bind (m_spec_rightRoot (Prod.fst x)) fun (r : Bool) => Option.some r else Option.some Bool.false else Option.some Bool.false else bif Decidable.decide (Node.kind v = (2 : Int)) then bif Decidable.decide (Node.size v = (1 : Int)) then Option.bind (m_spec_Name (Node.text v)) fun (r : Bool) => bif r then Option.bind (m_spec_Parent (Prod.fst x, Prod.snd x)) fun (r : Int) => Option.some (Decidable.decide (r = (0 : Int))) else Option.some Bool.false else Option.some Bool.false else bif Decidable.decide (Node.kind v = (4 : Int)) then Option.some (Decidable.decide (Node.size v = (1 : Int))) else bif Decidable.decide (Node.kind v = (5 : Int)) then Option.some (Decidable.decide (Node.size v = (1 : Int))) else bif Decidable.decide (Node.kind v = (3 : Int)) then bif Decidable.decide (Node.text v = Array.toList (ByteArray.data { data := #[] })) then Option.bind (m_spec_Name (Node.tag v)) fun (r : Bool) => bif r then Option.bind (m_spec_rightAttrs (Node.attrs v)) fun (r : Bool) => Option.some r else Option.some Bool.false else Option.some Bool.false else Option.some Bool.false

noncomputable def cx_spec_rightNode : Cx := ⟨tb, lookE [(102, e_spec_Plain), (103, e_spec_rightRoot), (104, e_spec_Name), (76, e_spec_Parent), (105, e_spec_rightAttrs)]⟩

theorem ck_spec_rightNode : CxOK Try.prog (cx_spec_rightNode) := cx_ok tb_ok (.cons ok_spec_Plain Try.call102 (.cons ok_spec_rightRoot Try.call103 (.cons ok_spec_Name Try.call104 (.cons ok_spec_Parent Try.call76 (.cons ok_spec_rightAttrs Try.call105 .nil)))))

noncomputable def e_spec_rightNode : Ent := ⟨0, p_spec_rightNode, q_spec_rightNode, m_spec_rightNode⟩
theorem ok_spec_rightNode : FnOK Try.prog 71 e_spec_rightNode := fn_ok (L := lookL []) ck_spec_rightNode mixed Try.func71 rfl (by kernel_rfl) (by kernel_rfl) (ls_ok (l := []) (by kernel_rfl) .nil) (by intro x; kernel_rfl)

/-! spec.Right -/
abbrev p_spec_Right : Pt := [(0, .lst .node)]
abbrev q_spec_Right : Pt := [(0, .bool)]

abbrev p_spec_Right_0_0 : Pt := [(0, .lst .node), (3, .int .i64), (4, .int .i64), (5, .int .i64)]
abbrev x_spec_Right_0_0 : List (Xt × Pt) := [(.ex 2, [(0, .lst .node), (3, .int .i64), (4, .int .i64)])]
noncomputable def m_spec_Right_0_0 : Tup p_spec_Right_0_0 → Option (Stp (Tup p_spec_Right_0_0) (SumT (x_spec_Right_0_0.map (·.2)))) := fun (x : List Node × Int × Int × Int) => Option.bind (atI (Prod.fst x) (Prod.fst (Prod.snd (Prod.snd x)))) fun (v : Node) => bif Decidable.decide (Prod.snd (Prod.snd (Prod.snd x)) < (↑(List.length (Node.attrs v)) : Int)) then bif Decidable.decide (Prod.fst (Prod.snd x) ≤ (4000 : Int)) then Option.bind (atI (Prod.fst x) (Prod.fst (Prod.snd (Prod.snd x)))) fun (v : Node) => Option.bind (atI (Node.attrs v) (Prod.snd (Prod.snd (Prod.snd x)))) fun (v : Attr) => Option.some (Stp.nx (Prod.fst x, Go.IntKind.wrap Go.IntKind.i64 (Prod.fst (Prod.snd x) + if (4001 : Int) < (↑(List.length (Attr.val v)) : Int) then (4001 : Int) else (↑(List.length (Attr.val v)) : Int)), Prod.fst (Prod.snd (Prod.snd x)), Go.IntKind.wrap Go.IntKind.i64 (Prod.snd (Prod.snd (Prod.snd x)) + (1 : Int)))) else Option.some (Stp.out (Prod.fst x, Prod.fst (Prod.snd x), Prod.fst (Prod.snd (Prod.snd x)))) else Option.some (Stp.out (Prod.fst x, Prod.fst (Prod.snd x), Prod.fst (Prod.snd (Prod.snd x))))

abbrev p_spec_Right_0 : Pt := [(0, .lst .node), (3, .int .i64), (4, .int .i64)]
abbrev x_spec_Right_0 : List (Xt × Pt) := [(.ex 0, []), (.rt, [(2, .bool)])]
noncomputable def m_spec_Right_0 : Tup p_spec_Right_0 → Option (Stp (Tup p_spec_Right_0) (SumT (x_spec_Right_0.map (·.2)))) := fun (x : List Node × Int × Int) => bif Decidable.decide (Prod.snd (Prod.snd x) < (↑(List.length (Prod.fst x)) : Int)) then Option.bind (atI (Prod.fst x) (Prod.snd (Prod.snd x))) fun (v : Node) => Option.bind (loopO m_spec_Right_0_0 (Prod.fst x, Go.IntKind.wrap Go.IntKind.i64 (Prod.fst (Prod.snd x) + if (4001 : Int) < (↑(List.length (Node.text v)) : Int) then (4001 : Int) else (↑(List.length (Node.text v)) : Int)), Prod.snd (Prod.snd x), (0 : Int))) fun (y : List Node × Int × Int) => bif Decidable.decide ((4000 : Int) < Prod.fst (Prod.snd y)) then Option.some (Stp.out (Sum.inr Bool.false)) else Option.bind (m_spec_rightNode (Prod.fst y, Prod.snd (Prod.snd y))) fun (r : Bool) => bif !r then Option.some (Stp.out (Sum.inr Bool.false)) else Option.some (Stp.nx (Prod.fst y, Prod.fst (Prod.snd y), Go.IntKind.wrap Go.IntKind.i64 (Prod.snd (Prod.snd y) + (1 : Int)))) else Option.some (Stp.out (Sum.inl PUnit.unit))

noncomputable def m_spec_Right : Tup p_spec_Right → Option (Tup q_spec_Right) := fun (x : List Node) => bif Decidable.decide ((↑(List.length x) : Int) = (0 : Int)) then Option.some Bool.false else bif Decidable.decide ((200 : Int) < (↑(List.length x) : Int)) then Option.some Bool.false else Option.bind (atI x (0 : Int)) fun (v : Node) => bif Decidable.decide (Node.size v ≠ (↑(List.length x) : Int)) then Option.some Bool.false else Option.bind (atI x (0 : Int)) fun (v : Node) => bif Decidable.decide (Node.kind v ≠ (1 : Int)) then Option.some Bool.false else Option.bind (m_spec_sized big (x, (0 : Int), (↑(List.length x) : Int), (40 : Int))) fun (r : Bool) => bif !r then Option.some Bool.false else Option.bind (loopO m_spec_Right_0 (x, (0 : Int), (0 : Int))) fun (y : PUnit ⊕ Bool) => selim (fun (y : PUnit) => Option.some Bool.true) (fun (y : Bool) => Option.some y) y

noncomputable def cx_spec_Right : Cx := ⟨tb, lookE [(70, e_spec_sized), (71, e_spec_rightNode)]⟩

theorem ck_spec_Right : CxOK Try.prog (cx_spec_Right) := cx_ok tb_ok (.cons ok_spec_sized Try.call70 (.cons ok_spec_rightNode Try.call71 .nil))

noncomputable def c_spec_Right_0_0 : Code := loopAt (loopAt (Go.Proofs.Try.f41.body.getD .skip) 0) 0

noncomputable def l_spec_Right_0_0 : LEnt := ⟨p_spec_Right_0_0, x_spec_Right_0_0, loopO (m_spec_Right_0_0)⟩

theorem lo_spec_Right_0_0 : LOK Try.prog 87 0 false (l_spec_Right_0_0) c_spec_Right_0_0 := loop_ok (body := m_spec_Right_0_0) (L := lookL []) (ck_spec_Right) mixed (ls_ok (l := []) (by kernel_rfl) .nil) (by intro x; kernel_rfl) (fun x y h => loopO_iff.1 h)

noncomputable def c_spec_Right_0 : Code := loopAt (Go.Proofs.Try.f41.body.getD .skip) 0

noncomputable def l_spec_Right_0 : LEnt := ⟨p_spec_Right_0, x_spec_Right_0, loopO (m_spec_Right_0)⟩

theorem lo_spec_Right_0 : LOK Try.prog 87 0 false (l_spec_Right_0) c_spec_Right_0 := loop_ok (body := m_spec_Right_0) (L := lookL [(2, l_spec_Right_0_0)]) (ck_spec_Right) mixed (ls_ok (l := [(2, c_spec_Right_0_0)]) (by kernel_rfl) (.cons rfl (lo_spec_Right_0_0) .nil)) (by intro x; kernel_rfl) (fun x y h => loopO_iff.1 h)

noncomputable def e_spec_Right : Ent := ⟨0, p_spec_Right, q_spec_Right, m_spec_Right⟩
theorem ok_spec_Right : FnOK Try.prog 41 e_spec_Right := fn_ok (L := lookL [(0, l_spec_Right_0)]) ck_spec_Right mixed Try.func41 rfl (by kernel_rfl) (by kernel_rfl) (ls_ok (l := [(0, c_spec_Right_0)]) (by kernel_rfl) (.cons rfl (lo_spec_Right_0) .nil)) (by intro x; kernel_rfl)

/-! spec.Order -/
abbrev p_spec_Order : Pt := [(0, .lst .node), (1, .lst .int)]
abbrev q_spec_Order : Pt := [(0, .bool)]

abbrev p_spec_Order_0 : Pt := [(0, .lst .node), (1, .lst .int), (5, .int .i64)]
abbrev x_spec_Order_0 : List (Xt × Pt) := [(.ex 0, []), (.rt, [(4, .bool)])]
noncomputable def m_spec_Order_0 : Tup p_spec_Order_0 → Option (Stp (Tup p_spec_Order_0) (SumT (x_spec_Order_0.map (·.2)))) := fun (x : List Node × List Int × Int) => bif Decidable.decide (Prod.snd (Prod.snd x) < (↑(List.length (Prod.fst (Prod.snd x))) : Int)) then Option.bind (atI (Prod.fst (Prod.snd x)) (Prod.snd (Prod.snd x))) fun (v : Int) => bif Decidable.decide (v < (0 : Int)) then Option.some (Stp.out (Sum.inr Bool.false)) else Option.bind (atI (Prod.fst (Prod.snd x)) (Prod.snd (Prod.snd x))) fun (v : Int) => bif Decidable.decide ((↑(List.length (Prod.fst x)) : Int) ≤ v) then Option.some (Stp.out (Sum.inr Bool.false)) else bif Decidable.decide ((0 : Int) < Prod.snd (Prod.snd x)) then Option.bind (atI (Prod.fst (Prod.snd x)) (Prod.snd (Prod.snd x))) fun (v : Int) => Option.bind (atI (Prod.fst (Prod.snd x)) (Go.IntKind.wrap Go.IntKind.i64 (Prod.snd (Prod.snd x) - (1 : Int)))) fun (v_1 : Int) => bif Decidable.decide (v ≤ v_1) then Option.some (Stp.out (Sum.inr Bool.false)) else Option.some (Stp.nx (Prod.fst x, Prod.fst (Prod.snd x), Go.IntKind.wrap Go.IntKind.i64 (Prod.snd (Prod.snd x) + (1 : Int)))) else Option.some (Stp.nx (Prod.fst x, Prod.fst (Prod.snd x), Go.IntKind.wrap Go.IntKind.i64 (Prod.snd (Prod.snd x) + (1 : Int)))) else Option.some (Stp.out (Sum.inl PUnit.unit))

noncomputable def m_spec_Order : Tup p_spec_Order → Option (Tup q_spec_Order) := fun (x : List Node × List Int) => Option.bind (loopO m_spec_Order_0 (Prod.fst x, Prod.snd x, (0 : Int))) fun (y : PUnit ⊕ Bool) => selim (fun (y : PUnit) => Option.some Bool.true) (fun (y : Bool) => Option.some y) y

noncomputable def cx_spec_Order : Cx := ⟨tb, lookE []⟩

theorem ck_spec_Order : CxOK Try.prog (cx_spec_Order) := cx_ok tb_ok .nil

noncomputable def c_spec_Order_0 : Code := loopAt (Go.Proofs.Try.f19.body.getD .skip) 0

noncomputable def l_spec_Order_0 : LEnt := ⟨p_spec_Order_0, x_spec_Order_0, loopO (m_spec_Order_0)⟩

theorem lo_spec_Order_0 : LOK Try.prog 42 0 false (l_spec_Order_0) c_spec_Order_0 := loop_ok (body := m_spec_Order_0) (L := lookL []) (ck_spec_Order) mixed (ls_ok (l := []) (by kernel_rfl) .nil) (by intro x; kernel_rfl) (fun x y h => loopO_iff.1 h)

noncomputable def e_spec_Order : Ent := ⟨0, p_spec_Order, q_spec_Order, m_spec_Order⟩
theorem ok_spec_Order : FnOK Try.prog 19 e_spec_Order := fn_ok (L := lookL [(0, l_spec_Order_0)]) ck_spec_Order mixed Try.func19 rfl (by kernel_rfl) (by kernel_rfl) (ls_ok (l := [(0, c_spec_Order_0)]) (by kernel_rfl) (.cons rfl (lo_spec_Order_0) .nil)) (by intro x; kernel_rfl)

/-! laws.isPlace -/
abbrev p_laws_isPlace : Pt := [(0, .lst .int), (1, .int .i64)]
abbrev q_laws_isPlace : Pt := [(0, .bool)]

abbrev p_laws_isPlace_0 : Pt := [(0, .lst .int), (1, .int .i64), (5, .int .i64)]
abbrev x_laws_isPlace_0 : List (Xt × Pt) := [(.ex 0, []), (.rt, [(4, .bool)])]
noncomputable def m_laws_isPlace_0 : Tup p_laws_isPlace_0 → Option (Stp (Tup p_laws_isPlace_0) (SumT (x_laws_isPlace_0.map (·.2)))) := fun (x : List Int × Int × Int) => bif Decidable.decide (Prod.snd (Prod.snd x) < (↑(List.length (Prod.fst x)) : Int)) then Option.bind (atI (Prod.fst x) (Prod.snd (Prod.snd x))) fun (v : Int) => bif Decidable.decide (v = Prod.fst (Prod.snd x)) then Option.some (Stp.out (Sum.inr Bool.true)) else Option.some (Stp.nx (Prod.fst x, Prod.fst (Prod.snd x), Go.IntKind.wrap Go.IntKind.i64 (Prod.snd (Prod.snd x) + (1 : Int)))) else Option.some (Stp.out (Sum.inl PUnit.unit))

noncomputable def m_laws_isPlace : Tup p_laws_isPlace → Option (Tup q_laws_isPlace) := fun (x : List Int × Int) => Option.bind (loopO m_laws_isPlace_0 (Prod.fst x, Prod.snd x, (0 : Int))) fun (y : PUnit ⊕ Bool) => selim (fun (y : PUnit) => Option.some Bool.false) (fun (y : Bool) => Option.some y) y

noncomputable def cx_laws_isPlace : Cx := ⟨tb, lookE []⟩

theorem ck_laws_isPlace : CxOK Try.prog (cx_laws_isPlace) := cx_ok tb_ok .nil

noncomputable def c_laws_isPlace_0 : Code := loopAt (Go.Proofs.Try.f72.body.getD .skip) 0

noncomputable def l_laws_isPlace_0 : LEnt := ⟨p_laws_isPlace_0, x_laws_isPlace_0, loopO (m_laws_isPlace_0)⟩

theorem lo_laws_isPlace_0 : LOK Try.prog 18 0 false (l_laws_isPlace_0) c_laws_isPlace_0 := loop_ok (body := m_laws_isPlace_0) (L := lookL []) (ck_laws_isPlace) mixed (ls_ok (l := []) (by kernel_rfl) .nil) (by intro x; kernel_rfl) (fun x y h => loopO_iff.1 h)

noncomputable def e_laws_isPlace : Ent := ⟨0, p_laws_isPlace, q_laws_isPlace, m_laws_isPlace⟩
theorem ok_laws_isPlace : FnOK Try.prog 72 e_laws_isPlace := fn_ok (L := lookL [(0, l_laws_isPlace_0)]) ck_laws_isPlace mixed Try.func72 rfl (by kernel_rfl) (by kernel_rfl) (ls_ok (l := [(0, c_laws_isPlace_0)]) (by kernel_rfl) (.cons rfl (lo_laws_isPlace_0) .nil)) (by intro x; kernel_rfl)

/-! laws.elements -/
abbrev p_laws_elements : Pt := [(0, .lst .node), (1, .lst .int)]
abbrev q_laws_elements : Pt := [(0, .bool)]

abbrev p_laws_elements_0 : Pt := [(0, .lst .node), (1, .lst .int), (5, .int .i64)]
abbrev x_laws_elements_0 : List (Xt × Pt) := [(.ex 0, []), (.rt, [(4, .bool)])]
noncomputable def m_laws_elements_0 : Tup p_laws_elements_0 → Option (Stp (Tup p_laws_elements_0) (SumT (x_laws_elements_0.map (·.2)))) := fun (x : List Node × List Int × Int) => bif Decidable.decide (Prod.snd (Prod.snd x) < (↑(List.length (Prod.fst (Prod.snd x))) : Int)) then Option.bind (atI (Prod.fst (Prod.snd x)) (Prod.snd (Prod.snd x))) fun (v : Int) => bif Decidable.decide (v < (0 : Int)) then Option.some (Stp.out (Sum.inr Bool.false)) else Option.bind (atI (Prod.fst (Prod.snd x)) (Prod.snd (Prod.snd x))) fun (v : Int) => bif Decidable.decide ((↑(List.length (Prod.fst x)) : Int) ≤ v) then Option.some (Stp.out (Sum.inr Bool.false)) else Option.bind (atI (Prod.fst (Prod.snd x)) (Prod.snd (Prod.snd x))) fun (v : Int) => Option.bind (atI (Prod.fst x) v) fun (v : Node) => bif Decidable.decide (Node.kind v ≠ (3 : Int)) then Option.some (Stp.out (Sum.inr Bool.false)) else Option.bind (subL (Prod.fst (Prod.snd x)) (0 : Int) (Prod.snd (Prod.snd x))) fun (m : List Int) => Option.bind (atI (Prod.fst (Prod.snd x)) (Prod.snd (Prod.snd x))) fun (v : Int) => Option.bind (m_laws_isPlace (m, v)) fun (r : Bool) => bif r then Option.some (Stp.out (Sum.inr Bool.false)) else Option.some (Stp.nx (Prod.fst x, Prod.fst (Prod.snd x), Go.IntKind.wrap Go.IntKind.i64 (Prod.snd (Prod.snd x) + (1 : Int)))) else Option.some (Stp.out (Sum.inl PUnit.unit))

noncomputable def m_laws_elements : Tup p_laws_elements → Option (Tup q_laws_elements) := fun (x : List Node × List Int) => Option.bind (loopO m_laws_elements_0 (Prod.fst x, Prod.snd x, (0 : Int))) fun (y : PUnit ⊕ Bool) => selim (fun (y : PUnit) => Option.some Bool.true) (fun (y : Bool) => Option.some y) y

noncomputable def cx_laws_elements : Cx := ⟨tb, lookE [(72, e_laws_isPlace)]⟩

theorem ck_laws_elements : CxOK Try.prog (cx_laws_elements) := cx_ok tb_ok (.cons ok_laws_isPlace Try.call72 .nil)

noncomputable def c_laws_elements_0 : Code := loopAt (Go.Proofs.Try.f42.body.getD .skip) 0

noncomputable def l_laws_elements_0 : LEnt := ⟨p_laws_elements_0, x_laws_elements_0, loopO (m_laws_elements_0)⟩

theorem lo_laws_elements_0 : LOK Try.prog 47 0 false (l_laws_elements_0) c_laws_elements_0 := loop_ok (body := m_laws_elements_0) (L := lookL []) (ck_laws_elements) mixed (ls_ok (l := []) (by kernel_rfl) .nil) (by intro x; kernel_rfl) (fun x y h => loopO_iff.1 h)

noncomputable def e_laws_elements : Ent := ⟨0, p_laws_elements, q_laws_elements, m_laws_elements⟩
theorem ok_laws_elements : FnOK Try.prog 42 e_laws_elements := fn_ok (L := lookL [(0, l_laws_elements_0)]) ck_laws_elements mixed Try.func42 rfl (by kernel_rfl) (by kernel_rfl) (ls_ok (l := [(0, c_laws_elements_0)]) (by kernel_rfl) (.cons rfl (lo_laws_elements_0) .nil)) (by intro x; kernel_rfl)

/-! laws.rising -/
abbrev p_laws_rising : Pt := [(0, .lst .node), (1, .lst .int)]
abbrev q_laws_rising : Pt := [(0, .bool)]

noncomputable def m_laws_rising : Tup p_laws_rising → Option (Tup q_laws_rising) := fun (x : List Node × List Int) => Option.bind (m_spec_Right (Prod.fst x)) fun (r : Bool) => bif r then Option.bind (m_spec_Order (Prod.fst x, Prod.snd x)) fun (r : Bool) => bif r then Option.bind (m_laws_elements (Prod.fst x, Prod.snd x)) fun (r : Bool) => Option.some r else Option.some Bool.false else Option.some Bool.false

noncomputable def cx_laws_rising : Cx := ⟨tb, lookE [(41, e_spec_Right), (19, e_spec_Order), (42, e_laws_elements)]⟩

theorem ck_laws_rising : CxOK Try.prog (cx_laws_rising) := cx_ok tb_ok (.cons ok_spec_Right Try.call41 (.cons ok_spec_Order Try.call19 (.cons ok_laws_elements Try.call42 .nil)))

noncomputable def e_laws_rising : Ent := ⟨0, p_laws_rising, q_laws_rising, m_laws_rising⟩
theorem ok_laws_rising : FnOK Try.prog 13 e_laws_rising := fn_ok (L := lookL []) ck_laws_rising mixed Try.func13 rfl (by kernel_rfl) (by kernel_rfl) (ls_ok (l := []) (by kernel_rfl) .nil) (by intro x; kernel_rfl)

/-! laws.by7 -/
abbrev p_laws_by7 : Pt := [(0, .int .i64)]
abbrev q_laws_by7 : Pt := [(0, .el (.rc (.int .i64) [.str, .ints, (.int .i64), (.int .i64)] 0))]

noncomputable def m_laws_by7 : Tup p_laws_by7 → Option (Tup q_laws_by7) := fun (x : Int) => Option.some (x, [], [], (0 : Int), (0 : Int))

noncomputable def cx_laws_by7 : Cx := ⟨tb, lookE []⟩

theorem ck_laws_by7 : CxOK Try.prog (cx_laws_by7) := cx_ok tb_ok .nil

noncomputable def e_laws_by7 : Ent := ⟨0, p_laws_by7, q_laws_by7, m_laws_by7⟩
theorem ok_laws_by7 : FnOK Try.prog 15 e_laws_by7 := fn_ok (L := lookL []) ck_laws_by7 mixed Try.func15 rfl (by kernel_rfl) (by kernel_rfl) (ls_ok (l := []) (by kernel_rfl) .nil) (by intro x; kernel_rfl)

/-! spec.BesideOf -/
abbrev p_spec_BesideOf : Pt := [(0, .lst .node), (1, .int .i64), (2, .bool)]
abbrev q_spec_BesideOf : Pt := [(0, .own .int 3)]

abbrev p_spec_BesideOf_0 : Pt := [(1, .int .i64), (2, .bool), (8, .own .int 3), (9, .own .int 3), (10, .int .i64)]
abbrev x_spec_BesideOf_0 : List (Xt × Pt) := [(.ex 0, [(8, .own .int 3)])]
noncomputable def m_spec_BesideOf_0 : Tup p_spec_BesideOf_0 → Option (Stp (Tup p_spec_BesideOf_0) (SumT (x_spec_BesideOf_0.map (·.2)))) := fun (x : Int × Bool × List Int × List Int × Int) => bif Decidable.decide (Prod.snd (Prod.snd (Prod.snd (Prod.snd x))) < (↑(List.length (Prod.fst (Prod.snd (Prod.snd (Prod.snd x))))) : Int)) then bif Prod.fst (Prod.snd x) then Option.bind (atI (Prod.fst (Prod.snd (Prod.snd (Prod.snd x)))) (Prod.snd (Prod.snd (Prod.snd (Prod.snd x))))) fun (x_1 : Int) => Option.bind (Prod.fst (Prod.snd (Prod.snd (Prod.snd x))))[Int.toNat (Prod.snd (Prod.snd (Prod.snd (Prod.snd x))))]? fun (v : Int) => bif Decidable.decide (Prod.fst x < v) then Option.bind (atI (Prod.fst (Prod.snd (Prod.snd (Prod.snd x)))) (Prod.snd (Prod.snd (Prod.snd (Prod.snd x))))) fun (x_2 : Int) => Option.bind (Prod.fst (Prod.snd (Prod.snd (Prod.snd x))))[Int.toNat (Prod.snd (Prod.snd (Prod.snd (Prod.snd x))))]? fun (v : Int) => Option.bind (appL (Prod.fst (Prod.snd (Prod.snd x))) [v]) fun (r : List Int) => Option.bind (atI (Prod.fst (Prod.snd (Prod.snd (Prod.snd x)))) (Go.IntKind.wrap Go.IntKind.i64 (Go.IntKind.wrap Go.IntKind.i64 ((↑(List.length (Prod.fst (Prod.snd (Prod.snd (Prod.snd x))))) : Int) - (1 : Int)) - Prod.snd (Prod.snd (Prod.snd (Prod.snd x)))))) fun (x_3 : Int) => Option.bind (Prod.fst (Prod.snd (Prod.snd (Prod.snd x))))[Int.toNat (Go.IntKind.wrap Go.IntKind.i64 (Go.IntKind.wrap Go.IntKind.i64 ((↑(List.length (Prod.fst (Prod.snd (Prod.snd (Prod.snd x))))) : Int) - (1 : Int)) - Prod.snd (Prod.snd (Prod.snd (Prod.snd x)))))]? fun (v : Int) => bif !Prod.fst (Prod.snd x) then bif Decidable.decide (v < Prod.fst x) then Option.bind (appL r [v]) fun (r : List Int) => Option.some (Stp.nx (Prod.fst x, Prod.fst (Prod.snd x), r, Prod.fst (Prod.snd (Prod.snd (Prod.snd x))), Go.IntKind.wrap Go.IntKind.i64 (Prod.snd (Prod.snd (Prod.snd (Prod.snd x))) + (1 : Int)))) else Option.some (Stp.nx (Prod.fst x, Prod.fst (Prod.snd x), r, Prod.fst (Prod.snd (Prod.snd (Prod.snd x))), Go.IntKind.wrap Go.IntKind.i64 (Prod.snd (Prod.snd (Prod.snd (Prod.snd x))) + (1 : Int)))) else Option.some (Stp.nx (Prod.fst x, Prod.fst (Prod.snd x), r, Prod.fst (Prod.snd (Prod.snd (Prod.snd x))), Go.IntKind.wrap Go.IntKind.i64 (Prod.snd (Prod.snd (Prod.snd (Prod.snd x))) + (1 : Int)))) else Option.bind (atI (Prod.fst (Prod.snd (Prod.snd (Prod.snd x)))) (Go.IntKind.wrap Go.IntKind.i64 (Go.IntKind.wrap Go.IntKind.i64 ((↑(List.length (Prod.fst (Prod.snd (Prod.snd (Prod.snd x))))) : Int) - (1 : Int)) - Prod.snd (Prod.snd (Prod.snd (Prod.snd x)))))) fun (x_2 : Int) => Option.bind (Prod.fst (Prod.snd (Prod.snd (Prod.snd x))))[Int.toNat (Go.IntKind.wrap Go.IntKind.i64 (Go.IntKind.wrap Go.IntKind.i64 ((↑(List.length (Prod.fst (Prod.snd (Prod.snd (Prod.snd x))))) : Int) - (1 : Int)) - Prod.snd (Prod.snd (Prod.snd (Prod.snd x)))))]? fun (v : Int) => bif !Prod.fst (Prod.snd x) then bif Decidable.decide (v < Prod.fst x) then Option.bind (appL (Prod.fst (Prod.snd (Prod.snd x))) [v]) fun (r : List Int) => Option.some (Stp.nx (Prod.fst x, Prod.fst (Prod.snd x), r, Prod.fst (Prod.snd (Prod.snd (Prod.snd x))), Go.IntKind.wrap Go.IntKind.i64 (Prod.snd (Prod.snd (Prod.snd (Prod.snd x))) + (1 : Int)))) else Option.some (Stp.nx (Prod.fst x, Prod.fst (Prod.snd x), Prod.fst (Prod.snd (Prod.snd x)), Prod.fst (Prod.snd (Prod.snd (Prod.snd x))), Go.IntKind.wrap Go.IntKind.i64 (Prod.snd (Prod.snd (Prod.snd (Prod.snd x))) + (1 : Int)))) else Option.some (Stp.nx (Prod.fst x, Prod.fst (Prod.snd x), Prod.fst (Prod.snd (Prod.snd x)), Prod.fst (Prod.snd (Prod.snd (Prod.snd x))), Go.IntKind.wrap Go.IntKind.i64 (Prod.snd (Prod.snd (Prod.snd (Prod.snd x))) + (1 : Int)))) else Option.bind (atI (Prod.fst (Prod.snd (Prod.snd (Prod.snd x)))) (Go.IntKind.wrap Go.IntKind.i64 (Go.IntKind.wrap Go.IntKind.i64 ((↑(List.length (Prod.fst (Prod.snd (Prod.snd (Prod.snd x))))) : Int) - (1 : Int)) - Prod.snd (Prod.snd (Prod.snd (Prod.snd x)))))) fun (x_1 : Int) => Option.bind (Prod.fst (Prod.snd (Prod.snd (Prod.snd x))))[Int.toNat (Go.IntKind.wrap Go.IntKind.i64 (Go.IntKind.wrap Go.IntKind.i64 ((↑(List.length (Prod.fst (Prod.snd (Prod.snd (Prod.snd x))))) : Int) - (1 : Int)) - Prod.snd (Prod.snd (Prod.snd (Prod.snd x)))))]? fun (v : Int) => bif !Prod.fst (Prod.snd x) then bif Decidable.decide (v < Prod.fst x) then Option.bind (appL (Prod.fst (Prod.snd (Prod.snd x))) [v]) fun (r : List Int) => Option.some (Stp.nx (Prod.fst x, Prod.fst (Prod.snd x), r, Prod.fst (Prod.snd (Prod.snd (Prod.snd x))), Go.IntKind.wrap Go.IntKind.i64 (Prod.snd (Prod.snd (Prod.snd (Prod.snd x))) + (1 : Int)))) else Option.some (Stp.nx (Prod.fst x, Prod.fst (Prod.snd x), Prod.fst (Prod.snd (Prod.snd x)), Prod.fst (Prod.snd (Prod.snd (Prod.snd x))), Go.IntKind.wrap Go.IntKind.i64 (Prod.snd (Prod.snd (Prod.snd (Prod.snd x))) + (1 : Int)))) else Option.some (Stp.nx (Prod.fst x, Prod.fst (Prod.snd x), Prod.fst (Prod.snd (Prod.snd x)), Prod.fst (Prod.snd (Prod.snd (Prod.snd x))), Go.IntKind.wrap Go.IntKind.i64 (Prod.snd (Prod.snd (Prod.snd (Prod.snd x))) + (1 : Int)))) else Option.some (Stp.out (Prod.fst (Prod.snd (Prod.snd x))))

noncomputable def m_spec_BesideOf : Tup p_spec_BesideOf → Option (Tup q_spec_BesideOf) := fun (x : List Node × Int × Bool) => Option.bind (m_spec_Parent (Prod.fst x, Prod.fst (Prod.snd x))) fun (r : Int) => bif Decidable.decide (r < (0 : Int)) then Option.some [] else Option.bind (m_spec_Elements (Prod.fst x, r)) fun (r : List Int) => Option.bind (loopO m_spec_BesideOf_0 (Prod.fst (Prod.snd x), Prod.snd (Prod.snd x), [], r, (0 : Int))) fun (y : List Int) => Option.some y

noncomputable def cx_spec_BesideOf : Cx := ⟨tb, lookE [(76, e_spec_Parent), (75, e_spec_Elements)]⟩

theorem ck_spec_BesideOf : CxOK Try.prog (cx_spec_BesideOf) := cx_ok tb_ok (.cons ok_spec_Parent Try.call76 (.cons ok_spec_Elements Try.call75 .nil))

noncomputable def c_spec_BesideOf_0 : Code := loopAt (Go.Proofs.Try.f79.body.getD .skip) 0

noncomputable def l_spec_BesideOf_0 : LEnt := ⟨p_spec_BesideOf_0, x_spec_BesideOf_0, loopO (m_spec_BesideOf_0)⟩

theorem lo_spec_BesideOf_0 : LOK Try.prog 62 0 false (l_spec_BesideOf_0) c_spec_BesideOf_0 := loop_ok (body := m_spec_BesideOf_0) (L := lookL []) (ck_spec_BesideOf) mixed (ls_ok (l := []) (by kernel_rfl) .nil) (by intro x; kernel_rfl) (fun x y h => loopO_iff.1 h)

noncomputable def e_spec_BesideOf : Ent := ⟨0, p_spec_BesideOf, q_spec_BesideOf, m_spec_BesideOf⟩
theorem ok_spec_BesideOf : FnOK Try.prog 79 e_spec_BesideOf := fn_ok (L := lookL [(0, l_spec_BesideOf_0)]) ck_spec_BesideOf mixed Try.func79 rfl (by kernel_rfl) (by kernel_rfl) (ls_ok (l := [(0, c_spec_BesideOf_0)]) (by kernel_rfl) (.cons rfl (lo_spec_BesideOf_0) .nil)) (by intro x; kernel_rfl)

/-! spec.AboveOf -/
abbrev p_spec_AboveOf : Pt := [(0, .lst .node), (1, .int .i64)]
abbrev q_spec_AboveOf : Pt := [(0, .own .int 3)]

abbrev p_spec_AboveOf_0 : Pt := [(0, .lst .node), (1, .int .i64), (5, .own .int 3)]
abbrev x_spec_AboveOf_0 : List (Xt × Pt) := [(.ex 0, [(5, .own .int 3)])]
noncomputable def m_spec_AboveOf_0 : Tup p_spec_AboveOf_0 → Option (Stp (Tup p_spec_AboveOf_0) (SumT (x_spec_AboveOf_0.map (·.2)))) := fun (x : List Node × Int × List Int) => bif Decidable.decide ((0 : Int) ≤ Prod.fst (Prod.snd x)) then Option.bind (atI (Prod.fst x) (Prod.fst (Prod.snd x))) fun (v : Node) => bif Decidable.decide (Node.kind v = (3 : Int)) then Option.bind (appL (Prod.snd (Prod.snd x)) [Prod.fst (Prod.snd x)]) fun (r : List Int) => Option.bind (m_spec_Parent (Prod.fst x, Prod.fst (Prod.snd x))) fun (r_1 : Int) => Option.some (Stp.nx (Prod.fst x, r_1, r)) else Option.bind (m_spec_Parent (Prod.fst x, Prod.fst (Prod.snd x))) fun (r : Int) => Option.some (Stp.nx (Prod.fst x, r, Prod.snd (Prod.snd x))) else Option.some (Stp.out (Prod.snd (Prod.snd x)))

noncomputable def m_spec_AboveOf : Tup p_spec_AboveOf → Option (Tup q_spec_AboveOf) := fun (x : List Node × Int) => Option.bind (m_spec_Parent (Prod.fst x, Prod.snd x)) fun (r : Int) => Option.bind (loopO m_spec_AboveOf_0 (Prod.fst x, r, [])) fun (y : List Int) => Option.some y

noncomputable def cx_spec_AboveOf : Cx := ⟨tb, lookE [(76, e_spec_Parent)]⟩

theorem ck_spec_AboveOf : CxOK Try.prog (cx_spec_AboveOf) := cx_ok tb_ok (.cons ok_spec_Parent Try.call76 .nil)

noncomputable def c_spec_AboveOf_0 : Code := loopAt (Go.Proofs.Try.f77.body.getD .skip) 0

noncomputable def l_spec_AboveOf_0 : LEnt := ⟨p_spec_AboveOf_0, x_spec_AboveOf_0, loopO (m_spec_AboveOf_0)⟩

theorem lo_spec_AboveOf_0 : LOK Try.prog 25 0 false (l_spec_AboveOf_0) c_spec_AboveOf_0 := loop_ok (body := m_spec_AboveOf_0) (L := lookL []) (ck_spec_AboveOf) mixed (ls_ok (l := []) (by kernel_rfl) .nil) (by intro x; kernel_rfl) (fun x y h => loopO_iff.1 h)

noncomputable def e_spec_AboveOf : Ent := ⟨0, p_spec_AboveOf, q_spec_AboveOf, m_spec_AboveOf⟩
theorem ok_spec_AboveOf : FnOK Try.prog 77 e_spec_AboveOf := fn_ok (L := lookL [(0, l_spec_AboveOf_0)]) ck_spec_AboveOf mixed Try.func77 rfl (by kernel_rfl) (by kernel_rfl) (ls_ok (l := [(0, c_spec_AboveOf_0)]) (by kernel_rfl) (.cons rfl (lo_spec_AboveOf_0) .nil)) (by intro x; kernel_rfl)

/-! spec.upTo -/
abbrev p_spec_upTo : Pt := [(0, .lst .int), (1, .lst .int)]
abbrev q_spec_upTo : Pt := [(0, .lst .int)]

abbrev p_spec_upTo_0 : Pt := [(0, .lst .int), (1, .lst .int), (5, .int .i64)]
abbrev x_spec_upTo_0 : List (Xt × Pt) := [(.ex 0, [(0, .lst .int)]), (.rt, [(4, .lst .int)])]
noncomputable def m_spec_upTo_0 : Tup p_spec_upTo_0 → Option (Stp (Tup p_spec_upTo_0) (SumT (x_spec_upTo_0.map (·.2)))) := fun (x : List Int × List Int × Int) => bif Decidable.decide (Prod.snd (Prod.snd x) < (↑(List.length (Prod.fst x)) : Int)) then Option.bind (atI (Prod.fst x) (Prod.snd (Prod.snd x))) fun (v : Int) => Option.bind (m_spec_in (Prod.fst (Prod.snd x), v)) fun (r : Bool) => bif r then Option.bind (subL (Prod.fst x) (0 : Int) (Prod.snd (Prod.snd x))) fun (m : List Int) => Option.some (Stp.out (Sum.inr m)) else Option.some (Stp.nx (Prod.fst x, Prod.fst (Prod.snd x), Go.IntKind.wrap Go.IntKind.i64 (Prod.snd (Prod.snd x) + (1 : Int)))) else Option.some (Stp.out (Sum.inl (Prod.fst x)))

noncomputable def m_spec_upTo : Tup p_spec_upTo → Option (Tup q_spec_upTo) := fun (x : List Int × List Int) => Option.bind (loopO m_spec_upTo_0 (Prod.fst x, Prod.snd x, (0 : Int))) fun (y : List Int ⊕ List Int) => selim (fun (y : List Int) => Option.some y) (fun (y : List Int) => Option.some y) y

noncomputable def cx_spec_upTo : Cx := ⟨tb, lookE [(45, e_spec_in)]⟩

theorem ck_spec_upTo : CxOK Try.prog (cx_spec_upTo) := cx_ok tb_ok (.cons ok_spec_in Try.call45 .nil)

noncomputable def c_spec_upTo_0 : Code := loopAt (Go.Proofs.Try.f78.body.getD .skip) 0

noncomputable def l_spec_upTo_0 : LEnt := ⟨p_spec_upTo_0, x_spec_upTo_0, loopO (m_spec_upTo_0)⟩

theorem lo_spec_upTo_0 : LOK Try.prog 22 0 false (l_spec_upTo_0) c_spec_upTo_0 := loop_ok (body := m_spec_upTo_0) (L := lookL []) (ck_spec_upTo) mixed (ls_ok (l := []) (by kernel_rfl) .nil) (by intro x; kernel_rfl) (fun x y h => loopO_iff.1 h)

noncomputable def e_spec_upTo : Ent := ⟨0, p_spec_upTo, q_spec_upTo, m_spec_upTo⟩
theorem ok_spec_upTo : FnOK Try.prog 78 e_spec_upTo := fn_ok (L := lookL [(0, l_spec_upTo_0)]) ck_spec_upTo mixed Try.func78 rfl (by kernel_rfl) (by kernel_rfl) (ls_ok (l := [(0, c_spec_upTo_0)]) (by kernel_rfl) (.cons rfl (lo_spec_upTo_0) .nil)) (by intro x; kernel_rfl)

/-! spec.atMost -/
abbrev p_spec_atMost : Pt := [(0, .lst .int)]
abbrev q_spec_atMost : Pt := [(0, .lst .int)]

noncomputable def m_spec_atMost : Tup p_spec_atMost → Option (Tup q_spec_atMost) := fun (x : List Int) => Option.bind (subL x (0 : Int) (if (1 : Int) < (↑(List.length x) : Int) then (1 : Int) else (↑(List.length x) : Int))) fun (m : List Int) => Option.some m

noncomputable def cx_spec_atMost : Cx := ⟨tb, lookE []⟩

theorem ck_spec_atMost : CxOK Try.prog (cx_spec_atMost) := cx_ok tb_ok .nil

noncomputable def e_spec_atMost : Ent := ⟨0, p_spec_atMost, q_spec_atMost, m_spec_atMost⟩
theorem ok_spec_atMost : FnOK Try.prog 73 e_spec_atMost := fn_ok (L := lookL []) ck_spec_atMost mixed Try.func73 rfl (by kernel_rfl) (by kernel_rfl) (ls_ok (l := []) (by kernel_rfl) .nil) (by intro x; kernel_rfl)

/-! spec.RelativesOf -/
abbrev p_spec_RelativesOf : Pt := [(0, .lst .node), (1, .int .i64), (2, .el (.rc (.int .i64) [.str, .ints, (.int .i64), (.int .i64)] 0))]
abbrev q_spec_RelativesOf : Pt := [(0, .lst .int), (1, .bool)]

noncomputable def m_spec_RelativesOf : Tup p_spec_RelativesOf → Option (Tup q_spec_RelativesOf) := fun (x : List Node × Int × Int × List UInt8 × List Int × Int × Int) => bif Decidable.decide (Prod.fst (Prod.snd (Prod.snd x)) = (20 : Int)) then bif Decidable.decide (Prod.fst (Prod.snd (Prod.snd x)) = (21 : Int)) then Option.bind (m_spec_Kids (Prod.fst x, Prod.fst (Prod.snd x))) fun (r : List Int) => Option.some (r, Bool.true) else Option.bind (m_spec_Elements (Prod.fst x, Prod.fst (Prod.snd x))) fun (r : List Int) => Option.some (r, Bool.true) else bif Decidable.decide (Prod.fst (Prod.snd (Prod.snd x)) = (21 : Int)) then bif Decidable.decide (Prod.fst (Prod.snd (Prod.snd x)) = (21 : Int)) then Option.bind (m_spec_Kids (Prod.fst x, Prod.fst (Prod.snd x))) fun (r : List Int) => Option.some (r, Bool.true) else Option.bind (m_spec_Elements (Prod.fst x, Prod.fst (Prod.snd x))) fun (r : List Int) => Option.some (r, Bool.true) else bif Decidable.decide (Prod.fst (Prod.snd (Prod.snd x)) = (22 : Int)) then Option.bind (m_spec_Parent (Prod.fst x, Prod.fst (Prod.snd x))) fun (r : Int) => bif Decidable.decide ((0 : Int) ≤ r) then Option.bind (atI (Prod.fst x) r) fun (v : Node) => bif Decidable.decide (Node.kind v = (3 : Int)) then Option.some ([r], Bool.true) else Option.some ([], Bool.true) else Option.some ([], Bool.true) else bif Decidable.decide (Prod.fst (Prod.snd (Prod.snd x)) = (23 : Int)) then Option.bind (m_spec_AboveOf (Prod.fst x, Prod.fst (Prod.snd x))) fun (r : List Int) => Option.some (r, Bool.true) else bif Decidable.decide (Prod.fst (Prod.snd (Prod.snd x)) = (24 : Int)) then Option.bind (m_spec_AboveOf (Prod.fst x, Prod.fst (Prod.snd x))) fun (r : List Int) => Option.bind (m_spec_upTo (r, Prod.fst (Prod.snd (Prod.snd (Prod.snd (Prod.snd x)))))) fun (r : List Int) => Option.some (r, Bool.true) else bif Decidable.decide (Prod.fst (Prod.snd (Prod.snd x)) = (25 : Int)) then Option.bind (m_spec_BesideOf (Prod.fst x, Prod.fst (Prod.snd x), Decidable.decide (Prod.fst (Prod.snd (Prod.snd x)) = (25 : Int)))) fun (r : List Int) => Option.bind (m_spec_atMost r) fun (r : List Int) => Option.some (r, Bool.true) else bif Decidable.decide (Prod.fst (Prod.snd (Prod.snd x)) = (28 : Int)) then Option.bind (m_spec_BesideOf (Prod.fst x, Prod.fst (Prod.snd x), Decidable.decide (Prod.fst (Prod.snd (Prod.snd x)) = (25 : Int)))) fun (r : List Int) => Option.bind (m_spec_atMost r) fun (r : List Int) => Option.some (r, Bool.true) else bif Decidable.decide (Prod.fst (Prod.snd (Prod.snd x)) = (26 : Int)) then Option.bind (m_spec_BesideOf (Prod.fst x, Prod.fst (Prod.snd x), Decidable.decide (Prod.fst (Prod.snd (Prod.snd x)) = (26 : Int)))) fun (r : List Int) => Option.some (r, Bool.true) else bif Decidable.decide (Prod.fst (Prod.snd (Prod.snd x)) = (29 : Int)) then Option.bind (m_spec_BesideOf (Prod.fst x, Prod.fst (Prod.snd x), Decidable.decide (Prod.fst (Prod.snd (Prod.snd x)) = (26 : Int)))) fun (r : List Int) => Option.some (r, Bool.true) else bif Decidable.decide (Prod.fst (Prod.snd (Prod.snd x)) = (27 : Int)) then Option.bind (m_spec_BesideOf (Prod.fst x, Prod.fst (Prod.snd x), Decidable.decide (Prod.fst (Prod.snd (Prod.snd x)) = (27 : Int)))) fun (r : List Int) => Option.bind (m_spec_upTo (r, Prod.fst (Prod.snd (Prod.snd (Prod.snd (Prod.snd x)))))) fun (r : List Int) => Option.some (r, Bool.true) else bif Decidable.decide (Prod.fst (Prod.snd (Prod.snd x)) = (30 : Int)) then Option.bind (m_spec_BesideOf (Prod.fst x, Prod.fst (Prod.snd x), Decidable.decide (Prod.fst (Prod.snd (Prod.snd x)) = (27 : Int)))) fun (r : List Int) => Option.bind (m_spec_upTo (r, Prod.fst (Prod.snd (Prod.snd (Prod.snd (Prod.snd x)))))) fun (r : List Int) => Option.some (r, Bool.true) else bif Decidable.decide (Prod.fst (Prod.snd (Prod.snd x)) = (31 : Int)) then Option.bind (m_spec_BesideOf (Prod.fst x, Prod.fst (Prod.snd x), Bool.false)) fun (r : List Int) => Option.bind (appL [] r) fun (r : List Int) => Option.bind (m_spec_BesideOf (Prod.fst x, Prod.fst (Prod.snd x), Bool.true)) fun (r_1 : List Int) => Option.bind (appL r r_1) fun (r : List Int) => Option.some (r, Bool.true) else Option.some ([], Bool.false)

noncomputable def cx_spec_RelativesOf : Cx := ⟨tb, lookE [(74, e_spec_Kids), (75, e_spec_Elements), (76, e_spec_Parent), (77, e_spec_AboveOf), (78, e_spec_upTo), (79, e_spec_BesideOf), (73, e_spec_atMost)]⟩

theorem ck_spec_RelativesOf : CxOK Try.prog (cx_spec_RelativesOf) := cx_ok tb_ok (.cons ok_spec_Kids Try.call74 (.cons ok_spec_Elements Try.call75 (.cons ok_spec_Parent Try.call76 (.cons ok_spec_AboveOf Try.call77 (.cons ok_spec_upTo Try.call78 (.cons ok_spec_BesideOf Try.call79 (.cons ok_spec_atMost Try.call73 .nil)))))))

noncomputable def e_spec_RelativesOf : Ent := ⟨0, p_spec_RelativesOf, q_spec_RelativesOf, m_spec_RelativesOf⟩
theorem ok_spec_RelativesOf : FnOK Try.prog 46 e_spec_RelativesOf := fn_ok (L := lookL []) ck_spec_RelativesOf mixed Try.func46 rfl (by kernel_rfl) (by kernel_rfl) (ls_ok (l := []) (by kernel_rfl) .nil) (by intro x; kernel_rfl)

/-! spec.parted -/
abbrev p_spec_parted : Pt := [(0, .lst .int), (1, .el (.rc (.int .i64) [.str, .ints, (.int .i64), (.int .i64)] 0))]
abbrev q_spec_parted : Pt := [(0, .lst .int), (1, .bool)]

noncomputable def m_spec_parted : Tup p_spec_parted → Option (Tup q_spec_parted) := fun (x : List Int × Int × List UInt8 × List Int × Int × Int) => bif Decidable.decide (Prod.fst (Prod.snd x) = (34 : Int)) then Option.bind (m_spec_atMost (Prod.fst x)) fun (r : List Int) => Option.some (r, Bool.true) else bif Decidable.decide (Prod.fst (Prod.snd x) = (35 : Int)) then Option.bind (subL (Prod.fst x) (if Go.IntKind.wrap Go.IntKind.i64 ((↑(List.length (Prod.fst x)) : Int) - (1 : Int)) < (0 : Int) then (0 : Int) else Go.IntKind.wrap Go.IntKind.i64 ((↑(List.length (Prod.fst x)) : Int) - (1 : Int))) (↑(List.length (Prod.fst x)) : Int)) fun (m : List Int) => Option.some (m, Bool.true) else bif Decidable.decide (Prod.fst (Prod.snd x) = (36 : Int)) then bif Decidable.decide (Prod.fst (Prod.snd (Prod.snd (Prod.snd (Prod.snd x)))) < (0 : Int)) then bif Decidable.decide (Go.IntKind.wrap Go.IntKind.i64 (Prod.fst (Prod.snd (Prod.snd (Prod.snd (Prod.snd x)))) + (↑(List.length (Prod.fst x)) : Int)) < (0 : Int)) then Option.some ([], Bool.true) else bif Decidable.decide ((↑(List.length (Prod.fst x)) : Int) ≤ Go.IntKind.wrap Go.IntKind.i64 (Prod.fst (Prod.snd (Prod.snd (Prod.snd (Prod.snd x)))) + (↑(List.length (Prod.fst x)) : Int))) then Option.some ([], Bool.true) else Option.bind (subL (Prod.fst x) (Go.IntKind.wrap Go.IntKind.i64 (Prod.fst (Prod.snd (Prod.snd (Prod.snd (Prod.snd x)))) + (↑(List.length (Prod.fst x)) : Int))) (Go.IntKind.wrap Go.IntKind.i64 (Go.IntKind.wrap Go.IntKind.i64 (Prod.fst (Prod.snd (Prod.snd (Prod.snd (Prod.snd x)))) + (↑(List.length (Prod.fst x)) : Int)) + (1 : Int)))) fun (m : List Int) => Option.some (m, Bool.true) else bif Decidable.decide (Prod.fst (Prod.snd (Prod.snd (Prod.snd (Prod.snd x)))) < (0 : Int)) then Option.some ([], Bool.true) else bif Decidable.decide ((↑(List.length (Prod.fst x)) : Int) ≤ Prod.fst (Prod.snd (Prod.snd (Prod.snd (Prod.snd x))))) then Option.some ([], Bool.true) else Option.bind (subL (Prod.fst x) (Prod.fst (Prod.snd (Prod.snd (Prod.snd (Prod.snd x))))) (Go.IntKind.wrap Go.IntKind.i64 (Prod.fst (Prod.snd (Prod.snd (Prod.snd (Prod.snd x)))) + (1 : Int)))) fun (m : List Int) => Option.some (m, Bool.true) else bif Decidable.decide (Prod.fst (Prod.snd x) = (33 : Int)) then bif Decidable.decide (Prod.fst (Prod.snd (Prod.snd (Prod.snd (Prod.snd x)))) < (0 : Int)) then bif Decidable.decide (Go.IntKind.wrap Go.IntKind.i64 (Prod.fst (Prod.snd (Prod.snd (Prod.snd (Prod.snd x)))) + (↑(List.length (Prod.fst x)) : Int)) < (0 : Int)) then Option.some ([], Bool.false) else bif Decidable.decide ((↑(List.length (Prod.fst x)) : Int) < (↑(List.length (Prod.fst x)) : Int)) then Option.some ([], Bool.false) else bif Decidable.decide ((↑(List.length (Prod.fst x)) : Int) < Go.IntKind.wrap Go.IntKind.i64 (Prod.fst (Prod.snd (Prod.snd (Prod.snd (Prod.snd x)))) + (↑(List.length (Prod.fst x)) : Int))) then Option.some ([], Bool.false) else Option.bind (subL (Prod.fst x) (Go.IntKind.wrap Go.IntKind.i64 (Prod.fst (Prod.snd (Prod.snd (Prod.snd (Prod.snd x)))) + (↑(List.length (Prod.fst x)) : Int))) (↑(List.length (Prod.fst x)) : Int)) fun (m : List Int) => Option.some (m, Bool.true) else bif Decidable.decide (Prod.fst (Prod.snd (Prod.snd (Prod.snd (Prod.snd x)))) < (0 : Int)) then Option.some ([], Bool.false) else bif Decidable.decide ((↑(List.length (Prod.fst x)) : Int) < (↑(List.length (Prod.fst x)) : Int)) then Option.some ([], Bool.false) else bif Decidable.decide ((↑(List.length (Prod.fst x)) : Int) < Prod.fst (Prod.snd (Prod.snd (Prod.snd (Prod.snd x))))) then Option.some ([], Bool.false) else Option.bind (subL (Prod.fst x) (Prod.fst (Prod.snd (Prod.snd (Prod.snd (Prod.snd x))))) (↑(List.length (Prod.fst x)) : Int)) fun (m : List Int) => Option.some (m, Bool.true) else bif Decidable.decide (Prod.fst (Prod.snd (Prod.snd (Prod.snd (Prod.snd x)))) < (0 : Int)) then bif Decidable.decide (Prod.snd (Prod.snd (Prod.snd (Prod.snd (Prod.snd x)))) < (0 : Int)) then bif Decidable.decide (Go.IntKind.wrap Go.IntKind.i64 (Prod.fst (Prod.snd (Prod.snd (Prod.snd (Prod.snd x)))) + (↑(List.length (Prod.fst x)) : Int)) < (0 : Int)) then Option.some ([], Bool.false) else bif Decidable.decide ((↑(List.length (Prod.fst x)) : Int) < Go.IntKind.wrap Go.IntKind.i64 (Prod.snd (Prod.snd (Prod.snd (Prod.snd (Prod.snd x)))) + (↑(List.length (Prod.fst x)) : Int))) then Option.some ([], Bool.false) else bif Decidable.decide (Go.IntKind.wrap Go.IntKind.i64 (Prod.snd (Prod.snd (Prod.snd (Prod.snd (Prod.snd x)))) + (↑(List.length (Prod.fst x)) : Int)) < Go.IntKind.wrap Go.IntKind.i64 (Prod.fst (Prod.snd (Prod.snd (Prod.snd (Prod.snd x)))) + (↑(List.length (Prod.fst x)) : Int))) then Option.some ([], Bool.false) else Option.bind (subL (Prod.fst x) (Go.IntKind.wrap Go.IntKind.i64 (Prod.fst (Prod.snd (Prod.snd (Prod.snd (Prod.snd x)))) + (↑(List.length (Prod.fst x)) : Int))) (Go.IntKind.wrap Go.IntKind.i64 (Prod.snd (Prod.snd (Prod.snd (Prod.snd (Prod.snd x)))) + (↑(List.length (Prod.fst x)) : Int)))) fun (m : List Int) => Option.some (m, Bool.true) else bif Decidable.decide (Go.IntKind.wrap Go.IntKind.i64 (Prod.fst (Prod.snd (Prod.snd (Prod.snd (Prod.snd x)))) + (↑(List.length (Prod.fst x)) : Int)) < (0 : Int)) then Option.some ([], Bool.false) else bif Decidable.decide ((↑(List.length (Prod.fst x)) : Int) < Prod.snd (Prod.snd (Prod.snd (Prod.snd (Prod.snd x))))) then Option.some ([], Bool.false) else bif Decidable.decide (Prod.snd (Prod.snd (Prod.snd (Prod.snd (Prod.snd x)))) < Go.IntKind.wrap Go.IntKind.i64 (Prod.fst (Prod.snd (Prod.snd (Prod.snd (Prod.snd x)))) + (↑(List.length (Prod.fst x)) : Int))) then Option.some ([], Bool.false) else Option.bind (subL (Prod.fst x) (Go.IntKind.wrap Go.IntKind.i64 (Prod.fst (Prod.snd (Prod.snd (Prod.snd (Prod.snd x)))) + (↑(List.length (Prod.fst x)) : Int))) (Prod.snd (Prod.snd (Prod.snd (Prod.snd (Prod.snd x)))))) fun (m : List Int) => Option.some (m, Bool.true) else bif Decidable.decide (Prod.snd (Prod.snd (Prod.snd (Prod.snd (Prod.snd x)))) < (0 : Int)) then bif Decidable.decide (Prod.fst (Prod.snd (Prod.snd (Prod.snd (Prod.snd x)))) < (0 : Int)) then Option.some ([], Bool.false) else bif Decidable.decide ((↑(List.length (Prod.fst x)) : Int) < Go.IntKind.wrap Go.IntKind.i64 (Prod.snd (Prod.snd (Prod.snd (Prod.snd (Prod.snd x)))) + (↑(List.length (Prod.fst x)) : Int))) then Option.some ([], Bool.false) else bif Decidable.decide (Go.IntKind.wrap Go.IntKind.i64 (Prod.snd (Prod.snd (Prod.snd (Prod.snd (Prod.snd x)))) + (↑(List.length (Prod.fst x)) : Int)) < Prod.fst (Prod.snd (Prod.snd (Prod.snd (Prod.snd x))))) then Option.some ([], Bool.false) else Option.bind (subL (Prod.fst x) (Prod.fst (Prod.snd (Prod.snd (Prod.snd (Prod.snd x))))) (Go.IntKind.wrap Go.IntKind.i64 (Prod.snd (Prod.snd (Prod.snd (Prod.snd (Prod.snd x)))) + (↑(List.length (Prod.fst x)) : Int)))) fun (m : List Int) => Option.some (m, Bool.true) else bif Decidable.decide (Prod.fst (Prod.snd (Prod.snd (Prod.snd (Prod.snd x)))) < (0 : Int)) then Option.some ([], Bool.false) else bif Decidable.decide ((↑(List.length (Prod.fst x)) : Int) < Prod.snd (Prod.snd (Prod.snd (Prod.snd (Prod.snd x))))) then Option.some ([], Bool.false) else bif Decidable.decide (Prod.snd (Prod.snd (Prod.snd (Prod.snd (Prod.snd x)))) < Prod.fst (Prod.snd (Prod.snd (Prod.snd (Prod.snd x))))) then Option.some ([], Bool.false) else Option.bind (subL (Prod.fst x) (Prod.fst (Prod.snd (Prod.snd (Prod.snd (Prod.snd x))))) (Prod.snd (Prod.snd (Prod.snd (Prod.snd (Prod.snd x)))))) fun (m : List Int) => Option.some (m, Bool.true)

noncomputable def cx_spec_parted : Cx := ⟨tb, lookE [(73, e_spec_atMost)]⟩

theorem ck_spec_parted : CxOK Try.prog (cx_spec_parted) := cx_ok tb_ok (.cons ok_spec_atMost Try.call73 .nil)

noncomputable def e_spec_parted : Ent := ⟨0, p_spec_parted, q_spec_parted, m_spec_parted⟩
theorem ok_spec_parted : FnOK Try.prog 43 e_spec_parted := fn_ok (L := lookL []) ck_spec_parted mixed Try.func43 rfl (by kernel_rfl) (by kernel_rfl) (ls_ok (l := []) (by kernel_rfl) .nil) (by intro x; kernel_rfl)

/-! spec.Related -/
abbrev p_spec_Related : Pt := [(0, .lst .node), (1, .lst .int), (2, .el (.rc (.int .i64) [.str, .ints, (.int .i64), (.int .i64)] 0))]
abbrev q_spec_Related : Pt := [(0, .lst .int), (1, .bool)]

abbrev p_spec_Related_0 : Pt := [(1, .lst .int), (5, .blk (.rc (.int .i64) [.str, .ints, (.int .i64), (.int .i64)] 0) 29), (8, .own .int 3), (9, .int .i64)]
abbrev x_spec_Related_0 : List (Xt × Pt) := [(.ex 1, [(8, .own .int 3)])]
noncomputable def m_spec_Related_0 : Tup p_spec_Related_0 → Option (Stp (Tup p_spec_Related_0) (SumT (x_spec_Related_0.map (·.2)))) := fun (x : List Int × (Int × List UInt8 × List Int × Int × Int) × List Int × Int) => bif Decidable.decide (Prod.snd (Prod.snd (Prod.snd x)) < (↑(List.length (Prod.fst x)) : Int)) then Option.bind (atI (Prod.fst x) (Prod.snd (Prod.snd (Prod.snd x)))) fun (v : Int) => Option.bind (m_spec_in (Prod.fst (Prod.snd (Prod.snd (Prod.fst (Prod.snd x)))), v)) fun (r : Bool) => bif r then Option.bind (atI (Prod.fst x) (Prod.snd (Prod.snd (Prod.snd x)))) fun (v : Int) => Option.bind (appL (Prod.fst (Prod.snd (Prod.snd x))) [v]) fun (r : List Int) => Option.some (Stp.nx (Prod.fst x, (Prod.fst (Prod.fst (Prod.snd x)), Prod.fst (Prod.snd (Prod.fst (Prod.snd x))), Prod.fst (Prod.snd (Prod.snd (Prod.fst (Prod.snd x)))), Prod.fst (Prod.snd (Prod.snd (Prod.snd (Prod.fst (Prod.snd x))))), Prod.snd (Prod.snd (Prod.snd (Prod.snd (Prod.fst (Prod.snd x)))))), r, Go.IntKind.wrap Go.IntKind.i64 (Prod.snd (Prod.snd (Prod.snd x)) + (1 : Int)))) else Option.some (Stp.nx (Prod.fst x, (Prod.fst (Prod.fst (Prod.snd x)), Prod.fst (Prod.snd (Prod.fst (Prod.snd x))), Prod.fst (Prod.snd (Prod.snd (Prod.fst (Prod.snd x)))), Prod.fst (Prod.snd (Prod.snd (Prod.snd (Prod.fst (Prod.snd x))))), Prod.snd (Prod.snd (Prod.snd (Prod.snd (Prod.fst (Prod.snd x)))))), Prod.fst (Prod.snd (Prod.snd x)), Go.IntKind.wrap Go.IntKind.i64 (Prod.snd (Prod.snd (Prod.snd x)) + (1 : Int)))) else Option.some (Stp.out (Prod.fst (Prod.snd (Prod.snd x))))

abbrev p_spec_Related_1 : Pt := [(0, .lst .node), (1, .lst .int), (5, .blk (.rc (.int .i64) [.str, .ints, (.int .i64), (.int .i64)] 0) 29), (10, .own .int 3), (11, .int .i64)]
abbrev x_spec_Related_1 : List (Xt × Pt) := [(.ex 3, [(0, .lst .node), (5, .blk (.rc (.int .i64) [.str, .ints, (.int .i64), (.int .i64)] 0) 29), (10, .own .int 3)]), (.rt, [(6, .own .int 3), (7, .bool)])]
noncomputable def m_spec_Related_1 : Tup p_spec_Related_1 → Option (Stp (Tup p_spec_Related_1) (SumT (x_spec_Related_1.map (·.2)))) := fun (x : List Node × List Int × (Int × List UInt8 × List Int × Int × Int) × List Int × Int) => bif Decidable.decide (Prod.snd (Prod.snd (Prod.snd (Prod.snd x))) < (↑(List.length (Prod.fst (Prod.snd x))) : Int)) then Option.bind (atI (Prod.fst (Prod.snd x)) (Prod.snd (Prod.snd (Prod.snd (Prod.snd x))))) fun (v : Int) => Option.bind (m_spec_RelativesOf (Prod.fst x, v, Prod.fst (Prod.fst (Prod.snd (Prod.snd x))), Prod.fst (Prod.snd (Prod.fst (Prod.snd (Prod.snd x)))), Prod.fst (Prod.snd (Prod.snd (Prod.fst (Prod.snd (Prod.snd x))))), Prod.fst (Prod.snd (Prod.snd (Prod.snd (Prod.fst (Prod.snd (Prod.snd x)))))), Prod.snd (Prod.snd (Prod.snd (Prod.snd (Prod.fst (Prod.snd (Prod.snd x)))))))) fun (r : List Int × Bool) => bif !Prod.snd r then Option.some (Stp.out (Sum.inr ([], Bool.false))) else Option.bind (appL (Prod.fst (Prod.snd (Prod.snd (Prod.snd x)))) (Prod.fst r)) fun (r : List Int) => Option.some (Stp.nx (Prod.fst x, Prod.fst (Prod.snd x), (Prod.fst (Prod.fst (Prod.snd (Prod.snd x))), Prod.fst (Prod.snd (Prod.fst (Prod.snd (Prod.snd x)))), Prod.fst (Prod.snd (Prod.snd (Prod.fst (Prod.snd (Prod.snd x))))), Prod.fst (Prod.snd (Prod.snd (Prod.snd (Prod.fst (Prod.snd (Prod.snd x)))))), Prod.snd (Prod.snd (Prod.snd (Prod.snd (Prod.fst (Prod.snd (Prod.snd x))))))), r, Go.IntKind.wrap Go.IntKind.i64 (Prod.snd (Prod.snd (Prod.snd (Prod.snd x))) + (1 : Int)))) else Option.some (Stp.out (Sum.inl (Prod.fst x, (Prod.fst (Prod.fst (Prod.snd (Prod.snd x))), Prod.fst (Prod.snd (Prod.fst (Prod.snd (Prod.snd x)))), Prod.fst (Prod.snd (Prod.snd (Prod.fst (Prod.snd (Prod.snd x))))), Prod.fst (Prod.snd (Prod.snd (Prod.snd (Prod.fst (Prod.snd (Prod.snd x)))))), Prod.snd (Prod.snd (Prod.snd (Prod.snd (Prod.fst (Prod.snd (Prod.snd x))))))), Prod.fst (Prod.snd (Prod.snd (Prod.snd x))))))

noncomputable def m_spec_Related : Tup p_spec_Related → Option (Tup q_spec_Related) := fun (x : List Node × List Int × Int × List UInt8 × List Int × Int × Int) => bif Decidable.decide (Prod.fst (Prod.snd (Prod.snd x)) = (32 : Int)) then Option.bind (m_spec_parted (Prod.fst (Prod.snd x), Prod.fst (Prod.snd (Prod.snd x)), Prod.fst (Prod.snd (Prod.snd (Prod.snd x))), Prod.fst (Prod.snd (Prod.snd (Prod.snd (Prod.snd x)))), Prod.fst (Prod.snd (Prod.snd (Prod.snd (Prod.snd (Prod.snd x))))), Prod.snd (Prod.snd (Prod.snd (Prod.snd (Prod.snd (Prod.snd x))))))) fun (r : List Int × Bool) => Option.some (Prod.fst r, Prod.snd r) else bif Decidable.decide (Prod.fst (Prod.snd (Prod.snd x)) = (33 : Int)) then Option.bind (m_spec_parted (Prod.fst (Prod.snd x), Prod.fst (Prod.snd (Prod.snd x)), Prod.fst (Prod.snd (Prod.snd (Prod.snd x))), Prod.fst (Prod.snd (Prod.snd (Prod.snd (Prod.snd x)))), Prod.fst (Prod.snd (Prod.snd (Prod.snd (Prod.snd (Prod.snd x))))), Prod.snd (Prod.snd (Prod.snd (Prod.snd (Prod.snd (Prod.snd x))))))) fun (r : List Int × Bool) => Option.some (Prod.fst r, Prod.snd r) else bif Decidable.decide (Prod.fst (Prod.snd (Prod.snd x)) = (34 : Int)) then Option.bind (m_spec_parted (Prod.fst (Prod.snd x), Prod.fst (Prod.snd (Prod.snd x)), Prod.fst (Prod.snd (Prod.snd (Prod.snd x))), Prod.fst (Prod.snd (Prod.snd (Prod.snd (Prod.snd x)))), Prod.fst (Prod.snd (Prod.snd (Prod.snd (Prod.snd (Prod.snd x))))), Prod.snd (Prod.snd (Prod.snd (Prod.snd (Prod.snd (Prod.snd x))))))) fun (r : List Int × Bool) => Option.some (Prod.fst r, Prod.snd r) else bif Decidable.decide (Prod.fst (Prod.snd (Prod.snd x)) = (35 : Int)) then Option.bind (m_spec_parted (Prod.fst (Prod.snd x), Prod.fst (Prod.snd (Prod.snd x)), Prod.fst (Prod.snd (Prod.snd (Prod.snd x))), Prod.fst (Prod.snd (Prod.snd (Prod.snd (Prod.snd x)))), Prod.fst (Prod.snd (Prod.snd (Prod.snd (Prod.snd (Prod.snd x))))), Prod.snd (Prod.snd (Prod.snd (Prod.snd (Prod.snd (Prod.snd x))))))) fun (r : List Int × Bool) => Option.some (Prod.fst r, Prod.snd r) else bif Decidable.decide (Prod.fst (Prod.snd (Prod.snd x)) = (36 : Int)) then Option.bind (m_spec_parted (Prod.fst (Prod.snd x), Prod.fst (Prod.snd (Prod.snd x)), Prod.fst (Prod.snd (Prod.snd (Prod.snd x))), Prod.fst (Prod.snd (Prod.snd (Prod.snd (Prod.snd x)))), Prod.fst (Prod.snd (Prod.snd (Prod.snd (Prod.snd (Prod.snd x))))), Prod.snd (Prod.snd (Prod.snd (Prod.snd (Prod.snd (Prod.snd x))))))) fun (r : List Int × Bool) => Option.some (Prod.fst r, Prod.snd r) else bif Decidable.decide (Prod.fst (Prod.snd (Prod.snd x)) = (37 : Int)) then Option.bind (appL [] (Prod.fst (Prod.snd x))) fun (r : List Int) => Option.bind (appL r (Prod.fst (Prod.snd (Prod.snd (Prod.snd (Prod.snd x)))))) fun (r : List Int) => Option.bind (m_spec_once r) fun (r : List Int) => Option.some (r, Bool.true) else bif Decidable.decide (Prod.fst (Prod.snd (Prod.snd x)) = (38 : Int)) then Option.bind (appL [] (Prod.fst (Prod.snd x))) fun (r : List Int) => Option.bind (appL r (Prod.fst (Prod.snd (Prod.snd (Prod.snd (Prod.snd x)))))) fun (r : List Int) => Option.bind (m_spec_once r) fun (r : List Int) => Option.some (r, Bool.true) else bif Decidable.decide (Prod.fst (Prod.snd (Prod.snd x)) = (39 : Int)) then Option.bind (loopO m_spec_Related_0 (Prod.fst (Prod.snd x), (Prod.fst (Prod.snd (Prod.snd x)), Prod.fst (Prod.snd (Prod.snd (Prod.snd x))), Prod.fst (Prod.snd (Prod.snd (Prod.snd (Prod.snd x)))), Prod.fst (Prod.snd (Prod.snd (Prod.snd (Prod.snd (Prod.snd x))))), Prod.snd (Prod.snd (Prod.snd (Prod.snd (Prod.snd (Prod.snd x)))))), [], (0 : Int))) fun (y : List Int) => Option.some (y, Bool.true) else Option.bind (loopO m_spec_Related_1 (Prod.fst x, Prod.fst (Prod.snd x), (Prod.fst (Prod.snd (Prod.snd x)), Prod.fst (Prod.snd (Prod.snd (Prod.snd x))), Prod.fst (Prod.snd (Prod.snd (Prod.snd (Prod.snd x)))), Prod.fst (Prod.snd (Prod.snd (Prod.snd (Prod.snd (Prod.snd x))))), Prod.snd (Prod.snd (Prod.snd (Prod.snd (Prod.snd (Prod.snd x)))))), [], (0 : Int))) fun (y : List Node × (Int × List UInt8 × List Int × Int × Int) × List Int ⊕ List Int × Bool) => selim (fun (y : List Node × (Int × List UInt8 × List Int × Int × Int) × List Int) => Option.bind (m_spec_RelativesOf (Prod.fst y, (0 : Int), Prod.fst (Prod.fst (Prod.snd y)), Prod.fst (Prod.snd (Prod.fst (Prod.snd y))), Prod.fst (Prod.snd (Prod.snd (Prod.fst (Prod.snd y)))), Prod.fst (Prod.snd (Prod.snd (Prod.snd (Prod.fst (Prod.snd y))))), Prod.snd (Prod.snd (Prod.snd (Prod.snd (Prod.fst (Prod.snd y))))))) fun (r : List Int × Bool) => Option.bind (m_spec_once (Prod.snd (Prod.snd y))) fun (r_1 : List Int) => Option.some (r_1, Prod.snd r)) (fun (y : List Int × Bool) => Option.some (Prod.fst y, Prod.snd y)) y

noncomputable def cx_spec_Related : Cx := ⟨tb, lookE [(43, e_spec_parted), (44, e_spec_once), (45, e_spec_in), (46, e_spec_RelativesOf)]⟩

theorem ck_spec_Related : CxOK Try.prog (cx_spec_Related) := cx_ok tb_ok (.cons ok_spec_parted Try.call43 (.cons ok_spec_once Try.call44 (.cons ok_spec_in Try.call45 (.cons ok_spec_RelativesOf Try.call46 .nil))))

noncomputable def c_spec_Related_0 : Code := loopAt (Go.Proofs.Try.f14.body.getD .skip) 0

noncomputable def l_spec_Related_0 : LEnt := ⟨p_spec_Related_0, x_spec_Related_0, loopO (m_spec_Related_0)⟩

theorem lo_spec_Related_0 : LOK Try.prog 92 0 false (l_spec_Related_0) c_spec_Related_0 := loop_ok (body := m_spec_Related_0) (L := lookL []) (ck_spec_Related) mixed (ls_ok (l := []) (by kernel_rfl) .nil) (by intro x; kernel_rfl) (fun x y h => loopO_iff.1 h)

noncomputable def c_spec_Related_1 : Code := loopAt (Go.Proofs.Try.f14.body.getD .skip) 1

noncomputable def l_spec_Related_1 : LEnt := ⟨p_spec_Related_1, x_spec_Related_1, loopO (m_spec_Related_1)⟩

theorem lo_spec_Related_1 : LOK Try.prog 92 0 false (l_spec_Related_1) c_spec_Related_1 := loop_ok (body := m_spec_Related_1) (L := lookL []) (ck_spec_Related) mixed (ls_ok (l := []) (by kernel_rfl) .nil) (by intro x; kernel_rfl) (fun x y h => loopO_iff.1 h)

noncomputable def e_spec_Related : Ent := ⟨0, p_spec_Related, q_spec_Related, m_spec_Related⟩
theorem ok_spec_Related : FnOK Try.prog 14 e_spec_Related := fn_ok (L := lookL [(1, l_spec_Related_0), (3, l_spec_Related_1)]) ck_spec_Related mixed Try.func14 rfl (by kernel_rfl) (by kernel_rfl) (ls_ok (l := [(1, c_spec_Related_0), (3, c_spec_Related_1)]) (by kernel_rfl) (.cons rfl (lo_spec_Related_0) (.cons rfl (lo_spec_Related_1) .nil))) (by intro x; kernel_rfl)

end Go.Proofs.Ytlgabeiaheoniaa.V
