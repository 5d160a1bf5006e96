/-
  Models of functions, and that they are what the code does (written by a program).
-/
import Derived.Test.YtnggneccdekofaaKTab
import Derived.Test.YtnggneccdekofaaSpecA
namespace Go.Proofs.Ytnggneccdekofaa.V
open Go Go.Proofs

/-! spec.rightAttrs -/
abbrev p_spec_rightAttrs : Pt := [(0, .lst .attr)]
abbrev q_spec_rightAttrs : Pt := [(0, .bool)]

abbrev p_spec_rightAttrs_0_0 : Pt := [(0, .lst .attr), (3, .int .i64), (4, .int .i64)]
abbrev x_spec_rightAttrs_0_0 : List (Xt × Pt) := [(.ex 2, [(0, .lst .attr), (3, .int .i64)]), (.rt, [(2, .bool)])]
noncomputable def m_spec_rightAttrs_0_0 : Tup p_spec_rightAttrs_0_0 → Option (Stp (Tup p_spec_rightAttrs_0_0) (SumT (x_spec_rightAttrs_0_0.map (·.2)))) := fun (x : List Attr × Int × Int) => bif Decidable.decide (Prod.snd (Prod.snd x) < Prod.fst (Prod.snd x)) then Option.bind (atI (Prod.fst x) (Prod.snd (Prod.snd x))) fun (v : Attr) => Option.bind (atI (Prod.fst x) (Prod.fst (Prod.snd x))) fun (v_1 : Attr) => bif Decidable.decide (Attr.key v = Attr.key v_1) then Option.some (Stp.out (Sum.inr Bool.false)) else Option.some (Stp.nx (Prod.fst x, Prod.fst (Prod.snd x), Go.IntKind.wrap Go.IntKind.i64 (Prod.snd (Prod.snd x) + (1 : Int)))) else Option.some (Stp.out (Sum.inl (Prod.fst x, Prod.fst (Prod.snd x))))

abbrev p_spec_rightAttrs_0 : Pt := [(0, .lst .attr), (3, .int .i64)]
abbrev x_spec_rightAttrs_0 : List (Xt × Pt) := [(.ex 0, []), (.rt, [(2, .bool)])]
noncomputable def m_spec_rightAttrs_0 : Tup p_spec_rightAttrs_0 → Option (Stp (Tup p_spec_rightAttrs_0) (SumT (x_spec_rightAttrs_0.map (·.2)))) := fun (x : List Attr × Int) => bif Decidable.decide (Prod.snd x < (↑(List.length (Prod.fst x)) : Int)) then Option.bind (atI (Prod.fst x) (Prod.snd x)) fun (v : Attr) => Option.bind (m_spec_Name (Attr.key v)) fun (r : Bool) => bif !r then Option.some (Stp.out (Sum.inr Bool.false)) else Option.bind (atI (Prod.fst x) (Prod.snd x)) fun (v : Attr) => Option.bind (m_spec_Plain (Attr.val v)) fun (r : Bool) => bif !r then Option.some (Stp.out (Sum.inr Bool.false)) else Option.bind (loopO m_spec_rightAttrs_0_0 (Prod.fst x, Prod.snd x, (0 : Int))) fun (y : List Attr × Int ⊕ Bool) => selim (fun (y : List Attr × Int) => Option.some (Stp.nx (Prod.fst y, Go.IntKind.wrap Go.IntKind.i64 (Prod.snd y + (1 : Int))))) (fun (y : Bool) => Option.some (Stp.out (Sum.inr y))) y else Option.some (Stp.out (Sum.inl PUnit.unit))

noncomputable def m_spec_rightAttrs : Tup p_spec_rightAttrs → Option (Tup q_spec_rightAttrs) := fun (x : List Attr) => bif Decidable.decide ((20 : Int) < (↑(List.length x) : Int)) then Option.some Bool.false else Option.bind (loopO m_spec_rightAttrs_0 (x, (0 : Int))) fun (y : PUnit ⊕ Bool) => selim (fun (y : PUnit) => Option.some Bool.true) (fun (y : Bool) => Option.some y) y

noncomputable def cx_spec_rightAttrs : Cx := ⟨tb, lookE [(48, e_spec_Name), (26, e_spec_Plain)]⟩

theorem ck_spec_rightAttrs : CxOK Try.prog (cx_spec_rightAttrs) := cx_ok tb_ok (.cons ok_spec_Name Try.call48 (.cons ok_spec_Plain Try.call26 .nil))

noncomputable def c_spec_rightAttrs_0_0 : Code := loopAt (loopAt (Go.Proofs.Try.f109.body.getD .skip) 0) 0

noncomputable def l_spec_rightAttrs_0_0 : LEnt := ⟨p_spec_rightAttrs_0_0, x_spec_rightAttrs_0_0, loopO (m_spec_rightAttrs_0_0)⟩

theorem lo_spec_rightAttrs_0_0 : LOK Try.prog 46 0 false (l_spec_rightAttrs_0_0) c_spec_rightAttrs_0_0 := loop_ok (body := m_spec_rightAttrs_0_0) (L := lookL []) (ck_spec_rightAttrs) mixed (ls_ok (l := []) (by kernel_rfl) .nil) (by intro x; kernel_rfl) (fun x y h => loopO_iff.1 h)

noncomputable def c_spec_rightAttrs_0 : Code := loopAt (Go.Proofs.Try.f109.body.getD .skip) 0

noncomputable def l_spec_rightAttrs_0 : LEnt := ⟨p_spec_rightAttrs_0, x_spec_rightAttrs_0, loopO (m_spec_rightAttrs_0)⟩

theorem lo_spec_rightAttrs_0 : LOK Try.prog 46 0 false (l_spec_rightAttrs_0) c_spec_rightAttrs_0 := loop_ok (body := m_spec_rightAttrs_0) (L := lookL [(2, l_spec_rightAttrs_0_0)]) (ck_spec_rightAttrs) mixed (ls_ok (l := [(2, c_spec_rightAttrs_0_0)]) (by kernel_rfl) (.cons rfl (lo_spec_rightAttrs_0_0) .nil)) (by intro x; kernel_rfl) (fun x y h => loopO_iff.1 h)

noncomputable def e_spec_rightAttrs : Ent := ⟨0, p_spec_rightAttrs, q_spec_rightAttrs, m_spec_rightAttrs⟩
theorem ok_spec_rightAttrs : FnOK Try.prog 109 e_spec_rightAttrs := fn_ok (L := lookL [(0, l_spec_rightAttrs_0)]) ck_spec_rightAttrs mixed Try.func109 rfl (by kernel_rfl) (by kernel_rfl) (ls_ok (l := [(0, c_spec_rightAttrs_0)]) (by kernel_rfl) (.cons rfl (lo_spec_rightAttrs_0) .nil)) (by intro x; kernel_rfl)

/-! spec.rightNode -/
abbrev p_spec_rightNode : Pt := [(0, .lst .node), (1, .int .i64)]
abbrev q_spec_rightNode : Pt := [(0, .bool)]

noncomputable def m_spec_rightNode : Tup p_spec_rightNode → Option (Tup q_spec_rightNode) := fun (x : List Node × Int) => Option.bind (atI (Prod.fst x) (Prod.snd x)) fun (v : Node) => bif Decidable.decide (Node.kind v ≠ (3 : Int)) then bif Decidable.decide (Node.tag v ≠ Array.toList (ByteArray.data { data := #[] })) then Option.some Bool.false else bif Decidable.decide ((0 : Int) < (↑(List.length (Node.attrs v)) : Int)) then Option.some Bool.false else Option.bind (m_spec_Plain (Node.text v)) fun (r : Bool) => bif !r then Option.some Bool.false else bif Decidable.decide (Node.kind v = (1 : Int)) then bif Decidable.decide (Prod.snd x = (0 : Int)) then bif Decidable.decide (Node.text v = Array.toList (ByteArray.data { data := #[] })) then Option.bind (m_spec_rightRoot (Prod.fst x)) fun (r : Bool) => Option.some r else Option.some Bool.false else Option.some Bool.false else bif Decidable.decide (Node.kind v = (2 : Int)) then bif Decidable.decide (Node.size v = (1 : Int)) then Option.bind (m_spec_Name (Node.text v)) fun (r : Bool) => bif r then Option.bind (m_spec_Parent (Prod.fst x, Prod.snd x)) fun (r : Int) => Option.some (Decidable.decide (r = (0 : Int))) else Option.some Bool.false else Option.some Bool.false else bif Decidable.decide (Node.kind v = (4 : Int)) then Option.some (Decidable.decide (Node.size v = (1 : Int))) else bif Decidable.decide (Node.kind v = (5 : Int)) then Option.some (Decidable.decide (Node.size v = (1 : Int))) else bif Decidable.decide (Node.kind v = (3 : Int)) then bif Decidable.decide (Node.text v = Array.toList (ByteArray.data { data := #[] })) then Option.bind (m_spec_Name (Node.tag v)) fun (r : Bool) => bif r then Option.bind (m_spec_rightAttrs (Node.attrs v)) fun (r : Bool) => Option.some r else Option.some Bool.false else Option.some Bool.false else Option.some Bool.false else Option.bind (m_spec_Plain (Node.text v)) fun (r : Bool) => bif !r then Option.some Bool.false else bif Decidable.decide (Node.kind v = (1 : Int)) then bif Decidable.decide (Prod.snd x = (0 : Int)) then bif Decidable.decide (Node.text v = Array.toList (ByteArray.data { data := #[] })) then Option.bind (m_spec_rightRoot (Prod.fst x)) fun (r : Bool) => Option.some r else Option.some Bool.false else Option.some Bool.false else bif Decidable.decide (Node.kind v = (2 : Int)) then bif Decidable.decide (Node.size v = (1 : Int)) then Option.bind (m_spec_Name (Node.text v)) fun (r : Bool) => bif r then Option.bind (m_spec_Parent (Prod.fst x, Prod.snd x)) fun (r : Int) => Option.some (Decidable.decide (r = (0 : Int))) else Option.some Bool.false else Option.some Bool.false else bif Decidable.decide (Node.kind v = (4 : Int)) then Option.some (Decidable.decide (Node.size v = (1 : Int))) else bif Decidable.decide (Node.kind v = (5 : Int)) then Option.some (Decidable.decide (Node.size v = (1 : Int))) else bif Decidable.decide (Node.kind v = (3 : Int)) then bif Decidable.decide (Node.text v = Array.toList (ByteArray.data { data := #[] })) then Option.bind (m_spec_Name (Node.tag v)) fun (r : Bool) => bif r then Option.bind (m_spec_rightAttrs (Node.attrs v)) fun (r : Bool) => Option.some r else Option.some Bool.false else Option.some Bool.false else Option.some Bool.false

noncomputable def cx_spec_rightNode : Cx := ⟨tb, lookE [(26, e_spec_Plain), (108, e_spec_rightRoot), (48, e_spec_Name), (78, e_spec_Parent), (109, e_spec_rightAttrs)]⟩

theorem ck_spec_rightNode : CxOK Try.prog (cx_spec_rightNode) := cx_ok tb_ok (.cons ok_spec_Plain Try.call26 (.cons ok_spec_rightRoot Try.call108 (.cons ok_spec_Name Try.call48 (.cons ok_spec_Parent Try.call78 (.cons ok_spec_rightAttrs Try.call109 .nil)))))

noncomputable def e_spec_rightNode : Ent := ⟨0, p_spec_rightNode, q_spec_rightNode, m_spec_rightNode⟩
theorem ok_spec_rightNode : FnOK Try.prog 62 e_spec_rightNode := fn_ok (L := lookL []) ck_spec_rightNode mixed Try.func62 rfl (by kernel_rfl) (by kernel_rfl) (ls_ok (l := []) (by kernel_rfl) .nil) (by intro x; kernel_rfl)

/-! spec.Right -/
abbrev p_spec_Right : Pt := [(0, .lst .node)]
abbrev q_spec_Right : Pt := [(0, .bool)]

abbrev p_spec_Right_0_0 : Pt := [(0, .lst .node), (3, .int .i64), (4, .int .i64), (5, .int .i64)]
abbrev x_spec_Right_0_0 : List (Xt × Pt) := [(.ex 2, [(0, .lst .node), (3, .int .i64), (4, .int .i64)])]
noncomputable def m_spec_Right_0_0 : Tup p_spec_Right_0_0 → Option (Stp (Tup p_spec_Right_0_0) (SumT (x_spec_Right_0_0.map (·.2)))) := fun (x : List Node × Int × Int × Int) => Option.bind (atI (Prod.fst x) (Prod.fst (Prod.snd (Prod.snd x)))) fun (v : Node) => bif Decidable.decide (Prod.snd (Prod.snd (Prod.snd x)) < (↑(List.length (Node.attrs v)) : Int)) then bif Decidable.decide (Prod.fst (Prod.snd x) ≤ (4000 : Int)) then Option.bind (atI (Prod.fst x) (Prod.fst (Prod.snd (Prod.snd x)))) fun (v : Node) => Option.bind (atI (Node.attrs v) (Prod.snd (Prod.snd (Prod.snd x)))) fun (v : Attr) => Option.some (Stp.nx (Prod.fst x, Go.IntKind.wrap Go.IntKind.i64 (Prod.fst (Prod.snd x) + if (4001 : Int) < (↑(List.length (Attr.val v)) : Int) then (4001 : Int) else (↑(List.length (Attr.val v)) : Int)), Prod.fst (Prod.snd (Prod.snd x)), Go.IntKind.wrap Go.IntKind.i64 (Prod.snd (Prod.snd (Prod.snd x)) + (1 : Int)))) else Option.some (Stp.out (Prod.fst x, Prod.fst (Prod.snd x), Prod.fst (Prod.snd (Prod.snd x)))) else Option.some (Stp.out (Prod.fst x, Prod.fst (Prod.snd x), Prod.fst (Prod.snd (Prod.snd x))))

abbrev p_spec_Right_0 : Pt := [(0, .lst .node), (3, .int .i64), (4, .int .i64)]
abbrev x_spec_Right_0 : List (Xt × Pt) := [(.ex 0, []), (.rt, [(2, .bool)])]
noncomputable def m_spec_Right_0 : Tup p_spec_Right_0 → Option (Stp (Tup p_spec_Right_0) (SumT (x_spec_Right_0.map (·.2)))) := fun (x : List Node × Int × Int) => bif Decidable.decide (Prod.snd (Prod.snd x) < (↑(List.length (Prod.fst x)) : Int)) then Option.bind (atI (Prod.fst x) (Prod.snd (Prod.snd x))) fun (v : Node) => Option.bind (loopO m_spec_Right_0_0 (Prod.fst x, Go.IntKind.wrap Go.IntKind.i64 (Prod.fst (Prod.snd x) + if (4001 : Int) < (↑(List.length (Node.text v)) : Int) then (4001 : Int) else (↑(List.length (Node.text v)) : Int)), Prod.snd (Prod.snd x), (0 : Int))) fun (y : List Node × Int × Int) => bif Decidable.decide ((4000 : Int) < Prod.fst (Prod.snd y)) then Option.some (Stp.out (Sum.inr Bool.false)) else Option.bind (m_spec_rightNode (Prod.fst y, Prod.snd (Prod.snd y))) fun (r : Bool) => bif !r then Option.some (Stp.out (Sum.inr Bool.false)) else Option.some (Stp.nx (Prod.fst y, Prod.fst (Prod.snd y), Go.IntKind.wrap Go.IntKind.i64 (Prod.snd (Prod.snd y) + (1 : Int)))) else Option.some (Stp.out (Sum.inl PUnit.unit))

noncomputable def m_spec_Right : Tup p_spec_Right → Option (Tup q_spec_Right) := fun (x : List Node) => bif Decidable.decide ((↑(List.length x) : Int) = (0 : Int)) then Option.some Bool.false else bif Decidable.decide ((200 : Int) < (↑(List.length x) : Int)) then Option.some Bool.false else Option.bind (atI x (0 : Int)) fun (v : Node) => bif Decidable.decide (Node.size v ≠ (↑(List.length x) : Int)) then Option.some Bool.false else Option.bind (atI x (0 : Int)) fun (v : Node) => bif Decidable.decide (Node.kind v ≠ (1 : Int)) then Option.some Bool.false else Option.bind (m_spec_sized big (x, (0 : Int), (↑(List.length x) : Int), (40 : Int))) fun (r : Bool) => bif !r then Option.some Bool.false else Option.bind (loopO m_spec_Right_0 (x, (0 : Int), (0 : Int))) fun (y : PUnit ⊕ Bool) => selim (fun (y : PUnit) => Option.some Bool.true) (fun (y : Bool) => Option.some y) y

noncomputable def cx_spec_Right : Cx := ⟨tb, lookE [(61, e_spec_sized), (62, e_spec_rightNode)]⟩

theorem ck_spec_Right : CxOK Try.prog (cx_spec_Right) := cx_ok tb_ok (.cons ok_spec_sized Try.call61 (.cons ok_spec_rightNode Try.call62 .nil))

noncomputable def c_spec_Right_0_0 : Code := loopAt (loopAt (Go.Proofs.Try.f29.body.getD .skip) 0) 0

noncomputable def l_spec_Right_0_0 : LEnt := ⟨p_spec_Right_0_0, x_spec_Right_0_0, loopO (m_spec_Right_0_0)⟩

theorem lo_spec_Right_0_0 : LOK Try.prog 87 0 false (l_spec_Right_0_0) c_spec_Right_0_0 := loop_ok (body := m_spec_Right_0_0) (L := lookL []) (ck_spec_Right) mixed (ls_ok (l := []) (by kernel_rfl) .nil) (by intro x; kernel_rfl) (fun x y h => loopO_iff.1 h)

noncomputable def c_spec_Right_0 : Code := loopAt (Go.Proofs.Try.f29.body.getD .skip) 0

noncomputable def l_spec_Right_0 : LEnt := ⟨p_spec_Right_0, x_spec_Right_0, loopO (m_spec_Right_0)⟩

theorem lo_spec_Right_0 : LOK Try.prog 87 0 false (l_spec_Right_0) c_spec_Right_0 := loop_ok (body := m_spec_Right_0) (L := lookL [(2, l_spec_Right_0_0)]) (ck_spec_Right) mixed (ls_ok (l := [(2, c_spec_Right_0_0)]) (by kernel_rfl) (.cons rfl (lo_spec_Right_0_0) .nil)) (by intro x; kernel_rfl) (fun x y h => loopO_iff.1 h)

noncomputable def e_spec_Right : Ent := ⟨0, p_spec_Right, q_spec_Right, m_spec_Right⟩
theorem ok_spec_Right : FnOK Try.prog 29 e_spec_Right := fn_ok (L := lookL [(0, l_spec_Right_0)]) ck_spec_Right mixed Try.func29 rfl (by kernel_rfl) (by kernel_rfl) (ls_ok (l := [(0, c_spec_Right_0)]) (by kernel_rfl) (.cons rfl (lo_spec_Right_0) .nil)) (by intro x; kernel_rfl)

/-! spec.counted -/
abbrev p_spec_counted : Pt := [(0, .lst .node), (1, .int .i64), (2, .int .i64), (3, .int .i64), (4, .int .i64)]
abbrev q_spec_counted : Pt := [(0, .int .i64)]

abbrev p_spec_counted_0 : Pt := [(0, .lst .node), (1, .int .i64), (2, .int .i64), (3, .int .i64), (4, .int .i64), (12, .own .int 3), (13, .int .i64), (14, .int .i64)]
abbrev x_spec_counted_0 : List (Xt × Pt) := [(.ex 0, [(2, .int .i64), (3, .int .i64), (13, .int .i64)])]
noncomputable def m_spec_counted_0 : Tup p_spec_counted_0 → Option (Stp (Tup p_spec_counted_0) (SumT (x_spec_counted_0.map (·.2)))) := fun (x : List Node × Int × Int × Int × Int × List Int × Int × Int) => bif Decidable.decide (Prod.snd (Prod.snd (Prod.snd (Prod.snd (Prod.snd (Prod.snd (Prod.snd x)))))) < (↑(List.length (Prod.fst (Prod.snd (Prod.snd (Prod.snd (Prod.snd (Prod.snd x))))))) : Int)) then bif Decidable.decide (andI Go.IntKind.i64 (Prod.fst (Prod.snd (Prod.snd (Prod.snd (Prod.snd x))))) (2 : Int) ≠ (0 : Int)) then Option.bind (atI (Prod.fst (Prod.snd (Prod.snd (Prod.snd (Prod.snd (Prod.snd x)))))) (Prod.snd (Prod.snd (Prod.snd (Prod.snd (Prod.snd (Prod.snd (Prod.snd x)))))))) fun (x_1 : Int) => Option.bind (Prod.fst (Prod.snd (Prod.snd (Prod.snd (Prod.snd (Prod.snd x))))))[Int.toNat (Prod.snd (Prod.snd (Prod.snd (Prod.snd (Prod.snd (Prod.snd (Prod.snd x)))))))]? fun (v : Int) => Option.bind (atI (Prod.fst x) v) fun (v : Node) => Option.bind (atI (Prod.fst x) (Prod.fst (Prod.snd x))) fun (v_1 : Node) => bif Decidable.decide (Node.tag v ≠ Node.tag v_1) then Option.some (Stp.nx (Prod.fst x, Prod.fst (Prod.snd x), Prod.fst (Prod.snd (Prod.snd x)), Prod.fst (Prod.snd (Prod.snd (Prod.snd x))), Prod.fst (Prod.snd (Prod.snd (Prod.snd (Prod.snd x)))), Prod.fst (Prod.snd (Prod.snd (Prod.snd (Prod.snd (Prod.snd x))))), Prod.fst (Prod.snd (Prod.snd (Prod.snd (Prod.snd (Prod.snd (Prod.snd x)))))), Go.IntKind.wrap Go.IntKind.i64 (Prod.snd (Prod.snd (Prod.snd (Prod.snd (Prod.snd (Prod.snd (Prod.snd x)))))) + (1 : Int)))) else bif Decidable.decide (andI Go.IntKind.i64 (Prod.fst (Prod.snd (Prod.snd (Prod.snd (Prod.snd x))))) (1 : Int) = (0 : Int)) then Option.bind (atI (Prod.fst (Prod.snd (Prod.snd (Prod.snd (Prod.snd (Prod.snd x)))))) (Prod.snd (Prod.snd (Prod.snd (Prod.snd (Prod.snd (Prod.snd (Prod.snd x)))))))) fun (x_2 : Int) => Option.bind (Prod.fst (Prod.snd (Prod.snd (Prod.snd (Prod.snd (Prod.snd x))))))[Int.toNat (Prod.snd (Prod.snd (Prod.snd (Prod.snd (Prod.snd (Prod.snd (Prod.snd x)))))))]? fun (v : Int) => bif Decidable.decide (v ≤ Prod.fst (Prod.snd x)) then Option.some (Stp.nx (Prod.fst x, Prod.fst (Prod.snd x), Prod.fst (Prod.snd (Prod.snd x)), Prod.fst (Prod.snd (Prod.snd (Prod.snd x))), Prod.fst (Prod.snd (Prod.snd (Prod.snd (Prod.snd x)))), Prod.fst (Prod.snd (Prod.snd (Prod.snd (Prod.snd (Prod.snd x))))), Go.IntKind.wrap Go.IntKind.i64 (Prod.fst (Prod.snd (Prod.snd (Prod.snd (Prod.snd (Prod.snd (Prod.snd x)))))) + (1 : Int)), Go.IntKind.wrap Go.IntKind.i64 (Prod.snd (Prod.snd (Prod.snd (Prod.snd (Prod.snd (Prod.snd (Prod.snd x)))))) + (1 : Int)))) else bif Decidable.decide (andI Go.IntKind.i64 (Prod.fst (Prod.snd (Prod.snd (Prod.snd (Prod.snd x))))) (1 : Int) ≠ (0 : Int)) then Option.bind (atI (Prod.fst (Prod.snd (Prod.snd (Prod.snd (Prod.snd (Prod.snd x)))))) (Prod.snd (Prod.snd (Prod.snd (Prod.snd (Prod.snd (Prod.snd (Prod.snd x)))))))) fun (x_3 : Int) => Option.bind (Prod.fst (Prod.snd (Prod.snd (Prod.snd (Prod.snd (Prod.snd x))))))[Int.toNat (Prod.snd (Prod.snd (Prod.snd (Prod.snd (Prod.snd (Prod.snd (Prod.snd x)))))))]? fun (v : Int) => bif Decidable.decide (Prod.fst (Prod.snd x) ≤ v) then Option.some (Stp.nx (Prod.fst x, Prod.fst (Prod.snd x), Prod.fst (Prod.snd (Prod.snd x)), Prod.fst (Prod.snd (Prod.snd (Prod.snd x))), Prod.fst (Prod.snd (Prod.snd (Prod.snd (Prod.snd x)))), Prod.fst (Prod.snd (Prod.snd (Prod.snd (Prod.snd (Prod.snd x))))), Go.IntKind.wrap Go.IntKind.i64 (Prod.fst (Prod.snd (Prod.snd (Prod.snd (Prod.snd (Prod.snd (Prod.snd x)))))) + (1 : Int)), Go.IntKind.wrap Go.IntKind.i64 (Prod.snd (Prod.snd (Prod.snd (Prod.snd (Prod.snd (Prod.snd (Prod.snd x)))))) + (1 : Int)))) else Option.some (Stp.nx (Prod.fst x, Prod.fst (Prod.snd x), Prod.fst (Prod.snd (Prod.snd x)), Prod.fst (Prod.snd (Prod.snd (Prod.snd x))), Prod.fst (Prod.snd (Prod.snd (Prod.snd (Prod.snd x)))), Prod.fst (Prod.snd (Prod.snd (Prod.snd (Prod.snd (Prod.snd x))))), Prod.fst (Prod.snd (Prod.snd (Prod.snd (Prod.snd (Prod.snd (Prod.snd x)))))), Go.IntKind.wrap Go.IntKind.i64 (Prod.snd (Prod.snd (Prod.snd (Prod.snd (Prod.snd (Prod.snd (Prod.snd x)))))) + (1 : Int)))) else Option.some (Stp.nx (Prod.fst x, Prod.fst (Prod.snd x), Prod.fst (Prod.snd (Prod.snd x)), Prod.fst (Prod.snd (Prod.snd (Prod.snd x))), Prod.fst (Prod.snd (Prod.snd (Prod.snd (Prod.snd x)))), Prod.fst (Prod.snd (Prod.snd (Prod.snd (Prod.snd (Prod.snd x))))), Prod.fst (Prod.snd (Prod.snd (Prod.snd (Prod.snd (Prod.snd (Prod.snd x)))))), Go.IntKind.wrap Go.IntKind.i64 (Prod.snd (Prod.snd (Prod.snd (Prod.snd (Prod.snd (Prod.snd (Prod.snd x)))))) + (1 : Int)))) else bif Decidable.decide (andI Go.IntKind.i64 (Prod.fst (Prod.snd (Prod.snd (Prod.snd (Prod.snd x))))) (1 : Int) ≠ (0 : Int)) then Option.bind (atI (Prod.fst (Prod.snd (Prod.snd (Prod.snd (Prod.snd (Prod.snd x)))))) (Prod.snd (Prod.snd (Prod.snd (Prod.snd (Prod.snd (Prod.snd (Prod.snd x)))))))) fun (x_2 : Int) => Option.bind (Prod.fst (Prod.snd (Prod.snd (Prod.snd (Prod.snd (Prod.snd x))))))[Int.toNat (Prod.snd (Prod.snd (Prod.snd (Prod.snd (Prod.snd (Prod.snd (Prod.snd x)))))))]? fun (v : Int) => bif Decidable.decide (Prod.fst (Prod.snd x) ≤ v) then Option.some (Stp.nx (Prod.fst x, Prod.fst (Prod.snd x), Prod.fst (Prod.snd (Prod.snd x)), Prod.fst (Prod.snd (Prod.snd (Prod.snd x))), Prod.fst (Prod.snd (Prod.snd (Prod.snd (Prod.snd x)))), Prod.fst (Prod.snd (Prod.snd (Prod.snd (Prod.snd (Prod.snd x))))), Go.IntKind.wrap Go.IntKind.i64 (Prod.fst (Prod.snd (Prod.snd (Prod.snd (Prod.snd (Prod.snd (Prod.snd x)))))) + (1 : Int)), Go.IntKind.wrap Go.IntKind.i64 (Prod.snd (Prod.snd (Prod.snd (Prod.snd (Prod.snd (Prod.snd (Prod.snd x)))))) + (1 : Int)))) else Option.some (Stp.nx (Prod.fst x, Prod.fst (Prod.snd x), Prod.fst (Prod.snd (Prod.snd x)), Prod.fst (Prod.snd (Prod.snd (Prod.snd x))), Prod.fst (Prod.snd (Prod.snd (Prod.snd (Prod.snd x)))), Prod.fst (Prod.snd (Prod.snd (Prod.snd (Prod.snd (Prod.snd x))))), Prod.fst (Prod.snd (Prod.snd (Prod.snd (Prod.snd (Prod.snd (Prod.snd x)))))), Go.IntKind.wrap Go.IntKind.i64 (Prod.snd (Prod.snd (Prod.snd (Prod.snd (Prod.snd (Prod.snd (Prod.snd x)))))) + (1 : Int)))) else Option.some (Stp.nx (Prod.fst x, Prod.fst (Prod.snd x), Prod.fst (Prod.snd (Prod.snd x)), Prod.fst (Prod.snd (Prod.snd (Prod.snd x))), Prod.fst (Prod.snd (Prod.snd (Prod.snd (Prod.snd x)))), Prod.fst (Prod.snd (Prod.snd (Prod.snd (Prod.snd (Prod.snd x))))), Prod.fst (Prod.snd (Prod.snd (Prod.snd (Prod.snd (Prod.snd (Prod.snd x)))))), Go.IntKind.wrap Go.IntKind.i64 (Prod.snd (Prod.snd (Prod.snd (Prod.snd (Prod.snd (Prod.snd (Prod.snd x)))))) + (1 : Int)))) else bif Decidable.decide (andI Go.IntKind.i64 (Prod.fst (Prod.snd (Prod.snd (Prod.snd (Prod.snd x))))) (1 : Int) = (0 : Int)) then Option.bind (atI (Prod.fst (Prod.snd (Prod.snd (Prod.snd (Prod.snd (Prod.snd x)))))) (Prod.snd (Prod.snd (Prod.snd (Prod.snd (Prod.snd (Prod.snd (Prod.snd x)))))))) fun (x_1 : Int) => Option.bind (Prod.fst (Prod.snd (Prod.snd (Prod.snd (Prod.snd (Prod.snd x))))))[Int.toNat (Prod.snd (Prod.snd (Prod.snd (Prod.snd (Prod.snd (Prod.snd (Prod.snd x)))))))]? fun (v : Int) => bif Decidable.decide (v ≤ Prod.fst (Prod.snd x)) then Option.some (Stp.nx (Prod.fst x, Prod.fst (Prod.snd x), Prod.fst (Prod.snd (Prod.snd x)), Prod.fst (Prod.snd (Prod.snd (Prod.snd x))), Prod.fst (Prod.snd (Prod.snd (Prod.snd (Prod.snd x)))), Prod.fst (Prod.snd (Prod.snd (Prod.snd (Prod.snd (Prod.snd x))))), Go.IntKind.wrap Go.IntKind.i64 (Prod.fst (Prod.snd (Prod.snd (Prod.snd (Prod.snd (Prod.snd (Prod.snd x)))))) + (1 : Int)), Go.IntKind.wrap Go.IntKind.i64 (Prod.snd (Prod.snd (Prod.snd (Prod.snd (Prod.snd (Prod.snd (Prod.snd x)))))) + (1 : Int)))) else bif Decidable.decide (andI Go.IntKind.i64 (Prod.fst (Prod.snd (Prod.snd (Prod.snd (Prod.snd x))))) (1 : Int) ≠ (0 : Int)) then Option.bind (atI (Prod.fst (Prod.snd (Prod.snd (Prod.snd (Prod.snd (Prod.snd x)))))) (Prod.snd (Prod.snd (Prod.snd (Prod.snd (Prod.snd (Prod.snd (Prod.snd x)))))))) fun (x_2 : Int) => Option.bind (Prod.fst (Prod.snd (Prod.snd (Prod.snd (Prod.snd (Prod.snd x))))))[Int.toNat (Prod.snd (Prod.snd (Prod.snd (Prod.snd (Prod.snd (Prod.snd (Prod.snd x)))))))]? fun (v : Int) => bif Decidable.decide (Prod.fst (Prod.snd x) ≤ v) then Option.some (Stp.nx (Prod.fst x, Prod.fst (Prod.snd x), Prod.fst (Prod.snd (Prod.snd x)), Prod.fst (Prod.snd (Prod.snd (Prod.snd x))), Prod.fst (Prod.snd (Prod.snd (Prod.snd (Prod.snd x)))), Prod.fst (Prod.snd (Prod.snd (Prod.snd (Prod.snd (Prod.snd x))))), Go.IntKind.wrap Go.IntKind.i64 (Prod.fst (Prod.snd (Prod.snd (Prod.snd (Prod.snd (Prod.snd (Prod.snd x)))))) + (1 : Int)), Go.IntKind.wrap Go.IntKind.i64 (Prod.snd (Prod.snd (Prod.snd (Prod.snd (Prod.snd (Prod.snd (Prod.snd x)))))) + (1 : Int)))) else Option.some (Stp.nx (Prod.fst x, Prod.fst (Prod.snd x), Prod.fst (Prod.snd (Prod.snd x)), Prod.fst (Prod.snd (Prod.snd (Prod.snd x))), Prod.fst (Prod.snd (Prod.snd (Prod.snd (Prod.snd x)))), Prod.fst (Prod.snd (Prod.snd (Prod.snd (Prod.snd (Prod.snd x))))), Prod.fst (Prod.snd (Prod.snd (Prod.snd (Prod.snd (Prod.snd (Prod.snd x)))))), Go.IntKind.wrap Go.IntKind.i64 (Prod.snd (Prod.snd (Prod.snd (Prod.snd (Prod.snd (Prod.snd (Prod.snd x)))))) + (1 : Int)))) else Option.some (Stp.nx (Prod.fst x, Prod.fst (Prod.snd x), Prod.fst (Prod.snd (Prod.snd x)), Prod.fst (Prod.snd (Prod.snd (Prod.snd x))), Prod.fst (Prod.snd (Prod.snd (Prod.snd (Prod.snd x)))), Prod.fst (Prod.snd (Prod.snd (Prod.snd (Prod.snd (Prod.snd x))))), Prod.fst (Prod.snd (Prod.snd (Prod.snd (Prod.snd (Prod.snd (Prod.snd x)))))), Go.IntKind.wrap Go.IntKind.i64 (Prod.snd (Prod.snd (Prod.snd (Prod.snd (Prod.snd (Prod.snd (Prod.snd x)))))) + (1 : Int)))) else bif Decidable.decide (andI Go.IntKind.i64 (Prod.fst (Prod.snd (Prod.snd (Prod.snd (Prod.snd x))))) (1 : Int) ≠ (0 : Int)) then Option.bind (atI (Prod.fst (Prod.snd (Prod.snd (Prod.snd (Prod.snd (Prod.snd x)))))) (Prod.snd (Prod.snd (Prod.snd (Prod.snd (Prod.snd (Prod.snd (Prod.snd x)))))))) fun (x_1 : Int) => Option.bind (Prod.fst (Prod.snd (Prod.snd (Prod.snd (Prod.snd (Prod.snd x))))))[Int.toNat (Prod.snd (Prod.snd (Prod.snd (Prod.snd (Prod.snd (Prod.snd (Prod.snd x)))))))]? fun (v : Int) => bif Decidable.decide (Prod.fst (Prod.snd x) ≤ v) then Option.some (Stp.nx (Prod.fst x, Prod.fst (Prod.snd x), Prod.fst (Prod.snd (Prod.snd x)), Prod.fst (Prod.snd (Prod.snd (Prod.snd x))), Prod.fst (Prod.snd (Prod.snd (Prod.snd (Prod.snd x)))), Prod.fst (Prod.snd (Prod.snd (Prod.snd (Prod.snd (Prod.snd x))))), Go.IntKind.wrap Go.IntKind.i64 (Prod.fst (Prod.snd (Prod.snd (Prod.snd (Prod.snd (Prod.snd (Prod.snd x)))))) + (1 : Int)), Go.IntKind.wrap Go.IntKind.i64 (Prod.snd (Prod.snd (Prod.snd (Prod.snd (Prod.snd (Prod.snd (Prod.snd x)))))) + (1 : Int)))) else Option.some (Stp.nx (Prod.fst x, Prod.fst (Prod.snd x), Prod.fst (Prod.snd (Prod.snd x)), Prod.fst (Prod.snd (Prod.snd (Prod.snd x))), Prod.fst (Prod.snd (Prod.snd (Prod.snd (Prod.snd x)))), Prod.fst (Prod.snd (Prod.snd (Prod.snd (Prod.snd (Prod.snd x))))), Prod.fst (Prod.snd (Prod.snd (Prod.snd (Prod.snd (Prod.snd (Prod.snd x)))))), Go.IntKind.wrap Go.IntKind.i64 (Prod.snd (Prod.snd (Prod.snd (Prod.snd (Prod.snd (Prod.snd (Prod.snd x)))))) + (1 : Int)))) else Option.some (Stp.nx (Prod.fst x, Prod.fst (Prod.snd x), Prod.fst (Prod.snd (Prod.snd x)), Prod.fst (Prod.snd (Prod.snd (Prod.snd x))), Prod.fst (Prod.snd (Prod.snd (Prod.snd (Prod.snd x)))), Prod.fst (Prod.snd (Prod.snd (Prod.snd (Prod.snd (Prod.snd x))))), Prod.fst (Prod.snd (Prod.snd (Prod.snd (Prod.snd (Prod.snd (Prod.snd x)))))), Go.IntKind.wrap Go.IntKind.i64 (Prod.snd (Prod.snd (Prod.snd (Prod.snd (Prod.snd (Prod.snd (Prod.snd x)))))) + (1 : Int)))) else Option.some (Stp.out (Prod.fst (Prod.snd (Prod.snd x)), Prod.fst (Prod.snd (Prod.snd (Prod.snd x))), Prod.fst (Prod.snd (Prod.snd (Prod.snd (Prod.snd (Prod.snd (Prod.snd x))))))))

noncomputable def m_spec_counted : Tup p_spec_counted → Option (Tup q_spec_counted) := fun (x : List Node × Int × Int × Int × Int) => Option.bind (m_spec_Parent (Prod.fst x, Prod.fst (Prod.snd x))) fun (r : Int) => bif Decidable.decide (r < (0 : Int)) then Option.some (2 : Int) else Option.bind (atI (Prod.fst x) r) fun (v : Node) => bif Decidable.decide (Node.kind v ≠ (3 : Int)) then Option.some (2 : Int) else Option.bind (m_spec_Elements (Prod.fst x, r)) fun (r : List Int) => Option.bind (loopO m_spec_counted_0 (Prod.fst x, Prod.fst (Prod.snd x), Prod.fst (Prod.snd (Prod.snd x)), Prod.fst (Prod.snd (Prod.snd (Prod.snd x))), Prod.snd (Prod.snd (Prod.snd (Prod.snd x))), r, (0 : Int), (0 : Int))) fun (y : Int × Int × Int) => Option.bind (m_spec_Reached (Prod.fst y, Prod.fst (Prod.snd y), Prod.snd (Prod.snd y))) fun (r : Bool) => Option.bind (m_spec_truth r) fun (r : Int) => Option.some r

noncomputable def cx_spec_counted : Cx := ⟨tb, lookE [(78, e_spec_Parent), (126, e_spec_Elements), (18, e_spec_Reached), (103, e_spec_truth)]⟩

theorem ck_spec_counted : CxOK Try.prog (cx_spec_counted) := cx_ok tb_ok (.cons ok_spec_Parent Try.call78 (.cons ok_spec_Elements Try.call126 (.cons ok_spec_Reached Try.call18 (.cons ok_spec_truth Try.call103 .nil))))

noncomputable def c_spec_counted_0 : Code := loopAt (Go.Proofs.Try.f128.body.getD .skip) 0

noncomputable def l_spec_counted_0 : LEnt := ⟨p_spec_counted_0, x_spec_counted_0, loopO (m_spec_counted_0)⟩

theorem lo_spec_counted_0 : LOK Try.prog 87 0 false (l_spec_counted_0) c_spec_counted_0 := loop_ok (body := m_spec_counted_0) (L := lookL []) (ck_spec_counted) mixed (ls_ok (l := []) (by kernel_rfl) .nil) (by intro x; kernel_rfl) (fun x y h => loopO_iff.1 h)

noncomputable def e_spec_counted : Ent := ⟨0, p_spec_counted, q_spec_counted, m_spec_counted⟩
theorem ok_spec_counted : FnOK Try.prog 128 e_spec_counted := fn_ok (L := lookL [(0, l_spec_counted_0)]) ck_spec_counted mixed Try.func128 rfl (by kernel_rfl) (by kernel_rfl) (ls_ok (l := [(0, c_spec_counted_0)]) (by kernel_rfl) (.cons rfl (lo_spec_counted_0) .nil)) (by intro x; kernel_rfl)

/-! spec.blankAll -/
abbrev p_spec_blankAll : Pt := [(0, .str)]
abbrev q_spec_blankAll : Pt := [(0, .bool)]

abbrev p_spec_blankAll_0 : Pt := [(0, .str), (3, .int .i64)]
abbrev x_spec_blankAll_0 : List (Xt × Pt) := [(.ex 0, []), (.rt, [(2, .bool)])]
noncomputable def m_spec_blankAll_0 : Tup p_spec_blankAll_0 → Option (Stp (Tup p_spec_blankAll_0) (SumT (x_spec_blankAll_0.map (·.2)))) := fun (x : List UInt8 × Int) => bif Decidable.decide (Prod.snd x < (↑(List.length (Prod.fst x)) : Int)) then Option.bind (m_spec_Point (Prod.fst x, Prod.snd x)) fun (r : Int × Int) => bif Decidable.decide (Prod.snd r = (0 : Int)) then Option.some (Stp.out (Sum.inr Bool.false)) else bif Decidable.decide ((9 : Int) ≤ Prod.fst r) then bif Decidable.decide (Prod.fst r ≤ (13 : Int)) then Option.some (Stp.nx (Prod.fst x, Go.IntKind.wrap Go.IntKind.i64 (Prod.snd x + Prod.snd r))) else bif Decidable.decide (Prod.fst r = (32 : Int)) then Option.some (Stp.nx (Prod.fst x, Go.IntKind.wrap Go.IntKind.i64 (Prod.snd x + Prod.snd r))) else bif Decidable.decide (Prod.fst r = (133 : Int)) then Option.some (Stp.nx (Prod.fst x, Go.IntKind.wrap Go.IntKind.i64 (Prod.snd x + Prod.snd r))) else bif Decidable.decide (Prod.fst r = (160 : Int)) then Option.some (Stp.nx (Prod.fst x, Go.IntKind.wrap Go.IntKind.i64 (Prod.snd x + Prod.snd r))) else bif Decidable.decide (Prod.fst r = (5760 : Int)) then Option.some (Stp.nx (Prod.fst x, Go.IntKind.wrap Go.IntKind.i64 (Prod.snd x + Prod.snd r))) else bif Decidable.decide ((8192 : Int) ≤ Prod.fst r) then bif Decidable.decide (Prod.fst r ≤ (8202 : Int)) then Option.some (Stp.nx (Prod.fst x, Go.IntKind.wrap Go.IntKind.i64 (Prod.snd x + Prod.snd r))) else bif Decidable.decide (Prod.fst r = (8232 : Int)) then Option.some (Stp.nx (Prod.fst x, Go.IntKind.wrap Go.IntKind.i64 (Prod.snd x + Prod.snd r))) else bif Decidable.decide (Prod.fst r = (8233 : Int)) then Option.some (Stp.nx (Prod.fst x, Go.IntKind.wrap Go.IntKind.i64 (Prod.snd x + Prod.snd r))) else bif Decidable.decide (Prod.fst r = (8239 : Int)) then Option.some (Stp.nx (Prod.fst x, Go.IntKind.wrap Go.IntKind.i64 (Prod.snd x + Prod.snd r))) else bif Decidable.decide (Prod.fst r = (8287 : Int)) then Option.some (Stp.nx (Prod.fst x, Go.IntKind.wrap Go.IntKind.i64 (Prod.snd x + Prod.snd r))) else bif !Decidable.decide (Prod.fst r = (12288 : Int)) then Option.some (Stp.out (Sum.inr Bool.false)) else Option.some (Stp.nx (Prod.fst x, Go.IntKind.wrap Go.IntKind.i64 (Prod.snd x + Prod.snd r))) else bif Decidable.decide (Prod.fst r = (8232 : Int)) then Option.some (Stp.nx (Prod.fst x, Go.IntKind.wrap Go.IntKind.i64 (Prod.snd x + Prod.snd r))) else bif Decidable.decide (Prod.fst r = (8233 : Int)) then Option.some (Stp.nx (Prod.fst x, Go.IntKind.wrap Go.IntKind.i64 (Prod.snd x + Prod.snd r))) else bif Decidable.decide (Prod.fst r = (8239 : Int)) then Option.some (Stp.nx (Prod.fst x, Go.IntKind.wrap Go.IntKind.i64 (Prod.snd x + Prod.snd r))) else bif Decidable.decide (Prod.fst r = (8287 : Int)) then Option.some (Stp.nx (Prod.fst x, Go.IntKind.wrap Go.IntKind.i64 (Prod.snd x + Prod.snd r))) else bif !Decidable.decide (Prod.fst r = (12288 : Int)) then Option.some (Stp.out (Sum.inr Bool.false)) else Option.some (Stp.nx (Prod.fst x, Go.IntKind.wrap Go.IntKind.i64 (Prod.snd x + Prod.snd r))) else bif Decidable.decide (Prod.fst r = (32 : Int)) then Option.some (Stp.nx (Prod.fst x, Go.IntKind.wrap Go.IntKind.i64 (Prod.snd x + Prod.snd r))) else bif Decidable.decide (Prod.fst r = (133 : Int)) then Option.some (Stp.nx (Prod.fst x, Go.IntKind.wrap Go.IntKind.i64 (Prod.snd x + Prod.snd r))) else bif Decidable.decide (Prod.fst r = (160 : Int)) then Option.some (Stp.nx (Prod.fst x, Go.IntKind.wrap Go.IntKind.i64 (Prod.snd x + Prod.snd r))) else bif Decidable.decide (Prod.fst r = (5760 : Int)) then Option.some (Stp.nx (Prod.fst x, Go.IntKind.wrap Go.IntKind.i64 (Prod.snd x + Prod.snd r))) else bif Decidable.decide ((8192 : Int) ≤ Prod.fst r) then bif Decidable.decide (Prod.fst r ≤ (8202 : Int)) then Option.some (Stp.nx (Prod.fst x, Go.IntKind.wrap Go.IntKind.i64 (Prod.snd x + Prod.snd r))) else bif Decidable.decide (Prod.fst r = (8232 : Int)) then Option.some (Stp.nx (Prod.fst x, Go.IntKind.wrap Go.IntKind.i64 (Prod.snd x + Prod.snd r))) else bif Decidable.decide (Prod.fst r = (8233 : Int)) then Option.some (Stp.nx (Prod.fst x, Go.IntKind.wrap Go.IntKind.i64 (Prod.snd x + Prod.snd r))) else bif Decidable.decide (Prod.fst r = (8239 : Int)) then Option.some (Stp.nx (Prod.fst x, Go.IntKind.wrap Go.IntKind.i64 (Prod.snd x + Prod.snd r))) else bif Decidable.decide (Prod.fst r = (8287 : Int)) then Option.some (Stp.nx (Prod.fst x, Go.IntKind.wrap Go.IntKind.i64 (Prod.snd x + Prod.snd r))) else bif !Decidable.decide (Prod.fst r = (12288 : Int)) then Option.some (Stp.out (Sum.inr Bool.false)) else Option.some (Stp.nx (Prod.fst x, Go.IntKind.wrap Go.IntKind.i64 (Prod.snd x + Prod.snd r))) else bif Decidable.decide (Prod.fst r = (8232 : Int)) then Option.some (Stp.nx (Prod.fst x, Go.IntKind.wrap Go.IntKind.i64 (Prod.snd x + Prod.snd r))) else bif Decidable.decide (Prod.fst r = (8233 : Int)) then Option.some (Stp.nx (Prod.fst x, Go.IntKind.wrap Go.IntKind.i64 (Prod.snd x + Prod.snd r))) else bif Decidable.decide (Prod.fst r = (8239 : Int)) then Option.some (Stp.nx (Prod.fst x, Go.IntKind.wrap Go.IntKind.i64 (Prod.snd x + Prod.snd r))) else bif Decidable.decide (Prod.fst r = (8287 : Int)) then Option.some (Stp.nx (Prod.fst x, Go.IntKind.wrap Go.IntKind.i64 (Prod.snd x + Prod.snd r))) else bif !Decidable.decide (Prod.fst r = (12288 : Int)) then Option.some (Stp.out (Sum.inr Bool.false)) else Option.some (Stp.nx (Prod.fst x, Go.IntKind.wrap Go.IntKind.i64 (Prod.snd x + Prod.snd r))) else Option.some (Stp.out (Sum.inl PUnit.unit))

noncomputable def m_spec_blankAll : Tup p_spec_blankAll → Option (Tup q_spec_blankAll) := fun (x : List UInt8) => Option.bind (loopO m_spec_blankAll_0 (x, (0 : Int))) fun (y : PUnit ⊕ Bool) => selim (fun (y : PUnit) => Option.some Bool.true) (fun (y : Bool) => Option.some y) y

noncomputable def cx_spec_blankAll : Cx := ⟨tb, lookE [(57, e_spec_Point)]⟩

theorem ck_spec_blankAll : CxOK Try.prog (cx_spec_blankAll) := cx_ok tb_ok (.cons ok_spec_Point Try.call57 .nil)

noncomputable def c_spec_blankAll_0 : Code := loopAt (Go.Proofs.Try.f105.body.getD .skip) 0

noncomputable def l_spec_blankAll_0 : LEnt := ⟨p_spec_blankAll_0, x_spec_blankAll_0, loopO (m_spec_blankAll_0)⟩

theorem lo_spec_blankAll_0 : LOK Try.prog 74 0 false (l_spec_blankAll_0) c_spec_blankAll_0 := loop_ok (body := m_spec_blankAll_0) (L := lookL []) (ck_spec_blankAll) mixed (ls_ok (l := []) (by kernel_rfl) .nil) (by intro x; kernel_rfl) (fun x y h => loopO_iff.1 h)

noncomputable def e_spec_blankAll : Ent := ⟨0, p_spec_blankAll, q_spec_blankAll, m_spec_blankAll⟩
theorem ok_spec_blankAll : FnOK Try.prog 105 e_spec_blankAll := fn_ok (L := lookL [(0, l_spec_blankAll_0)]) ck_spec_blankAll mixed Try.func105 rfl (by kernel_rfl) (by kernel_rfl) (ls_ok (l := [(0, c_spec_blankAll_0)]) (by kernel_rfl) (.cons rfl (lo_spec_blankAll_0) .nil)) (by intro x; kernel_rfl)

/-! spec.empty -/
abbrev p_spec_empty : Pt := [(0, .lst .node), (1, .int .i64)]
abbrev q_spec_empty : Pt := [(0, .int .i64)]

abbrev p_spec_empty_0 : Pt := [(0, .lst .node), (5, .own .int 3), (6, .int .i64), (7, .int .i64)]
abbrev x_spec_empty_0 : List (Xt × Pt) := [(.ex 0, [(6, .int .i64)]), (.rt, [(4, .int .i64)])]
noncomputable def m_spec_empty_0 : Tup p_spec_empty_0 → Option (Stp (Tup p_spec_empty_0) (SumT (x_spec_empty_0.map (·.2)))) := fun (x : List Node × List Int × Int × Int) => bif Decidable.decide (Prod.snd (Prod.snd (Prod.snd x)) < (↑(List.length (Prod.fst (Prod.snd x))) : Int)) then Option.bind (atI (Prod.fst (Prod.snd x)) (Prod.snd (Prod.snd (Prod.snd x)))) fun (x_1 : Int) => Option.bind (Prod.fst (Prod.snd x))[Int.toNat (Prod.snd (Prod.snd (Prod.snd x)))]? fun (v : Int) => Option.bind (atI (Prod.fst x) v) fun (v : Node) => bif Decidable.decide (Node.kind v = (3 : Int)) then Option.some (Stp.out (Sum.inr (0 : Int))) else Option.bind (atI (Prod.fst (Prod.snd x)) (Prod.snd (Prod.snd (Prod.snd x)))) fun (x_2 : Int) => Option.bind (Prod.fst (Prod.snd x))[Int.toNat (Prod.snd (Prod.snd (Prod.snd x)))]? fun (v : Int) => Option.bind (atI (Prod.fst x) v) fun (v : Node) => bif Decidable.decide (Node.kind v = (4 : Int)) then Option.bind (atI (Prod.fst (Prod.snd x)) (Prod.snd (Prod.snd (Prod.snd x)))) fun (x_3 : Int) => Option.bind (Prod.fst (Prod.snd x))[Int.toNat (Prod.snd (Prod.snd (Prod.snd x)))]? fun (v : Int) => Option.bind (atI (Prod.fst x) v) fun (v : Node) => Option.bind (m_spec_blankAll (Node.text v)) fun (r : Bool) => bif !r then Option.some (Stp.out (Sum.inr (0 : Int))) else Option.bind (atI (Prod.fst (Prod.snd x)) (Prod.snd (Prod.snd (Prod.snd x)))) fun (x_4 : Int) => Option.bind (Prod.fst (Prod.snd x))[Int.toNat (Prod.snd (Prod.snd (Prod.snd x)))]? fun (v : Int) => Option.bind (atI (Prod.fst x) v) fun (v : Node) => bif Decidable.decide (Node.kind v = (4 : Int)) then Option.some (Stp.nx (Prod.fst x, Prod.fst (Prod.snd x), (2 : Int), Go.IntKind.wrap Go.IntKind.i64 (Prod.snd (Prod.snd (Prod.snd x)) + (1 : Int)))) else Option.some (Stp.nx (Prod.fst x, Prod.fst (Prod.snd x), Prod.fst (Prod.snd (Prod.snd x)), Go.IntKind.wrap Go.IntKind.i64 (Prod.snd (Prod.snd (Prod.snd x)) + (1 : Int)))) else Option.bind (atI (Prod.fst (Prod.snd x)) (Prod.snd (Prod.snd (Prod.snd x)))) fun (x_3 : Int) => Option.bind (Prod.fst (Prod.snd x))[Int.toNat (Prod.snd (Prod.snd (Prod.snd x)))]? fun (v : Int) => Option.bind (atI (Prod.fst x) v) fun (v : Node) => bif Decidable.decide (Node.kind v = (4 : Int)) then Option.some (Stp.nx (Prod.fst x, Prod.fst (Prod.snd x), (2 : Int), Go.IntKind.wrap Go.IntKind.i64 (Prod.snd (Prod.snd (Prod.snd x)) + (1 : Int)))) else Option.some (Stp.nx (Prod.fst x, Prod.fst (Prod.snd x), Prod.fst (Prod.snd (Prod.snd x)), Go.IntKind.wrap Go.IntKind.i64 (Prod.snd (Prod.snd (Prod.snd x)) + (1 : Int)))) else Option.some (Stp.out (Sum.inl (Prod.fst (Prod.snd (Prod.snd x)))))

noncomputable def m_spec_empty : Tup p_spec_empty → Option (Tup q_spec_empty) := fun (x : List Node × Int) => Option.bind (m_spec_Kids (Prod.fst x, Prod.snd x)) fun (r : List Int) => Option.bind (loopO m_spec_empty_0 (Prod.fst x, r, (1 : Int), (0 : Int))) fun (y : Int ⊕ Int) => selim (fun (y : Int) => Option.some y) (fun (y : Int) => Option.some y) y

noncomputable def cx_spec_empty : Cx := ⟨tb, lookE [(96, e_spec_Kids), (105, e_spec_blankAll)]⟩

theorem ck_spec_empty : CxOK Try.prog (cx_spec_empty) := cx_ok tb_ok (.cons ok_spec_Kids Try.call96 (.cons ok_spec_blankAll Try.call105 .nil))

noncomputable def c_spec_empty_0 : Code := loopAt (Go.Proofs.Try.f129.body.getD .skip) 0

noncomputable def l_spec_empty_0 : LEnt := ⟨p_spec_empty_0, x_spec_empty_0, loopO (m_spec_empty_0)⟩

theorem lo_spec_empty_0 : LOK Try.prog 60 0 false (l_spec_empty_0) c_spec_empty_0 := loop_ok (body := m_spec_empty_0) (L := lookL []) (ck_spec_empty) mixed (ls_ok (l := []) (by kernel_rfl) .nil) (by intro x; kernel_rfl) (fun x y h => loopO_iff.1 h)

noncomputable def e_spec_empty : Ent := ⟨0, p_spec_empty, q_spec_empty, m_spec_empty⟩
theorem ok_spec_empty : FnOK Try.prog 129 e_spec_empty := fn_ok (L := lookL [(0, l_spec_empty_0)]) ck_spec_empty mixed Try.func129 rfl (by kernel_rfl) (by kernel_rfl) (ls_ok (l := [(0, c_spec_empty_0)]) (by kernel_rfl) (.cons rfl (lo_spec_empty_0) .nil)) (by intro x; kernel_rfl)

/-! spec.language -/
abbrev p_spec_language : Pt := [(0, .lst .node), (1, .int .i64), (2, .str)]
abbrev q_spec_language : Pt := [(0, .int .i64)]

abbrev p_spec_language_0 : Pt := [(0, .lst .node), (1, .int .i64), (2, .str), (7, .int .i64), (8, .bool)]
abbrev x_spec_language_0 : List (Xt × Pt) := [(.ex 0, [(7, .int .i64)]), (.rt, [(6, .int .i64)])]
noncomputable def m_spec_language_0 : Tup p_spec_language_0 → Option (Stp (Tup p_spec_language_0) (SumT (x_spec_language_0.map (·.2)))) := fun (x : List Node × Int × List UInt8 × Int × Bool) => bif Decidable.decide ((0 : Int) ≤ Prod.fst (Prod.snd x)) then Option.bind (atI (Prod.fst x) (Prod.fst (Prod.snd x))) fun (v : Node) => Option.bind (m_spec_Attr ({ kind := Node.kind v, tag := Node.tag v, text := Node.text v, attrs := Node.attrs v, size := Node.size v }, [(108 : UInt8), (97 : UInt8), (110 : UInt8), (103 : UInt8)])) fun (r : List UInt8 × Bool) => bif !Prod.snd r then Option.bind (m_spec_Parent (Prod.fst x, Prod.fst (Prod.snd x))) fun (r : Int) => Option.some (Stp.nx (Prod.fst x, r, Prod.fst (Prod.snd (Prod.snd x)), Prod.fst (Prod.snd (Prod.snd (Prod.snd x))), Prod.snd (Prod.snd (Prod.snd (Prod.snd x))))) else bif Decidable.decide (Prod.fst (Prod.snd (Prod.snd x)) = Array.toList (ByteArray.data { data := #[] })) then Option.some (Stp.out (Sum.inr (2 : Int))) else bif Decidable.decide (Prod.fst r = Array.toList (ByteArray.data { data := #[] })) then Option.some (Stp.out (Sum.inr (2 : Int))) else Option.none else Option.some (Stp.out (Sum.inl (Prod.fst (Prod.snd (Prod.snd (Prod.snd x))))))

noncomputable def m_spec_language : Tup p_spec_language → Option (Tup q_spec_language) := fun (x : List Node × Int × List UInt8) => Option.bind (loopO m_spec_language_0 (Prod.fst x, Prod.fst (Prod.snd x), Prod.snd (Prod.snd x), (0 : Int), Bool.false)) fun (y : Int ⊕ Int) => selim (fun (y : Int) => Option.some y) (fun (y : Int) => Option.some y) y

noncomputable def cx_spec_language : Cx := ⟨tb, lookE [(127, e_spec_Attr), (79, e_spec_ascii), (104, e_spec_stands), (103, e_spec_truth), (78, e_spec_Parent)]⟩

theorem ck_spec_language : CxOK Try.prog (cx_spec_language) := cx_ok tb_ok (.cons ok_spec_Attr Try.call127 (.cons ok_spec_ascii Try.call79 (.cons ok_spec_stands Try.call104 (.cons ok_spec_truth Try.call103 (.cons ok_spec_Parent Try.call78 .nil)))))

noncomputable def c_spec_language_0 : Code := loopAt (Go.Proofs.Try.f130.body.getD .skip) 0

noncomputable def l_spec_language_0 : LEnt := ⟨p_spec_language_0, x_spec_language_0, loopO (m_spec_language_0)⟩

theorem lo_spec_language_0 : LOK Try.prog 73 0 false (l_spec_language_0) c_spec_language_0 := loop_ok (body := m_spec_language_0) (L := lookL []) (ck_spec_language) mixed (ls_ok (l := []) (by kernel_rfl) .nil) (by intro x; kernel_rfl) (fun x y h => loopO_iff.1 h)

noncomputable def e_spec_language : Ent := ⟨0, p_spec_language, q_spec_language, m_spec_language⟩
theorem ok_spec_language : FnOK Try.prog 130 e_spec_language := fn_ok (L := lookL [(0, l_spec_language_0)]) ck_spec_language mixed Try.func130 rfl (by kernel_rfl) (by kernel_rfl) (ls_ok (l := [(0, c_spec_language_0)]) (by kernel_rfl) (.cons rfl (lo_spec_language_0) .nil)) (by intro x; kernel_rfl)

/-! spec.Order -/
abbrev p_spec_Order : Pt := [(0, .lst .node), (1, .lst .int)]
abbrev q_spec_Order : Pt := [(0, .bool)]

abbrev p_spec_Order_0 : Pt := [(0, .lst .node), (1, .lst .int), (5, .int .i64)]
abbrev x_spec_Order_0 : List (Xt × Pt) := [(.ex 0, []), (.rt, [(4, .bool)])]
noncomputable def m_spec_Order_0 : Tup p_spec_Order_0 → Option (Stp (Tup p_spec_Order_0) (SumT (x_spec_Order_0.map (·.2)))) := fun (x : List Node × List Int × Int) => bif Decidable.decide (Prod.snd (Prod.snd x) < (↑(List.length (Prod.fst (Prod.snd x))) : Int)) then Option.bind (atI (Prod.fst (Prod.snd x)) (Prod.snd (Prod.snd x))) fun (v : Int) => bif Decidable.decide (v < (0 : Int)) then Option.some (Stp.out (Sum.inr Bool.false)) else Option.bind (atI (Prod.fst (Prod.snd x)) (Prod.snd (Prod.snd x))) fun (v : Int) => bif Decidable.decide ((↑(List.length (Prod.fst x)) : Int) ≤ v) then Option.some (Stp.out (Sum.inr Bool.false)) else bif Decidable.decide ((0 : Int) < Prod.snd (Prod.snd x)) then Option.bind (atI (Prod.fst (Prod.snd x)) (Prod.snd (Prod.snd x))) fun (v : Int) => Option.bind (atI (Prod.fst (Prod.snd x)) (Go.IntKind.wrap Go.IntKind.i64 (Prod.snd (Prod.snd x) - (1 : Int)))) fun (v_1 : Int) => bif Decidable.decide (v ≤ v_1) then Option.some (Stp.out (Sum.inr Bool.false)) else Option.some (Stp.nx (Prod.fst x, Prod.fst (Prod.snd x), Go.IntKind.wrap Go.IntKind.i64 (Prod.snd (Prod.snd x) + (1 : Int)))) else Option.some (Stp.nx (Prod.fst x, Prod.fst (Prod.snd x), Go.IntKind.wrap Go.IntKind.i64 (Prod.snd (Prod.snd x) + (1 : Int)))) else Option.some (Stp.out (Sum.inl PUnit.unit))

noncomputable def m_spec_Order : Tup p_spec_Order → Option (Tup q_spec_Order) := fun (x : List Node × List Int) => Option.bind (loopO m_spec_Order_0 (Prod.fst x, Prod.snd x, (0 : Int))) fun (y : PUnit ⊕ Bool) => selim (fun (y : PUnit) => Option.some Bool.true) (fun (y : Bool) => Option.some y) y

noncomputable def cx_spec_Order : Cx := ⟨tb, lookE []⟩

theorem ck_spec_Order : CxOK Try.prog (cx_spec_Order) := cx_ok tb_ok .nil

noncomputable def c_spec_Order_0 : Code := loopAt (Go.Proofs.Try.f30.body.getD .skip) 0

noncomputable def l_spec_Order_0 : LEnt := ⟨p_spec_Order_0, x_spec_Order_0, loopO (m_spec_Order_0)⟩

theorem lo_spec_Order_0 : LOK Try.prog 42 0 false (l_spec_Order_0) c_spec_Order_0 := loop_ok (body := m_spec_Order_0) (L := lookL []) (ck_spec_Order) mixed (ls_ok (l := []) (by kernel_rfl) .nil) (by intro x; kernel_rfl) (fun x y h => loopO_iff.1 h)

noncomputable def e_spec_Order : Ent := ⟨0, p_spec_Order, q_spec_Order, m_spec_Order⟩
theorem ok_spec_Order : FnOK Try.prog 30 e_spec_Order := fn_ok (L := lookL [(0, l_spec_Order_0)]) ck_spec_Order mixed Try.func30 rfl (by kernel_rfl) (by kernel_rfl) (ls_ok (l := [(0, c_spec_Order_0)]) (by kernel_rfl) (.cons rfl (lo_spec_Order_0) .nil)) (by intro x; kernel_rfl)

/-! spec.in -/
abbrev p_spec_in : Pt := [(0, .lst .int), (1, .int .i64)]
abbrev q_spec_in : Pt := [(0, .bool)]

abbrev p_spec_in_0 : Pt := [(0, .lst .int), (1, .int .i64), (5, .int .i64)]
abbrev x_spec_in_0 : List (Xt × Pt) := [(.ex 0, []), (.rt, [(4, .bool)])]
noncomputable def m_spec_in_0 : Tup p_spec_in_0 → Option (Stp (Tup p_spec_in_0) (SumT (x_spec_in_0.map (·.2)))) := fun (x : List Int × Int × Int) => bif Decidable.decide (Prod.snd (Prod.snd x) < (↑(List.length (Prod.fst x)) : Int)) then Option.bind (atI (Prod.fst x) (Prod.snd (Prod.snd x))) fun (v : Int) => bif Decidable.decide (v = Prod.fst (Prod.snd x)) then Option.some (Stp.out (Sum.inr Bool.true)) else Option.some (Stp.nx (Prod.fst x, Prod.fst (Prod.snd x), Go.IntKind.wrap Go.IntKind.i64 (Prod.snd (Prod.snd x) + (1 : Int)))) else Option.some (Stp.out (Sum.inl PUnit.unit))

noncomputable def m_spec_in : Tup p_spec_in → Option (Tup q_spec_in) := fun (x : List Int × Int) => Option.bind (loopO m_spec_in_0 (Prod.fst x, Prod.snd x, (0 : Int))) fun (y : PUnit ⊕ Bool) => selim (fun (y : PUnit) => Option.some Bool.false) (fun (y : Bool) => Option.some y) y

noncomputable def cx_spec_in : Cx := ⟨tb, lookE []⟩

theorem ck_spec_in : CxOK Try.prog (cx_spec_in) := cx_ok tb_ok .nil

noncomputable def c_spec_in_0 : Code := loopAt (Go.Proofs.Try.f68.body.getD .skip) 0

noncomputable def l_spec_in_0 : LEnt := ⟨p_spec_in_0, x_spec_in_0, loopO (m_spec_in_0)⟩

theorem lo_spec_in_0 : LOK Try.prog 18 0 false (l_spec_in_0) c_spec_in_0 := loop_ok (body := m_spec_in_0) (L := lookL []) (ck_spec_in) mixed (ls_ok (l := []) (by kernel_rfl) .nil) (by intro x; kernel_rfl) (fun x y h => loopO_iff.1 h)

noncomputable def e_spec_in : Ent := ⟨0, p_spec_in, q_spec_in, m_spec_in⟩
theorem ok_spec_in : FnOK Try.prog 68 e_spec_in := fn_ok (L := lookL [(0, l_spec_in_0)]) ck_spec_in mixed Try.func68 rfl (by kernel_rfl) (by kernel_rfl) (ls_ok (l := [(0, c_spec_in_0)]) (by kernel_rfl) (.cons rfl (lo_spec_in_0) .nil)) (by intro x; kernel_rfl)

/-! spec.under -/
abbrev p_spec_under : Pt := [(0, .lst .node), (1, .int .i64), (2, .int .i64)]
abbrev q_spec_under : Pt := [(0, .bool)]

noncomputable def m_spec_under : Tup p_spec_under → Option (Tup q_spec_under) := fun (x : List Node × Int × Int) => bif Decidable.decide (Prod.snd (Prod.snd x) < Prod.fst (Prod.snd x)) then Option.bind (atI (Prod.fst x) (Prod.snd (Prod.snd x))) fun (v : Node) => Option.some (Decidable.decide (Prod.fst (Prod.snd x) < Go.IntKind.wrap Go.IntKind.i64 (Prod.snd (Prod.snd x) + Node.size v))) else Option.some Bool.false

noncomputable def cx_spec_under : Cx := ⟨tb, lookE []⟩

theorem ck_spec_under : CxOK Try.prog (cx_spec_under) := cx_ok tb_ok .nil

noncomputable def e_spec_under : Ent := ⟨0, p_spec_under, q_spec_under, m_spec_under⟩
theorem ok_spec_under : FnOK Try.prog 67 e_spec_under := fn_ok (L := lookL []) ck_spec_under mixed Try.func67 rfl (by kernel_rfl) (by kernel_rfl) (ls_ok (l := []) (by kernel_rfl) .nil) (by intro x; kernel_rfl)

/-! spec.SameList -/
abbrev p_spec_SameList : Pt := [(0, .lst .int), (1, .lst .int)]
abbrev q_spec_SameList : Pt := [(0, .bool)]

abbrev p_spec_SameList_0 : Pt := [(0, .lst .int), (1, .lst .int), (5, .int .i64)]
abbrev x_spec_SameList_0 : List (Xt × Pt) := [(.ex 0, []), (.rt, [(4, .bool)])]
noncomputable def m_spec_SameList_0 : Tup p_spec_SameList_0 → Option (Stp (Tup p_spec_SameList_0) (SumT (x_spec_SameList_0.map (·.2)))) := fun (x : List Int × List Int × Int) => bif Decidable.decide (Prod.snd (Prod.snd x) < (↑(List.length (Prod.fst x)) : Int)) then Option.bind (atI (Prod.fst x) (Prod.snd (Prod.snd x))) fun (v : Int) => Option.bind (atI (Prod.fst (Prod.snd x)) (Prod.snd (Prod.snd x))) fun (v_1 : Int) => bif Decidable.decide (v ≠ v_1) then Option.some (Stp.out (Sum.inr Bool.false)) else Option.some (Stp.nx (Prod.fst x, Prod.fst (Prod.snd x), Go.IntKind.wrap Go.IntKind.i64 (Prod.snd (Prod.snd x) + (1 : Int)))) else Option.some (Stp.out (Sum.inl PUnit.unit))

noncomputable def m_spec_SameList : Tup p_spec_SameList → Option (Tup q_spec_SameList) := fun (x : List Int × List Int) => bif Decidable.decide ((↑(List.length (Prod.fst x)) : Int) ≠ (↑(List.length (Prod.snd x)) : Int)) then Option.some Bool.false else Option.bind (loopO m_spec_SameList_0 (Prod.fst x, Prod.snd x, (0 : Int))) fun (y : PUnit ⊕ Bool) => selim (fun (y : PUnit) => Option.some Bool.true) (fun (y : Bool) => Option.some y) y

noncomputable def cx_spec_SameList : Cx := ⟨tb, lookE []⟩

theorem ck_spec_SameList : CxOK Try.prog (cx_spec_SameList) := cx_ok tb_ok .nil

noncomputable def c_spec_SameList_0 : Code := loopAt (Go.Proofs.Try.f37.body.getD .skip) 0

noncomputable def l_spec_SameList_0 : LEnt := ⟨p_spec_SameList_0, x_spec_SameList_0, loopO (m_spec_SameList_0)⟩

theorem lo_spec_SameList_0 : LOK Try.prog 26 0 false (l_spec_SameList_0) c_spec_SameList_0 := loop_ok (body := m_spec_SameList_0) (L := lookL []) (ck_spec_SameList) mixed (ls_ok (l := []) (by kernel_rfl) .nil) (by intro x; kernel_rfl) (fun x y h => loopO_iff.1 h)

noncomputable def e_spec_SameList : Ent := ⟨0, p_spec_SameList, q_spec_SameList, m_spec_SameList⟩
theorem ok_spec_SameList : FnOK Try.prog 37 e_spec_SameList := fn_ok (L := lookL [(0, l_spec_SameList_0)]) ck_spec_SameList mixed Try.func37 rfl (by kernel_rfl) (by kernel_rfl) (ls_ok (l := [(0, c_spec_SameList_0)]) (by kernel_rfl) (.cons rfl (lo_spec_SameList_0) .nil)) (by intro x; kernel_rfl)

/-! spec.SameSet -/
abbrev p_spec_SameSet : Pt := [(0, .lst .int), (1, .lst .int)]
abbrev q_spec_SameSet : Pt := [(0, .bool)]

abbrev p_spec_SameSet_0 : Pt := [(0, .lst .int), (1, .lst .int), (5, .int .i64)]
abbrev x_spec_SameSet_0 : List (Xt × Pt) := [(.ex 0, [(0, .lst .int), (1, .lst .int)]), (.rt, [(4, .bool)])]
noncomputable def m_spec_SameSet_0 : Tup p_spec_SameSet_0 → Option (Stp (Tup p_spec_SameSet_0) (SumT (x_spec_SameSet_0.map (·.2)))) := fun (x : List Int × List Int × Int) => bif Decidable.decide (Prod.snd (Prod.snd x) < (↑(List.length (Prod.fst x)) : Int)) then Option.bind (atI (Prod.fst x) (Prod.snd (Prod.snd x))) fun (v : Int) => Option.bind (m_spec_in (Prod.fst (Prod.snd x), v)) fun (r : Bool) => bif !r then Option.some (Stp.out (Sum.inr Bool.false)) else Option.some (Stp.nx (Prod.fst x, Prod.fst (Prod.snd x), Go.IntKind.wrap Go.IntKind.i64 (Prod.snd (Prod.snd x) + (1 : Int)))) else Option.some (Stp.out (Sum.inl (Prod.fst x, Prod.fst (Prod.snd x))))

abbrev p_spec_SameSet_1 : Pt := [(0, .lst .int), (1, .lst .int), (6, .int .i64)]
abbrev x_spec_SameSet_1 : List (Xt × Pt) := [(.ex 2, []), (.rt, [(4, .bool)])]
noncomputable def m_spec_SameSet_1 : Tup p_spec_SameSet_1 → Option (Stp (Tup p_spec_SameSet_1) (SumT (x_spec_SameSet_1.map (·.2)))) := fun (x : List Int × List Int × Int) => bif Decidable.decide (Prod.snd (Prod.snd x) < (↑(List.length (Prod.fst (Prod.snd x))) : Int)) then Option.bind (atI (Prod.fst (Prod.snd x)) (Prod.snd (Prod.snd x))) fun (v : Int) => Option.bind (m_spec_in (Prod.fst x, v)) fun (r : Bool) => bif !r then Option.some (Stp.out (Sum.inr Bool.false)) else Option.some (Stp.nx (Prod.fst x, Prod.fst (Prod.snd x), Go.IntKind.wrap Go.IntKind.i64 (Prod.snd (Prod.snd x) + (1 : Int)))) else Option.some (Stp.out (Sum.inl PUnit.unit))

noncomputable def m_spec_SameSet : Tup p_spec_SameSet → Option (Tup q_spec_SameSet) := fun (x : List Int × List Int) => Option.bind (loopO m_spec_SameSet_0 (Prod.fst x, Prod.snd x, (0 : Int))) fun (y : List Int × List Int ⊕ Bool) => selim (fun (y : List Int × List Int) => Option.bind (loopO m_spec_SameSet_1 (Prod.fst y, Prod.snd y, (0 : Int))) fun (y : PUnit ⊕ Bool) => selim (fun (y : PUnit) => Option.some Bool.true) (fun (y : Bool) => Option.some y) y) (fun (y : Bool) => Option.some y) y

noncomputable def cx_spec_SameSet : Cx := ⟨tb, lookE [(68, e_spec_in)]⟩

theorem ck_spec_SameSet : CxOK Try.prog (cx_spec_SameSet) := cx_ok tb_ok (.cons ok_spec_in Try.call68 .nil)

noncomputable def c_spec_SameSet_0 : Code := loopAt (Go.Proofs.Try.f46.body.getD .skip) 0

noncomputable def l_spec_SameSet_0 : LEnt := ⟨p_spec_SameSet_0, x_spec_SameSet_0, loopO (m_spec_SameSet_0)⟩

theorem lo_spec_SameSet_0 : LOK Try.prog 33 0 false (l_spec_SameSet_0) c_spec_SameSet_0 := loop_ok (body := m_spec_SameSet_0) (L := lookL []) (ck_spec_SameSet) mixed (ls_ok (l := []) (by kernel_rfl) .nil) (by intro x; kernel_rfl) (fun x y h => loopO_iff.1 h)

noncomputable def c_spec_SameSet_1 : Code := loopAt (Go.Proofs.Try.f46.body.getD .skip) 1

noncomputable def l_spec_SameSet_1 : LEnt := ⟨p_spec_SameSet_1, x_spec_SameSet_1, loopO (m_spec_SameSet_1)⟩

theorem lo_spec_SameSet_1 : LOK Try.prog 33 0 false (l_spec_SameSet_1) c_spec_SameSet_1 := loop_ok (body := m_spec_SameSet_1) (L := lookL []) (ck_spec_SameSet) mixed (ls_ok (l := []) (by kernel_rfl) .nil) (by intro x; kernel_rfl) (fun x y h => loopO_iff.1 h)

noncomputable def e_spec_SameSet : Ent := ⟨0, p_spec_SameSet, q_spec_SameSet, m_spec_SameSet⟩
theorem ok_spec_SameSet : FnOK Try.prog 46 e_spec_SameSet := fn_ok (L := lookL [(0, l_spec_SameSet_0), (2, l_spec_SameSet_1)]) ck_spec_SameSet mixed Try.func46 rfl (by kernel_rfl) (by kernel_rfl) (ls_ok (l := [(0, c_spec_SameSet_0), (2, c_spec_SameSet_1)]) (by kernel_rfl) (.cons rfl (lo_spec_SameSet_0) (.cons rfl (lo_spec_SameSet_1) .nil))) (by intro x; kernel_rfl)

/-! spec.bare -/
abbrev p_spec_bare : Pt := [(0, .str)]
abbrev q_spec_bare : Pt := [(0, .str)]

abbrev p_spec_bare_0 : Pt := [(0, .str)]
abbrev x_spec_bare_0 : List (Xt × Pt) := [(.ex 0, [(0, .str)])]
noncomputable def m_spec_bare_0 : Tup p_spec_bare_0 → Option (Stp (Tup p_spec_bare_0) (SumT (x_spec_bare_0.map (·.2)))) := fun (x : List UInt8) => bif Decidable.decide (x ≠ Array.toList (ByteArray.data { data := #[] })) then Option.bind (atI x (0 : Int)) fun (c : UInt8) => Option.bind (m_spec_space (↑(UInt8.toNat c) : Int)) fun (r : Bool) => bif r then Option.bind (subL x (1 : Int) (↑(List.length x) : Int)) fun (m : List UInt8) => Option.some (Stp.nx m) else Option.some (Stp.out x) else Option.some (Stp.out x)

abbrev p_spec_bare_1 : Pt := [(0, .str)]
abbrev x_spec_bare_1 : List (Xt × Pt) := [(.ex 2, [(0, .str)])]
noncomputable def m_spec_bare_1 : Tup p_spec_bare_1 → Option (Stp (Tup p_spec_bare_1) (SumT (x_spec_bare_1.map (·.2)))) := fun (x : List UInt8) => bif Decidable.decide (x ≠ Array.toList (ByteArray.data { data := #[] })) then Option.bind (atI x (Go.IntKind.wrap Go.IntKind.i64 ((↑(List.length x) : Int) - (1 : Int)))) fun (c : UInt8) => Option.bind (m_spec_space (↑(UInt8.toNat c) : Int)) fun (r : Bool) => bif r then Option.bind (subL x (0 : Int) (Go.IntKind.wrap Go.IntKind.i64 ((↑(List.length x) : Int) - (1 : Int)))) fun (m : List UInt8) => Option.some (Stp.nx m) else Option.some (Stp.out x) else Option.some (Stp.out x)

noncomputable def m_spec_bare : Tup p_spec_bare → Option (Tup q_spec_bare) := fun (x : List UInt8) => Option.bind (loopO m_spec_bare_0 x) fun (y : List UInt8) => Option.bind (loopO m_spec_bare_1 y) fun (y : List UInt8) => Option.some y

noncomputable def cx_spec_bare : Cx := ⟨tb, lookE [(114, e_spec_space)]⟩

theorem ck_spec_bare : CxOK Try.prog (cx_spec_bare) := cx_ok tb_ok (.cons ok_spec_space Try.call114 .nil)

noncomputable def c_spec_bare_0 : Code := loopAt (Go.Proofs.Try.f77.body.getD .skip) 0

noncomputable def l_spec_bare_0 : LEnt := ⟨p_spec_bare_0, x_spec_bare_0, loopO (m_spec_bare_0)⟩

theorem lo_spec_bare_0 : LOK Try.prog 28 0 false (l_spec_bare_0) c_spec_bare_0 := loop_ok (body := m_spec_bare_0) (L := lookL []) (ck_spec_bare) mixed (ls_ok (l := []) (by kernel_rfl) .nil) (by intro x; kernel_rfl) (fun x y h => loopO_iff.1 h)

noncomputable def c_spec_bare_1 : Code := loopAt (Go.Proofs.Try.f77.body.getD .skip) 1

noncomputable def l_spec_bare_1 : LEnt := ⟨p_spec_bare_1, x_spec_bare_1, loopO (m_spec_bare_1)⟩

theorem lo_spec_bare_1 : LOK Try.prog 28 0 false (l_spec_bare_1) c_spec_bare_1 := loop_ok (body := m_spec_bare_1) (L := lookL []) (ck_spec_bare) mixed (ls_ok (l := []) (by kernel_rfl) .nil) (by intro x; kernel_rfl) (fun x y h => loopO_iff.1 h)

noncomputable def e_spec_bare : Ent := ⟨0, p_spec_bare, q_spec_bare, m_spec_bare⟩
theorem ok_spec_bare : FnOK Try.prog 77 e_spec_bare := fn_ok (L := lookL [(0, l_spec_bare_0), (2, l_spec_bare_1)]) ck_spec_bare mixed Try.func77 rfl (by kernel_rfl) (by kernel_rfl) (ls_ok (l := [(0, c_spec_bare_0), (2, c_spec_bare_1)]) (by kernel_rfl) (.cons rfl (lo_spec_bare_0) (.cons rfl (lo_spec_bare_1) .nil))) (by intro x; kernel_rfl)

/-! spec.Beneath -/
abbrev p_spec_Beneath : Pt := [(0, .lst .node), (1, .lst .int), (2, .lst .int)]
abbrev q_spec_Beneath : Pt := [(0, .own .int 3)]

abbrev p_spec_Beneath_0_0 : Pt := [(0, .lst .node), (1, .lst .int), (2, .lst .int), (7, .own .int 3), (8, .int .i64), (9, .bool), (10, .int .i64)]
abbrev x_spec_Beneath_0_0 : List (Xt × Pt) := [(.ex 2, [(0, .lst .node), (1, .lst .int), (2, .lst .int), (7, .own .int 3), (8, .int .i64), (9, .bool)])]
noncomputable def m_spec_Beneath_0_0 : Tup p_spec_Beneath_0_0 → Option (Stp (Tup p_spec_Beneath_0_0) (SumT (x_spec_Beneath_0_0.map (·.2)))) := fun (x : List Node × List Int × List Int × List Int × Int × Bool × Int) => bif Decidable.decide (Prod.snd (Prod.snd (Prod.snd (Prod.snd (Prod.snd (Prod.snd x))))) < (↑(List.length (Prod.fst (Prod.snd x))) : Int)) then bif Prod.fst (Prod.snd (Prod.snd (Prod.snd (Prod.snd (Prod.snd x))))) then Option.some (Stp.nx (Prod.fst x, Prod.fst (Prod.snd x), Prod.fst (Prod.snd (Prod.snd x)), Prod.fst (Prod.snd (Prod.snd (Prod.snd x))), Prod.fst (Prod.snd (Prod.snd (Prod.snd (Prod.snd x)))), Bool.true, Go.IntKind.wrap Go.IntKind.i64 (Prod.snd (Prod.snd (Prod.snd (Prod.snd (Prod.snd (Prod.snd x))))) + (1 : Int)))) else Option.bind (atI (Prod.fst (Prod.snd (Prod.snd x))) (Prod.fst (Prod.snd (Prod.snd (Prod.snd (Prod.snd x)))))) fun (v : Int) => Option.bind (atI (Prod.fst (Prod.snd x)) (Prod.snd (Prod.snd (Prod.snd (Prod.snd (Prod.snd (Prod.snd x))))))) fun (v_1 : Int) => Option.bind (m_spec_under (Prod.fst x, v, v_1)) fun (r : Bool) => Option.some (Stp.nx (Prod.fst x, Prod.fst (Prod.snd x), Prod.fst (Prod.snd (Prod.snd x)), Prod.fst (Prod.snd (Prod.snd (Prod.snd x))), Prod.fst (Prod.snd (Prod.snd (Prod.snd (Prod.snd x)))), r, Go.IntKind.wrap Go.IntKind.i64 (Prod.snd (Prod.snd (Prod.snd (Prod.snd (Prod.snd (Prod.snd x))))) + (1 : Int)))) else Option.some (Stp.out (Prod.fst x, Prod.fst (Prod.snd x), Prod.fst (Prod.snd (Prod.snd x)), Prod.fst (Prod.snd (Prod.snd (Prod.snd x))), Prod.fst (Prod.snd (Prod.snd (Prod.snd (Prod.snd x)))), Prod.fst (Prod.snd (Prod.snd (Prod.snd (Prod.snd (Prod.snd x)))))))

abbrev p_spec_Beneath_0 : Pt := [(0, .lst .node), (1, .lst .int), (2, .lst .int), (7, .own .int 3), (8, .int .i64)]
abbrev x_spec_Beneath_0 : List (Xt × Pt) := [(.ex 0, [(7, .own .int 3)])]
noncomputable def m_spec_Beneath_0 : Tup p_spec_Beneath_0 → Option (Stp (Tup p_spec_Beneath_0) (SumT (x_spec_Beneath_0.map (·.2)))) := fun (x : List Node × List Int × List Int × List Int × Int) => bif Decidable.decide (Prod.snd (Prod.snd (Prod.snd (Prod.snd x))) < (↑(List.length (Prod.fst (Prod.snd (Prod.snd x)))) : Int)) then Option.bind (loopO m_spec_Beneath_0_0 (Prod.fst x, Prod.fst (Prod.snd x), Prod.fst (Prod.snd (Prod.snd x)), Prod.fst (Prod.snd (Prod.snd (Prod.snd x))), Prod.snd (Prod.snd (Prod.snd (Prod.snd x))), Bool.false, (0 : Int))) fun (y : List Node × List Int × List Int × List Int × Int × Bool) => bif Prod.snd (Prod.snd (Prod.snd (Prod.snd (Prod.snd y)))) then Option.bind (atI (Prod.fst (Prod.snd (Prod.snd y))) (Prod.fst (Prod.snd (Prod.snd (Prod.snd (Prod.snd y)))))) fun (v : Int) => Option.bind (m_spec_in (Prod.fst (Prod.snd (Prod.snd (Prod.snd y))), v)) fun (r : Bool) => bif !r then Option.bind (atI (Prod.fst (Prod.snd (Prod.snd y))) (Prod.fst (Prod.snd (Prod.snd (Prod.snd (Prod.snd y)))))) fun (v : Int) => Option.bind (appL (Prod.fst (Prod.snd (Prod.snd (Prod.snd y)))) [v]) fun (r : List Int) => Option.some (Stp.nx (Prod.fst y, Prod.fst (Prod.snd y), Prod.fst (Prod.snd (Prod.snd y)), r, Go.IntKind.wrap Go.IntKind.i64 (Prod.fst (Prod.snd (Prod.snd (Prod.snd (Prod.snd y)))) + (1 : Int)))) else Option.some (Stp.nx (Prod.fst y, Prod.fst (Prod.snd y), Prod.fst (Prod.snd (Prod.snd y)), Prod.fst (Prod.snd (Prod.snd (Prod.snd y))), Go.IntKind.wrap Go.IntKind.i64 (Prod.fst (Prod.snd (Prod.snd (Prod.snd (Prod.snd y)))) + (1 : Int)))) else Option.some (Stp.nx (Prod.fst y, Prod.fst (Prod.snd y), Prod.fst (Prod.snd (Prod.snd y)), Prod.fst (Prod.snd (Prod.snd (Prod.snd y))), Go.IntKind.wrap Go.IntKind.i64 (Prod.fst (Prod.snd (Prod.snd (Prod.snd (Prod.snd y)))) + (1 : Int)))) else Option.some (Stp.out (Prod.fst (Prod.snd (Prod.snd (Prod.snd x)))))

noncomputable def m_spec_Beneath : Tup p_spec_Beneath → Option (Tup q_spec_Beneath) := fun (x : List Node × List Int × List Int) => Option.bind (loopO m_spec_Beneath_0 (Prod.fst x, Prod.fst (Prod.snd x), Prod.snd (Prod.snd x), [], (0 : Int))) fun (y : List Int) => Option.some y

noncomputable def cx_spec_Beneath : Cx := ⟨tb, lookE [(67, e_spec_under), (68, e_spec_in)]⟩

theorem ck_spec_Beneath : CxOK Try.prog (cx_spec_Beneath) := cx_ok tb_ok (.cons ok_spec_under Try.call67 (.cons ok_spec_in Try.call68 .nil))

noncomputable def c_spec_Beneath_0_0 : Code := loopAt (loopAt (Go.Proofs.Try.f33.body.getD .skip) 0) 0

noncomputable def l_spec_Beneath_0_0 : LEnt := ⟨p_spec_Beneath_0_0, x_spec_Beneath_0_0, loopO (m_spec_Beneath_0_0)⟩

theorem lo_spec_Beneath_0_0 : LOK Try.prog 54 0 false (l_spec_Beneath_0_0) c_spec_Beneath_0_0 := loop_ok (body := m_spec_Beneath_0_0) (L := lookL []) (ck_spec_Beneath) mixed (ls_ok (l := []) (by kernel_rfl) .nil) (by intro x; kernel_rfl) (fun x y h => loopO_iff.1 h)

noncomputable def c_spec_Beneath_0 : Code := loopAt (Go.Proofs.Try.f33.body.getD .skip) 0

noncomputable def l_spec_Beneath_0 : LEnt := ⟨p_spec_Beneath_0, x_spec_Beneath_0, loopO (m_spec_Beneath_0)⟩

theorem lo_spec_Beneath_0 : LOK Try.prog 54 0 false (l_spec_Beneath_0) c_spec_Beneath_0 := loop_ok (body := m_spec_Beneath_0) (L := lookL [(2, l_spec_Beneath_0_0)]) (ck_spec_Beneath) mixed (ls_ok (l := [(2, c_spec_Beneath_0_0)]) (by kernel_rfl) (.cons rfl (lo_spec_Beneath_0_0) .nil)) (by intro x; kernel_rfl) (fun x y h => loopO_iff.1 h)

noncomputable def e_spec_Beneath : Ent := ⟨0, p_spec_Beneath, q_spec_Beneath, m_spec_Beneath⟩
theorem ok_spec_Beneath : FnOK Try.prog 33 e_spec_Beneath := fn_ok (L := lookL [(0, l_spec_Beneath_0)]) ck_spec_Beneath mixed Try.func33 rfl (by kernel_rfl) (by kernel_rfl) (ls_ok (l := [(0, c_spec_Beneath_0)]) (by kernel_rfl) (.cons rfl (lo_spec_Beneath_0) .nil)) (by intro x; kernel_rfl)

/-! spec.Over -/
abbrev p_spec_Over : Pt := [(0, .lst .node), (1, .lst .int), (2, .lst .int)]
abbrev q_spec_Over : Pt := [(0, .own .int 3)]

abbrev p_spec_Over_0_0 : Pt := [(0, .lst .node), (1, .lst .int), (2, .lst .int), (7, .own .int 3), (8, .int .i64), (9, .bool), (10, .int .i64)]
abbrev x_spec_Over_0_0 : List (Xt × Pt) := [(.ex 2, [(0, .lst .node), (1, .lst .int), (2, .lst .int), (7, .own .int 3), (8, .int .i64), (9, .bool)])]
noncomputable def m_spec_Over_0_0 : Tup p_spec_Over_0_0 → Option (Stp (Tup p_spec_Over_0_0) (SumT (x_spec_Over_0_0.map (·.2)))) := fun (x : List Node × List Int × List Int × List Int × Int × Bool × Int) => bif Decidable.decide (Prod.snd (Prod.snd (Prod.snd (Prod.snd (Prod.snd (Prod.snd x))))) < (↑(List.length (Prod.fst (Prod.snd (Prod.snd x)))) : Int)) then bif Prod.fst (Prod.snd (Prod.snd (Prod.snd (Prod.snd (Prod.snd x))))) then Option.some (Stp.nx (Prod.fst x, Prod.fst (Prod.snd x), Prod.fst (Prod.snd (Prod.snd x)), Prod.fst (Prod.snd (Prod.snd (Prod.snd x))), Prod.fst (Prod.snd (Prod.snd (Prod.snd (Prod.snd x)))), Bool.true, Go.IntKind.wrap Go.IntKind.i64 (Prod.snd (Prod.snd (Prod.snd (Prod.snd (Prod.snd (Prod.snd x))))) + (1 : Int)))) else Option.bind (atI (Prod.fst (Prod.snd (Prod.snd x))) (Prod.snd (Prod.snd (Prod.snd (Prod.snd (Prod.snd (Prod.snd x))))))) fun (v : Int) => Option.bind (atI (Prod.fst (Prod.snd x)) (Prod.fst (Prod.snd (Prod.snd (Prod.snd (Prod.snd x)))))) fun (v_1 : Int) => Option.bind (m_spec_under (Prod.fst x, v, v_1)) fun (r : Bool) => Option.some (Stp.nx (Prod.fst x, Prod.fst (Prod.snd x), Prod.fst (Prod.snd (Prod.snd x)), Prod.fst (Prod.snd (Prod.snd (Prod.snd x))), Prod.fst (Prod.snd (Prod.snd (Prod.snd (Prod.snd x)))), r, Go.IntKind.wrap Go.IntKind.i64 (Prod.snd (Prod.snd (Prod.snd (Prod.snd (Prod.snd (Prod.snd x))))) + (1 : Int)))) else Option.some (Stp.out (Prod.fst x, Prod.fst (Prod.snd x), Prod.fst (Prod.snd (Prod.snd x)), Prod.fst (Prod.snd (Prod.snd (Prod.snd x))), Prod.fst (Prod.snd (Prod.snd (Prod.snd (Prod.snd x)))), Prod.fst (Prod.snd (Prod.snd (Prod.snd (Prod.snd (Prod.snd x)))))))

abbrev p_spec_Over_0 : Pt := [(0, .lst .node), (1, .lst .int), (2, .lst .int), (7, .own .int 3), (8, .int .i64)]
abbrev x_spec_Over_0 : List (Xt × Pt) := [(.ex 0, [(7, .own .int 3)])]
noncomputable def m_spec_Over_0 : Tup p_spec_Over_0 → Option (Stp (Tup p_spec_Over_0) (SumT (x_spec_Over_0.map (·.2)))) := fun (x : List Node × List Int × List Int × List Int × Int) => bif Decidable.decide (Prod.snd (Prod.snd (Prod.snd (Prod.snd x))) < (↑(List.length (Prod.fst (Prod.snd x))) : Int)) then Option.bind (loopO m_spec_Over_0_0 (Prod.fst x, Prod.fst (Prod.snd x), Prod.fst (Prod.snd (Prod.snd x)), Prod.fst (Prod.snd (Prod.snd (Prod.snd x))), Prod.snd (Prod.snd (Prod.snd (Prod.snd x))), Bool.false, (0 : Int))) fun (y : List Node × List Int × List Int × List Int × Int × Bool) => bif Prod.snd (Prod.snd (Prod.snd (Prod.snd (Prod.snd y)))) then Option.bind (atI (Prod.fst (Prod.snd y)) (Prod.fst (Prod.snd (Prod.snd (Prod.snd (Prod.snd y)))))) fun (v : Int) => Option.bind (appL (Prod.fst (Prod.snd (Prod.snd (Prod.snd y)))) [v]) fun (r : List Int) => Option.some (Stp.nx (Prod.fst y, Prod.fst (Prod.snd y), Prod.fst (Prod.snd (Prod.snd y)), r, Go.IntKind.wrap Go.IntKind.i64 (Prod.fst (Prod.snd (Prod.snd (Prod.snd (Prod.snd y)))) + (1 : Int)))) else Option.some (Stp.nx (Prod.fst y, Prod.fst (Prod.snd y), Prod.fst (Prod.snd (Prod.snd y)), Prod.fst (Prod.snd (Prod.snd (Prod.snd y))), Go.IntKind.wrap Go.IntKind.i64 (Prod.fst (Prod.snd (Prod.snd (Prod.snd (Prod.snd y)))) + (1 : Int)))) else Option.some (Stp.out (Prod.fst (Prod.snd (Prod.snd (Prod.snd x)))))

noncomputable def m_spec_Over : Tup p_spec_Over → Option (Tup q_spec_Over) := fun (x : List Node × List Int × List Int) => Option.bind (loopO m_spec_Over_0 (Prod.fst x, Prod.fst (Prod.snd x), Prod.snd (Prod.snd x), [], (0 : Int))) fun (y : List Int) => Option.some y

noncomputable def cx_spec_Over : Cx := ⟨tb, lookE [(67, e_spec_under)]⟩

theorem ck_spec_Over : CxOK Try.prog (cx_spec_Over) := cx_ok tb_ok (.cons ok_spec_under Try.call67 .nil)

noncomputable def c_spec_Over_0_0 : Code := loopAt (loopAt (Go.Proofs.Try.f41.body.getD .skip) 0) 0

noncomputable def l_spec_Over_0_0 : LEnt := ⟨p_spec_Over_0_0, x_spec_Over_0_0, loopO (m_spec_Over_0_0)⟩

theorem lo_spec_Over_0_0 : LOK Try.prog 45 0 false (l_spec_Over_0_0) c_spec_Over_0_0 := loop_ok (body := m_spec_Over_0_0) (L := lookL []) (ck_spec_Over) mixed (ls_ok (l := []) (by kernel_rfl) .nil) (by intro x; kernel_rfl) (fun x y h => loopO_iff.1 h)

noncomputable def c_spec_Over_0 : Code := loopAt (Go.Proofs.Try.f41.body.getD .skip) 0

noncomputable def l_spec_Over_0 : LEnt := ⟨p_spec_Over_0, x_spec_Over_0, loopO (m_spec_Over_0)⟩

theorem lo_spec_Over_0 : LOK Try.prog 45 0 false (l_spec_Over_0) c_spec_Over_0 := loop_ok (body := m_spec_Over_0) (L := lookL [(2, l_spec_Over_0_0)]) (ck_spec_Over) mixed (ls_ok (l := [(2, c_spec_Over_0_0)]) (by kernel_rfl) (.cons rfl (lo_spec_Over_0_0) .nil)) (by intro x; kernel_rfl) (fun x y h => loopO_iff.1 h)

noncomputable def e_spec_Over : Ent := ⟨0, p_spec_Over, q_spec_Over, m_spec_Over⟩
theorem ok_spec_Over : FnOK Try.prog 41 e_spec_Over := fn_ok (L := lookL [(0, l_spec_Over_0)]) ck_spec_Over mixed Try.func41 rfl (by kernel_rfl) (by kernel_rfl) (ls_ok (l := [(0, c_spec_Over_0)]) (by kernel_rfl) (.cons rfl (lo_spec_Over_0) .nil)) (by intro x; kernel_rfl)

/-! laws.selection -/
abbrev p_laws_selection : Pt := [(0, .lst .node), (1, .lst .int)]
abbrev q_laws_selection : Pt := [(0, .bool)]

abbrev p_laws_selection_0 : Pt := [(0, .lst .node), (1, .lst .int), (5, .int .i64)]
abbrev x_laws_selection_0 : List (Xt × Pt) := [(.ex 0, []), (.rt, [(4, .bool)])]
noncomputable def m_laws_selection_0 : Tup p_laws_selection_0 → Option (Stp (Tup p_laws_selection_0) (SumT (x_laws_selection_0.map (·.2)))) := fun (x : List Node × List Int × Int) => bif Decidable.decide (Prod.snd (Prod.snd x) < (↑(List.length (Prod.fst (Prod.snd x))) : Int)) then Option.bind (atI (Prod.fst (Prod.snd x)) (Prod.snd (Prod.snd x))) fun (v : Int) => Option.bind (atI (Prod.fst x) v) fun (v : Node) => bif Decidable.decide (Node.kind v ≠ (3 : Int)) then Option.some (Stp.out (Sum.inr Bool.false)) else Option.some (Stp.nx (Prod.fst x, Prod.fst (Prod.snd x), Go.IntKind.wrap Go.IntKind.i64 (Prod.snd (Prod.snd x) + (1 : Int)))) else Option.some (Stp.out (Sum.inl PUnit.unit))

noncomputable def m_laws_selection : Tup p_laws_selection → Option (Tup q_laws_selection) := fun (x : List Node × List Int) => Option.bind (m_spec_Right (Prod.fst x)) fun (r : Bool) => bif !r then Option.some Bool.false else Option.bind (m_spec_Order (Prod.fst x, Prod.snd x)) fun (r : Bool) => bif !r then Option.some Bool.false else Option.bind (loopO m_laws_selection_0 (Prod.fst x, Prod.snd x, (0 : Int))) fun (y : PUnit ⊕ Bool) => selim (fun (y : PUnit) => Option.some Bool.true) (fun (y : Bool) => Option.some y) y

noncomputable def cx_laws_selection : Cx := ⟨tb, lookE [(29, e_spec_Right), (30, e_spec_Order)]⟩

theorem ck_laws_selection : CxOK Try.prog (cx_laws_selection) := cx_ok tb_ok (.cons ok_spec_Right Try.call29 (.cons ok_spec_Order Try.call30 .nil))

noncomputable def c_laws_selection_0 : Code := loopAt (Go.Proofs.Try.f23.body.getD .skip) 0

noncomputable def l_laws_selection_0 : LEnt := ⟨p_laws_selection_0, x_laws_selection_0, loopO (m_laws_selection_0)⟩

theorem lo_laws_selection_0 : LOK Try.prog 30 0 false (l_laws_selection_0) c_laws_selection_0 := loop_ok (body := m_laws_selection_0) (L := lookL []) (ck_laws_selection) mixed (ls_ok (l := []) (by kernel_rfl) .nil) (by intro x; kernel_rfl) (fun x y h => loopO_iff.1 h)

noncomputable def e_laws_selection : Ent := ⟨0, p_laws_selection, q_laws_selection, m_laws_selection⟩
theorem ok_laws_selection : FnOK Try.prog 23 e_laws_selection := fn_ok (L := lookL [(0, l_laws_selection_0)]) ck_laws_selection mixed Try.func23 rfl (by kernel_rfl) (by kernel_rfl) (ls_ok (l := [(0, c_laws_selection_0)]) (by kernel_rfl) (.cons rfl (lo_laws_selection_0) .nil)) (by intro x; kernel_rfl)

/-! laws.some -/
abbrev p_laws_some : Pt := [(0, .lst .node), (1, .lst .int), (2, .lst .int)]
abbrev q_laws_some : Pt := [(0, .bool)]

noncomputable def m_laws_some : Tup p_laws_some → Option (Tup q_laws_some) := fun (x : List Node × List Int × List Int) => Option.bind (m_laws_selection (Prod.fst x, Prod.fst (Prod.snd x))) fun (r : Bool) => bif r then Option.bind (m_laws_selection (Prod.fst x, Prod.snd (Prod.snd x))) fun (r : Bool) => Option.some r else Option.some Bool.false

noncomputable def cx_laws_some : Cx := ⟨tb, lookE [(23, e_laws_selection)]⟩

theorem ck_laws_some : CxOK Try.prog (cx_laws_some) := cx_ok tb_ok (.cons ok_laws_selection Try.call23 .nil)

noncomputable def e_laws_some : Ent := ⟨0, p_laws_some, q_laws_some, m_laws_some⟩
theorem ok_laws_some : FnOK Try.prog 39 e_laws_some := fn_ok (L := lookL []) ck_laws_some mixed Try.func39 rfl (by kernel_rfl) (by kernel_rfl) (ls_ok (l := []) (by kernel_rfl) .nil) (by intro x; kernel_rfl)

/-! laws.asked7 -/
abbrev p_laws_asked7 : Pt := [(0, .lst .node), (1, .lst .int), (2, .lst .bool)]
abbrev q_laws_asked7 : Pt := [(0, .bool)]

noncomputable def m_laws_asked7 : Tup p_laws_asked7 → Option (Tup q_laws_asked7) := fun (x : List Node × List Int × List Bool) => Option.bind (m_spec_Right (Prod.fst x)) fun (r : Bool) => bif r then Option.bind (m_spec_Order (Prod.fst x, Prod.fst (Prod.snd x))) fun (r : Bool) => bif r then Option.some (Decidable.decide ((↑(List.length (Prod.snd (Prod.snd x))) : Int) ≤ (300 : Int))) else Option.some Bool.false else Option.some Bool.false

noncomputable def cx_laws_asked7 : Cx := ⟨tb, lookE [(29, e_spec_Right), (30, e_spec_Order)]⟩

theorem ck_laws_asked7 : CxOK Try.prog (cx_laws_asked7) := cx_ok tb_ok (.cons ok_spec_Right Try.call29 (.cons ok_spec_Order Try.call30 .nil))

noncomputable def e_laws_asked7 : Ent := ⟨0, p_laws_asked7, q_laws_asked7, m_laws_asked7⟩
theorem ok_laws_asked7 : FnOK Try.prog 34 e_laws_asked7 := fn_ok (L := lookL []) ck_laws_asked7 mixed Try.func34 rfl (by kernel_rfl) (by kernel_rfl) (ls_ok (l := []) (by kernel_rfl) .nil) (by intro x; kernel_rfl)

/-! laws.answered7 -/
abbrev p_laws_answered7 : Pt := [(0, .lst .bool), (1, .int .i64)]
abbrev q_laws_answered7 : Pt := [(0, .bool)]

noncomputable def m_laws_answered7 : Tup p_laws_answered7 → Option (Tup q_laws_answered7) := fun (x : List Bool × Int) => bif Decidable.decide (Prod.snd x < (↑(List.length (Prod.fst x)) : Int)) then Option.bind (atI (Prod.fst x) (Prod.snd x)) fun (v : Bool) => Option.some v else Option.some Bool.false

noncomputable def cx_laws_answered7 : Cx := ⟨tb, lookE []⟩

theorem ck_laws_answered7 : CxOK Try.prog (cx_laws_answered7) := cx_ok tb_ok .nil

noncomputable def e_laws_answered7 : Ent := ⟨0, p_laws_answered7, q_laws_answered7, m_laws_answered7⟩
theorem ok_laws_answered7 : FnOK Try.prog 35 e_laws_answered7 := fn_ok (L := lookL []) ck_laws_answered7 mixed Try.func35 rfl (by kernel_rfl) (by kernel_rfl) (ls_ok (l := []) (by kernel_rfl) .nil) (by intro x; kernel_rfl)

end Go.Proofs.Ytnggneccdekofaa.V
