/-
  Models of functions, and that they are what the code does (written by a program).
-/
import Derived.Test.YtpedmnlpccngiaaDoorKTab
import Derived.Test.YtpedmnlpccngiaaDoorSpecA
set_option linter.unusedVariables false
set_option linter.unusedSimpArgs false
namespace Go.Proofs.YtpedmnlpccngiaaDoor.V
open Go Go.Proofs

/-! impl.fits -/
abbrev p_impl_fits : Pt := [(0, .lst .node), (1, .int .i64), (2, .int .i64)]
abbrev q_impl_fits : Pt := [(0, .bool)]

abbrev p_impl_fits_0 : Pt := [(0, .lst .node), (1, .int .i64), (2, .int .i64)]
abbrev x_impl_fits_0 : List (Xt × Pt) := [(.ex 0, []), (.rt, [(6, .bool)])]
noncomputable def m_impl_fits_0 (m_impl_fits : Tup p_impl_fits → Option (Tup q_impl_fits)) : Tup p_impl_fits_0 → Option (Stp (Tup p_impl_fits_0) (SumT (x_impl_fits_0.map (·.2)))) := fun (x : List Node × Int × Int) => bif decide (x.2.1 < x.2.2) then Option.bind (atI x.1 x.2.1) fun (v : Node) => bif decide (Node.size v < (1 : Int)) then some (Stp.out (Sum.inr false)) else bif decide (IntKind.wrap .i64 (x.2.2 - x.2.1) < Node.size v) then some (Stp.out (Sum.inr false)) else bif decide (Node.kind v ≤ (1 : Int)) then some (Stp.out (Sum.inr false)) else bif decide ((5 : Int) < Node.kind v) then some (Stp.out (Sum.inr false)) else bif decide (Node.kind v ≠ (3 : Int)) then bif decide ((1 : Int) < Node.size v) then some (Stp.out (Sum.inr false)) else Option.bind (m_impl_fits (x.1, IntKind.wrap .i64 (x.2.1 + (1 : Int)), IntKind.wrap .i64 (x.2.1 + Node.size v))) fun (r : Bool) => bif !r then some (Stp.out (Sum.inr false)) else some (Stp.nx (x.1, IntKind.wrap .i64 (x.2.1 + Node.size v), x.2.2)) else Option.bind (m_impl_fits (x.1, IntKind.wrap .i64 (x.2.1 + (1 : Int)), IntKind.wrap .i64 (x.2.1 + Node.size v))) fun (r : Bool) => bif !r then some (Stp.out (Sum.inr false)) else some (Stp.nx (x.1, IntKind.wrap .i64 (x.2.1 + Node.size v), x.2.2)) else some (Stp.out (Sum.inl ()))

noncomputable def b_impl_fits (m_impl_fits : Tup p_impl_fits → Option (Tup q_impl_fits)) : Tup p_impl_fits → Option (Tup q_impl_fits) := fun (x : List Node × Int × Int) => Option.bind (loopO (m_impl_fits_0 m_impl_fits) (x.1, x.2.1, x.2.2)) fun (y : PUnit ⊕ Bool) => selim (fun (y : PUnit) => some true) (fun (y : Bool) => some y) y

noncomputable def m_impl_fits : Nat → Tup p_impl_fits → Option (Tup q_impl_fits)
  | 0 => fun _ => none
  | n + 1 => b_impl_fits (m_impl_fits n)

noncomputable def cx_impl_fits (n : Nat) : Cx := ⟨tb, lookE [(48, ⟨0, p_impl_fits, q_impl_fits, m_impl_fits n⟩)], lookS [], mth, ast⟩

theorem ck_impl_fits (n : Nat) (ih0 : FnOK Tryd.prog 48 ⟨0, p_impl_fits, q_impl_fits, m_impl_fits n⟩) : CxOK Tryd.prog (cx_impl_fits n) := cx_ok tb_ok if_ok (.cons ih0 Tryd.call48 .nil)

noncomputable def c_impl_fits_0 : Code := loopAt (Go.Proofs.Tryd.f48.body.getD .skip) 0

noncomputable def l_impl_fits_0 (n : Nat) : LEnt := ⟨p_impl_fits_0, x_impl_fits_0, loopO (m_impl_fits_0 (m_impl_fits n))⟩

theorem lo_impl_fits_0 (n : Nat) (ih0 : FnOK Tryd.prog 48 ⟨0, p_impl_fits, q_impl_fits, m_impl_fits n⟩) : LOK Tryd.prog 61 0 false (l_impl_fits_0 n) c_impl_fits_0 := loop_ok (body := m_impl_fits_0 (m_impl_fits n)) (L := lookL []) (ck_impl_fits n ih0) mixed (ls_ok (l := []) (by kernel_rfl) .nil) (by intro x; kernel_rfl) (fun x y h => loopO_iff.1 h)

theorem st_impl_fits (n : Nat) (ih0 : FnOK Tryd.prog 48 ⟨0, p_impl_fits, q_impl_fits, m_impl_fits n⟩) : FnOK Tryd.prog 48 ⟨0, p_impl_fits, q_impl_fits, m_impl_fits (n + 1)⟩ := fn_ok (ent := ⟨0, p_impl_fits, q_impl_fits, m_impl_fits (n + 1)⟩) (L := lookL [(0, l_impl_fits_0 n)]) (ck_impl_fits n ih0) mixed Tryd.func48 rfl (by kernel_rfl) (by kernel_rfl) (ls_ok (l := [(0, c_impl_fits_0)]) (by kernel_rfl) (.cons rfl (lo_impl_fits_0 n ih0) .nil)) (by intro x; kernel_rfl)

theorem ok0_impl_fits : ∀ n, FnOK Tryd.prog 48 ⟨0, p_impl_fits, q_impl_fits, m_impl_fits n⟩
  | 0 => fun x r h => by cases h
  | n + 1 => (fun ih => st_impl_fits n ih) (ok0_impl_fits n)

noncomputable def e_impl_fits : Ent := ⟨0, p_impl_fits, q_impl_fits, m_impl_fits big⟩
theorem ok_impl_fits : FnOK Tryd.prog 48 e_impl_fits := (ok0_impl_fits big)

/-! impl.right -/
abbrev p_impl_right : Pt := [(0, .lst .node)]
abbrev q_impl_right : Pt := [(0, .bool)]

noncomputable def m_impl_right : Tup p_impl_right → Option (Tup q_impl_right) := fun (x : List Node) => bif decide ((↑(List.length x) : Int) = (0 : Int)) then some false else Option.bind (atI x (0 : Int)) fun (v : Node) => bif decide (Node.size v ≠ (↑(List.length x) : Int)) then some false else Option.bind (atI x (0 : Int)) fun (v : Node) => bif decide (Node.kind v = (1 : Int)) then Option.bind (m_impl_fits big (x, (1 : Int), (↑(List.length x) : Int))) fun (r : Bool) => some r else Option.bind (m_impl_fits big (x, (0 : Int), (↑(List.length x) : Int))) fun (r : Bool) => some r

noncomputable def cx_impl_right : Cx := ⟨tb, lookE [(48, e_impl_fits)], lookS [], mth, ast⟩

theorem ck_impl_right : CxOK Tryd.prog (cx_impl_right) := cx_ok tb_ok if_ok (.cons ok_impl_fits Tryd.call48 .nil)

noncomputable def e_impl_right : Ent := ⟨0, p_impl_right, q_impl_right, m_impl_right⟩
theorem ok_impl_right : FnOK Tryd.prog 36 e_impl_right := fn_ok (L := lookL []) ck_impl_right mixed Tryd.func36 rfl (by kernel_rfl) (by kernel_rfl) (ls_ok (l := []) (by kernel_rfl) .nil) (by intro x; kernel_rfl)

/-! impl.alone -/
abbrev p_impl_alone : Pt := [(0, .el .node), (NT, .ns .h 105 107)]
abbrev q_impl_alone : Pt := [(0, .np), (NT, .ns .h 105 107)]

abbrev p_impl_alone_0 : Pt := [(3, .np), (35, .lst .attr), (36, .int .i64), (37, .int .i64), (NT, .ns .h 105 107)]
abbrev x_impl_alone_0 : List (Xt × Pt) := [(.ex 1, [(3, .np), (NT, .ns .h 105 107)])]
noncomputable def m_impl_alone_0 : Tup p_impl_alone_0 → Option (Stp (Tup p_impl_alone_0) (SumT (x_impl_alone_0.map (·.2)))) := fun (x : Option Nat × List Attr × Int × Int × List HN) => bif decide (x.2.2.2.1 < x.2.2.1) then Option.bind (atI x.2.1 x.2.2.2.1) fun (v : Attr) => Option.bind x.1 fun (i : Nat) => Option.bind (some i) fun (i : Nat) => Option.bind x.2.2.2.2[i]? fun (h : HN) => Option.bind x.2.2.2.2[i]? fun (h : HN) => Option.bind (appL (HN.attrs h) [{ ns := [], key := Attr.key v, val := Attr.val v }]) fun (r : List HAttr) => Option.bind x.1 fun (i_1 : Nat) => Option.bind (some i_1) fun (i_2 : Nat) => Option.bind x.2.2.2.2[i_2]? fun (h : HN) => bif decide (i = i_2) then some (Stp.nx (x.1, x.2.1, x.2.2.1, IntKind.wrap .i64 (x.2.2.2.1 + (1 : Int)), List.set x.2.2.2.2 i_2 (HN.wa h r))) else none else some (Stp.out (x.1, x.2.2.2.2))

noncomputable def m_impl_alone : Tup p_impl_alone → Option (Tup q_impl_alone) := fun (x : Node × List HN) => bif decide (Node.kind x.1 = (1 : Int)) then some (some (List.length x.2), x.2 ++ [{ par := none, fst := none, lst := none, prv := none, nxt := none, ty := (2 : Int), atom := (0 : Int), data := [], ns := [], attrs := [] }]) else bif decide (Node.kind x.1 = (2 : Int)) then some (some (List.length x.2), x.2 ++ [{ par := none, fst := none, lst := none, prv := none, nxt := none, ty := (5 : Int), atom := (0 : Int), data := Node.text x.1, ns := [], attrs := [] }]) else bif decide (Node.kind x.1 = (4 : Int)) then some (some (List.length x.2), x.2 ++ [{ par := none, fst := none, lst := none, prv := none, nxt := none, ty := (1 : Int), atom := (0 : Int), data := Node.text x.1, ns := [], attrs := [] }]) else bif decide (Node.kind x.1 = (5 : Int)) then some (some (List.length x.2), x.2 ++ [{ par := none, fst := none, lst := none, prv := none, nxt := none, ty := (4 : Int), atom := (0 : Int), data := Node.text x.1, ns := [], attrs := [] }]) else Option.bind (loopO m_impl_alone_0 (some (List.length x.2), Node.attrs x.1, (↑(List.length (Node.attrs x.1)) : Int), (0 : Int), x.2 ++ [{ par := none, fst := none, lst := none, prv := none, nxt := none, ty := (3 : Int), atom := (0 : Int), data := Node.tag x.1, ns := [], attrs := [] }])) fun (y : Option Nat × List HN) => some (y.1, y.2)

noncomputable def cx_impl_alone : Cx := ⟨tb, lookE [], lookS [(14, [(true, 0), (true, 1), (true, 2), (true, 3), (true, 4), (true, 5), (true, 6), (true, 7), (true, 8), (true, 9), (false, 10), (false, 11), (true, 12), (true, 13), (false, 14)])], mth, ast⟩

theorem ck_impl_alone : CxOK Tryd.prog (cx_impl_alone) := cx_ok tb_ok if_ok .nil

noncomputable def c_impl_alone_0 : Code := loopAt (Go.Proofs.Tryd.f49.body.getD .skip) 0

noncomputable def l_impl_alone_0 : LEnt := ⟨p_impl_alone_0, x_impl_alone_0, loopO (m_impl_alone_0)⟩

theorem lo_impl_alone_0 : LOK Tryd.prog 57 0 true (l_impl_alone_0) c_impl_alone_0 := loop_ok (body := m_impl_alone_0) (L := lookL []) (ck_impl_alone) mixed (ls_ok (l := []) (by kernel_rfl) .nil) (by intro x; kernel_rfl) (fun x y h => loopO_iff.1 h)

noncomputable def e_impl_alone : Ent := ⟨0, p_impl_alone, q_impl_alone, m_impl_alone⟩
theorem ok_impl_alone : FnOK Tryd.prog 49 e_impl_alone := fn_ok (L := lookL [(1, l_impl_alone_0)]) ck_impl_alone mixed Tryd.func49 rfl (by kernel_rfl) (by kernel_rfl) (ls_ok (l := [(1, c_impl_alone_0)]) (by kernel_rfl) (.cons rfl (lo_impl_alone_0) .nil)) (by intro x; kernel_rfl)

/-! (*html.Node).AppendChild -/
abbrev p_html_Node_AppendChild : Pt := [(0, .np), (1, .np), (NT, .ns .h 105 107)]
abbrev q_html_Node_AppendChild : Pt := [(NT, .ns .h 105 107)]

noncomputable def m_html_Node_AppendChild : Tup p_html_Node_AppendChild → Option (Tup q_html_Node_AppendChild) := fun (x : Option Nat × Option Nat × List HN) => Option.bind x.2.1 fun (i : Nat) => Option.bind (some i) fun (i : Nat) => Option.bind x.2.2[i]? fun (h : HN) => bif !Option.isNone (HN.par h) then none else Option.bind x.2.1 fun (i : Nat) => Option.bind (some i) fun (i : Nat) => Option.bind x.2.2[i]? fun (h : HN) => bif !Option.isNone (HN.prv h) then none else Option.bind x.2.1 fun (i : Nat) => Option.bind (some i) fun (i : Nat) => Option.bind x.2.2[i]? fun (h : HN) => bif !Option.isNone (HN.nxt h) then none else Option.bind x.1 fun (i : Nat) => Option.bind (some i) fun (i : Nat) => Option.bind x.2.2[i]? fun (h : HN) => bif !Option.isNone (HN.lst h) then Option.bind (HN.lst h) fun (i : Nat) => Option.bind (some i) fun (i : Nat) => Option.bind x.2.2[i]? fun (h_1 : HN) => Option.bind x.1 fun (i_1 : Nat) => Option.bind (some i_1) fun (i_2 : Nat) => Option.bind (List.set x.2.2 i { h_1 with nxt := x.2.1 })[i_2]? fun (h_2 : HN) => Option.bind x.2.1 fun (i_3 : Nat) => Option.bind (some i_3) fun (i_4 : Nat) => Option.bind (List.set (List.set x.2.2 i { h_1 with nxt := x.2.1 }) i_2 { h_2 with lst := x.2.1 })[i_4]? fun (h_3 : HN) => Option.bind x.2.1 fun (i_5 : Nat) => Option.bind (some i_5) fun (i_6 : Nat) => Option.bind (List.set (List.set (List.set x.2.2 i { h_1 with nxt := x.2.1 }) i_2 { h_2 with lst := x.2.1 }) i_4 { h_3 with par := x.1 })[i_6]? fun (h_4 : HN) => some (List.set (List.set (List.set (List.set x.2.2 i { h_1 with nxt := x.2.1 }) i_2 { h_2 with lst := x.2.1 }) i_4 { h_3 with par := x.1 }) i_6 { h_4 with prv := HN.lst h }) else Option.bind x.1 fun (i : Nat) => Option.bind (some i) fun (i : Nat) => Option.bind x.2.2[i]? fun (h_1 : HN) => Option.bind x.1 fun (i_1 : Nat) => Option.bind (some i_1) fun (i_2 : Nat) => Option.bind (List.set x.2.2 i { h_1 with fst := x.2.1 })[i_2]? fun (h_2 : HN) => Option.bind x.2.1 fun (i_3 : Nat) => Option.bind (some i_3) fun (i_4 : Nat) => Option.bind (List.set (List.set x.2.2 i { h_1 with fst := x.2.1 }) i_2 { h_2 with lst := x.2.1 })[i_4]? fun (h_3 : HN) => Option.bind x.2.1 fun (i_5 : Nat) => Option.bind (some i_5) fun (i_6 : Nat) => Option.bind (List.set (List.set (List.set x.2.2 i { h_1 with fst := x.2.1 }) i_2 { h_2 with lst := x.2.1 }) i_4 { h_3 with par := x.1 })[i_6]? fun (h_4 : HN) => some (List.set (List.set (List.set (List.set x.2.2 i { h_1 with fst := x.2.1 }) i_2 { h_2 with lst := x.2.1 }) i_4 { h_3 with par := x.1 }) i_6 { h_4 with prv := HN.lst h })

noncomputable def cx_html_Node_AppendChild : Cx := ⟨tb, lookE [], lookS [], mth, ast⟩

theorem ck_html_Node_AppendChild : CxOK Tryd.prog (cx_html_Node_AppendChild) := cx_ok tb_ok if_ok .nil

noncomputable def e_html_Node_AppendChild : Ent := ⟨0, p_html_Node_AppendChild, q_html_Node_AppendChild, m_html_Node_AppendChild⟩
theorem ok_html_Node_AppendChild : FnOK Tryd.prog 50 e_html_Node_AppendChild := fn_ok (L := lookL []) ck_html_Node_AppendChild mixed Tryd.func50 rfl (by kernel_rfl) (by kernel_rfl) (ls_ok (l := []) (by kernel_rfl) .nil) (by intro x; kernel_rfl)

/-! impl.grow -/
abbrev p_impl_grow : Pt := [(0, .lst .node), (1, .int .i64), (2, .own .np 65), (NT, .ns .h 105 107)]
abbrev q_impl_grow : Pt := [(1002, .own .np 65), (NT, .ns .h 105 107)]

abbrev p_impl_grow_0 : Pt := [(0, .lst .node), (1, .int .i64), (2, .own .np 65), (6, .int .i64), (NT, .ns .h 105 107)]
abbrev x_impl_grow_0 : List (Xt × Pt) := [(.ex 0, [(2, .own .np 65), (NT, .ns .h 105 107)])]
noncomputable def m_impl_grow_0 (m_impl_grow : Tup p_impl_grow → Option (Tup q_impl_grow)) : Tup p_impl_grow_0 → Option (Stp (Tup p_impl_grow_0) (SumT (x_impl_grow_0.map (·.2)))) := fun (x : List Node × Int × List (Option Nat) × Int × List HN) => Option.bind (atI x.1 x.2.1) fun (v : Node) => bif decide (x.2.2.2.1 < IntKind.wrap .i64 (x.2.1 + Node.size v)) then Option.bind (m_impl_grow (x.1, x.2.2.2.1, x.2.2.1, x.2.2.2.2)) fun (r : List (Option Nat) × List HN) => Option.bind (atI r.1 x.2.1) fun (x_1 : Option Nat) => Option.bind r.1[Int.toNat x.2.1]? fun (v : Option Nat) => Option.bind (atI r.1 x.2.2.2.1) fun (x_2 : Option Nat) => Option.bind r.1[Int.toNat x.2.2.2.1]? fun (v_1 : Option Nat) => Option.bind (m_html_Node_AppendChild (v, v_1, r.2)) fun (r_1 : List HN) => Option.bind (atI x.1 x.2.2.2.1) fun (v : Node) => some (Stp.nx (x.1, x.2.1, r.1, IntKind.wrap .i64 (x.2.2.2.1 + Node.size v), r_1)) else some (Stp.out (x.2.2.1, x.2.2.2.2))

noncomputable def b_impl_grow (m_impl_grow : Tup p_impl_grow → Option (Tup q_impl_grow)) : Tup p_impl_grow → Option (Tup q_impl_grow) := fun (x : List Node × Int × List (Option Nat) × List HN) => Option.bind (atI x.1 x.2.1) fun (v : Node) => Option.bind (m_impl_alone ({ kind := Node.kind v, tag := Node.tag v, text := Node.text v, attrs := Node.attrs v, size := Node.size v }, x.2.2.2)) fun (r : Option Nat × List HN) => Option.bind (atI x.2.2.1 x.2.1) fun (x_1 : Option Nat) => Option.bind x.2.2.1[Int.toNat x.2.1]? fun (v : Option Nat) => Option.bind (loopO (m_impl_grow_0 m_impl_grow) (x.1, x.2.1, List.set x.2.2.1 (Int.toNat x.2.1) r.1, IntKind.wrap .i64 (x.2.1 + (1 : Int)), r.2)) fun (y : List (Option Nat) × List HN) => some (y.1, y.2)

noncomputable def m_impl_grow : Nat → Tup p_impl_grow → Option (Tup q_impl_grow)
  | 0 => fun _ => none
  | n + 1 => b_impl_grow (m_impl_grow n)

noncomputable def cx_impl_grow (n : Nat) : Cx := ⟨tb, lookE [(49, e_impl_alone), (37, ⟨2003, p_impl_grow, q_impl_grow, m_impl_grow n⟩), (50, e_html_Node_AppendChild)], lookS [(5, [(true, 0), (true, 1), (true, 2), (true, 3), (true, 4), (true, 5), (true, 6), (true, 7), (false, 8)])], mth, ast⟩

theorem ck_impl_grow (n : Nat) (ih0 : FnOK Tryd.prog 37 ⟨2003, p_impl_grow, q_impl_grow, m_impl_grow n⟩) : CxOK Tryd.prog (cx_impl_grow n) := cx_ok tb_ok if_ok (.cons ok_impl_alone Tryd.call49 (.cons ih0 Tryd.call37 (.cons ok_html_Node_AppendChild Tryd.call50 .nil)))

noncomputable def c_impl_grow_0 : Code := loopAt (Go.Proofs.Tryd.f37.body.getD .skip) 0

noncomputable def l_impl_grow_0 (n : Nat) : LEnt := ⟨p_impl_grow_0, x_impl_grow_0, loopO (m_impl_grow_0 (m_impl_grow n))⟩

theorem lo_impl_grow_0 (n : Nat) (ih0 : FnOK Tryd.prog 37 ⟨2003, p_impl_grow, q_impl_grow, m_impl_grow n⟩) : LOK Tryd.prog 46 2003 true (l_impl_grow_0 n) c_impl_grow_0 := loop_ok (body := m_impl_grow_0 (m_impl_grow n)) (L := lookL []) (ck_impl_grow n ih0) mixed (ls_ok (l := []) (by kernel_rfl) .nil) (by intro x; kernel_rfl) (fun x y h => loopO_iff.1 h)

theorem st_impl_grow (n : Nat) (ih0 : FnOK Tryd.prog 37 ⟨2003, p_impl_grow, q_impl_grow, m_impl_grow n⟩) : FnOK Tryd.prog 37 ⟨2003, p_impl_grow, q_impl_grow, m_impl_grow (n + 1)⟩ := fn_ok (ent := ⟨2003, p_impl_grow, q_impl_grow, m_impl_grow (n + 1)⟩) (L := lookL [(0, l_impl_grow_0 n)]) (ck_impl_grow n ih0) mixed Tryd.func37 rfl (by kernel_rfl) (by kernel_rfl) (ls_ok (l := [(0, c_impl_grow_0)]) (by kernel_rfl) (.cons rfl (lo_impl_grow_0 n ih0) .nil)) (by intro x; kernel_rfl)

theorem ok0_impl_grow : ∀ n, FnOK Tryd.prog 37 ⟨2003, p_impl_grow, q_impl_grow, m_impl_grow n⟩
  | 0 => fun x r h => by cases h
  | n + 1 => (fun ih => st_impl_grow n ih) (ok0_impl_grow n)

noncomputable def e_impl_grow : Ent := ⟨2003, p_impl_grow, q_impl_grow, m_impl_grow big⟩
theorem ok_impl_grow : FnOK Tryd.prog 37 e_impl_grow := (ok0_impl_grow big)

/-! impl.grown -/
abbrev p_impl_grown : Pt := [(0, .lst .node), (NT, .ns .h 105 107)]
abbrev q_impl_grown : Pt := [(0, .own .np 65), (1, .bool), (NT, .ns .h 105 107)]

noncomputable def m_impl_grown : Tup p_impl_grown → Option (Tup q_impl_grown) := fun (x : List Node × List HN) => Option.bind (m_impl_right x.1) fun (r : Bool) => bif !r then some ([], false, x.2) else bif decide ((↑(List.length x.1) : Int) ≤ (↑(List.length x.1) : Int) ∧ (0 : Int) ≤ (↑(List.length x.1) : Int) ∧ (↑(List.length x.1) : Int) ≤ (1048576 : Int)) then Option.bind (m_impl_grow big (x.1, (0 : Int), List.replicate (Int.toNat (↑(List.length x.1) : Int)) none, x.2)) fun (r : List (Option Nat) × List HN) => some (r.1, true, r.2) else none

noncomputable def cx_impl_grown : Cx := ⟨tb, lookE [(36, e_impl_right), (37, e_impl_grow)], lookS [], mth, ast⟩

theorem ck_impl_grown : CxOK Tryd.prog (cx_impl_grown) := cx_ok tb_ok if_ok (.cons ok_impl_right Tryd.call36 (.cons ok_impl_grow Tryd.call37 .nil))

noncomputable def e_impl_grown : Ent := ⟨0, p_impl_grown, q_impl_grown, m_impl_grown⟩
theorem ok_impl_grown : FnOK Tryd.prog 25 e_impl_grown := fn_ok (L := lookL []) ck_impl_grown mixed Tryd.func25 rfl (by kernel_rfl) (by kernel_rfl) (ls_ok (l := []) (by kernel_rfl) .nil) (by intro x; kernel_rfl)

/-! impl.these -/
abbrev p_impl_these : Pt := [(0, .lst .np), (1, .lst .int)]
abbrev q_impl_these : Pt := [(0, .own .np 65), (1, .bool)]

abbrev p_impl_these_0 : Pt := [(0, .lst .np), (6, .own .np 65), (9, .lst .int), (10, .int .i64), (11, .int .i64)]
abbrev x_impl_these_0 : List (Xt × Pt) := [(.ex 0, [(6, .own .np 65)]), (.rt, [(4, .own .np 65), (5, .bool)])]
noncomputable def m_impl_these_0 : Tup p_impl_these_0 → Option (Stp (Tup p_impl_these_0) (SumT (x_impl_these_0.map (·.2)))) := fun (x : List (Option Nat) × List (Option Nat) × List Int × Int × Int) => bif decide (x.2.2.2.2 < x.2.2.2.1) then Option.bind (atI x.2.2.1 x.2.2.2.2) fun (v : Int) => bif decide (v < (0 : Int)) then some (Stp.out (Sum.inr ([], false))) else bif decide ((↑(List.length x.1) : Int) ≤ v) then some (Stp.out (Sum.inr ([], false))) else Option.bind (atI x.1 v) fun (v : Option Nat) => Option.bind (appL x.2.1 [v]) fun (r : List (Option Nat)) => some (Stp.nx (x.1, r, x.2.2.1, x.2.2.2.1, IntKind.wrap .i64 (x.2.2.2.2 + (1 : Int)))) else some (Stp.out (Sum.inl x.2.1))

noncomputable def m_impl_these : Tup p_impl_these → Option (Tup q_impl_these) := fun (x : List (Option Nat) × List Int) => Option.bind (loopO m_impl_these_0 (x.1, [], x.2, (↑(List.length x.2) : Int), (0 : Int))) fun (y : List (Option Nat) ⊕ List (Option Nat) × Bool) => selim (fun (y : List (Option Nat)) => some (y, true)) (fun (y : List (Option Nat) × Bool) => some (y.1, y.2)) y

noncomputable def cx_impl_these : Cx := ⟨tb, lookE [], lookS [], mth, ast⟩

theorem ck_impl_these : CxOK Tryd.prog (cx_impl_these) := cx_ok tb_ok if_ok .nil

noncomputable def c_impl_these_0 : Code := loopAt (Go.Proofs.Tryd.f38.body.getD .skip) 0

noncomputable def l_impl_these_0 : LEnt := ⟨p_impl_these_0, x_impl_these_0, loopO (m_impl_these_0)⟩

theorem lo_impl_these_0 : LOK Tryd.prog 32 0 false (l_impl_these_0) c_impl_these_0 := loop_ok (body := m_impl_these_0) (L := lookL []) (ck_impl_these) mixed (ls_ok (l := []) (by kernel_rfl) .nil) (by intro x; kernel_rfl) (fun x y h => loopO_iff.1 h)

noncomputable def e_impl_these : Ent := ⟨0, p_impl_these, q_impl_these, m_impl_these⟩
theorem ok_impl_these : FnOK Tryd.prog 38 e_impl_these := fn_ok (L := lookL [(0, l_impl_these_0)]) ck_impl_these mixed Tryd.func38 rfl (by kernel_rfl) (by kernel_rfl) (ls_ok (l := [(0, c_impl_these_0)]) (by kernel_rfl) (.cons rfl (lo_impl_these_0) .nil)) (by intro x; kernel_rfl)

end Go.Proofs.YtpedmnlpccngiaaDoor.V
