/-
  Models of functions, and that they are what the code does (written by a program).
-/
import Derived.Test.YtfmlpodcldhgdaaKTab
import Derived.Test.YtfmlpodcldhgdaaSpecA
import Derived.Test.YtfmlpodcldhgdaaSpecB
set_option linter.unusedVariables false
set_option linter.unusedSimpArgs false
namespace Go.Proofs.Ytfmlpodcldhgdaa.V
open Go Go.Proofs

/-! impl.fits -/
abbrev p_impl_fits : Pt := [(0, .lst .node), (1, .int .i64), (2, .int .i64)]
abbrev q_impl_fits : Pt := [(0, .bool)]

abbrev p_impl_fits_0 : Pt := [(0, .lst .node), (1, .int .i64), (2, .int .i64)]
abbrev x_impl_fits_0 : List (Xt × Pt) := [(.ex 0, []), (.rt, [(6, .bool)])]
noncomputable def m_impl_fits_0 (m_impl_fits : Tup p_impl_fits → Option (Tup q_impl_fits)) : Tup p_impl_fits_0 → Option (Stp (Tup p_impl_fits_0) (SumT (x_impl_fits_0.map (·.2)))) := fun (x : List Node × Int × Int) => bif Decidable.decide (Prod.fst (Prod.snd x) < Prod.snd (Prod.snd x)) then Option.bind (atI (Prod.fst x) (Prod.fst (Prod.snd x))) fun (v : Node) => bif Decidable.decide (Node.size v < (1 : Int)) then Option.some (Stp.out (Sum.inr Bool.false)) else bif Decidable.decide (Go.IntKind.wrap Go.IntKind.i64 (Prod.snd (Prod.snd x) - Prod.fst (Prod.snd x)) < Node.size v) then Option.some (Stp.out (Sum.inr Bool.false)) else bif Decidable.decide (Node.kind v ≤ (1 : Int)) then Option.some (Stp.out (Sum.inr Bool.false)) else bif Decidable.decide ((5 : Int) < Node.kind v) then Option.some (Stp.out (Sum.inr Bool.false)) else bif Decidable.decide (Node.kind v ≠ (3 : Int)) then bif Decidable.decide ((1 : Int) < Node.size v) then Option.some (Stp.out (Sum.inr Bool.false)) else Option.bind (m_impl_fits (Prod.fst x, Go.IntKind.wrap Go.IntKind.i64 (Prod.fst (Prod.snd x) + (1 : Int)), Go.IntKind.wrap Go.IntKind.i64 (Prod.fst (Prod.snd x) + Node.size v))) fun (r : Bool) => bif !r then Option.some (Stp.out (Sum.inr Bool.false)) else Option.some (Stp.nx (Prod.fst x, Go.IntKind.wrap Go.IntKind.i64 (Prod.fst (Prod.snd x) + Node.size v), Prod.snd (Prod.snd x))) else Option.bind (m_impl_fits (Prod.fst x, Go.IntKind.wrap Go.IntKind.i64 (Prod.fst (Prod.snd x) + (1 : Int)), Go.IntKind.wrap Go.IntKind.i64 (Prod.fst (Prod.snd x) + Node.size v))) fun (r : Bool) => bif !r then Option.some (Stp.out (Sum.inr Bool.false)) else Option.some (Stp.nx (Prod.fst x, Go.IntKind.wrap Go.IntKind.i64 (Prod.fst (Prod.snd x) + Node.size v), Prod.snd (Prod.snd x))) else Option.some (Stp.out (Sum.inl PUnit.unit))

noncomputable def b_impl_fits (m_impl_fits : Tup p_impl_fits → Option (Tup q_impl_fits)) : Tup p_impl_fits → Option (Tup q_impl_fits) := fun (x : List Node × Int × Int) => Option.bind (loopO (m_impl_fits_0 m_impl_fits) (Prod.fst x, Prod.fst (Prod.snd x), Prod.snd (Prod.snd x))) fun (y : PUnit ⊕ Bool) => selim (fun (y : PUnit) => Option.some Bool.true) (fun (y : Bool) => Option.some y) y

noncomputable def m_impl_fits : Nat → Tup p_impl_fits → Option (Tup q_impl_fits)
  | 0 => fun _ => none
  | n + 1 => b_impl_fits (m_impl_fits n)

noncomputable def cx_impl_fits (n : Nat) : Cx := ⟨tb, lookE [(126, ⟨0, p_impl_fits, q_impl_fits, m_impl_fits n⟩)], lookS []⟩

theorem ck_impl_fits (n : Nat) (ih0 : FnOK Try.prog 126 ⟨0, p_impl_fits, q_impl_fits, m_impl_fits n⟩) : CxOK Try.prog (cx_impl_fits n) := cx_ok tb_ok (.cons ih0 Try.call126 .nil)

noncomputable def c_impl_fits_0 : Code := loopAt (Go.Proofs.Try.f126.body.getD .skip) 0

noncomputable def l_impl_fits_0 (n : Nat) : LEnt := ⟨p_impl_fits_0, x_impl_fits_0, loopO (m_impl_fits_0 (m_impl_fits n))⟩

theorem lo_impl_fits_0 (n : Nat) (ih0 : FnOK Try.prog 126 ⟨0, p_impl_fits, q_impl_fits, m_impl_fits n⟩) : LOK Try.prog 61 0 false (l_impl_fits_0 n) c_impl_fits_0 := loop_ok (body := m_impl_fits_0 (m_impl_fits n)) (L := lookL []) (ck_impl_fits n ih0) mixed (ls_ok (l := []) (by kernel_rfl) .nil) (by intro x; kernel_rfl) (fun x y h => loopO_iff.1 h)

theorem st_impl_fits (n : Nat) (ih0 : FnOK Try.prog 126 ⟨0, p_impl_fits, q_impl_fits, m_impl_fits n⟩) : FnOK Try.prog 126 ⟨0, p_impl_fits, q_impl_fits, m_impl_fits (n + 1)⟩ := fn_ok (ent := ⟨0, p_impl_fits, q_impl_fits, m_impl_fits (n + 1)⟩) (L := lookL [(0, l_impl_fits_0 n)]) (ck_impl_fits n ih0) mixed Try.func126 rfl (by kernel_rfl) (by kernel_rfl) (ls_ok (l := [(0, c_impl_fits_0)]) (by kernel_rfl) (.cons rfl (lo_impl_fits_0 n ih0) .nil)) (by intro x; kernel_rfl)

theorem ok0_impl_fits : ∀ n, FnOK Try.prog 126 ⟨0, p_impl_fits, q_impl_fits, m_impl_fits n⟩
  | 0 => fun x r h => by cases h
  | n + 1 => (fun ih => st_impl_fits n ih) (ok0_impl_fits n)

noncomputable def e_impl_fits : Ent := ⟨0, p_impl_fits, q_impl_fits, m_impl_fits big⟩
theorem ok_impl_fits : FnOK Try.prog 126 e_impl_fits := (ok0_impl_fits big)

/-! impl.right -/
abbrev p_impl_right : Pt := [(0, .lst .node)]
abbrev q_impl_right : Pt := [(0, .bool)]

noncomputable def m_impl_right : Tup p_impl_right → Option (Tup q_impl_right) := fun (x : List Node) => bif Decidable.decide ((↑(List.length x) : Int) = (0 : Int)) then Option.some Bool.false else Option.bind (atI x (0 : Int)) fun (v : Node) => bif Decidable.decide (Node.size v ≠ (↑(List.length x) : Int)) then Option.some Bool.false else Option.bind (atI x (0 : Int)) fun (v : Node) => bif Decidable.decide (Node.kind v = (1 : Int)) then Option.bind (m_impl_fits big (x, (1 : Int), (↑(List.length x) : Int))) fun (r : Bool) => Option.some r else Option.bind (m_impl_fits big (x, (0 : Int), (↑(List.length x) : Int))) fun (r : Bool) => Option.some r

noncomputable def cx_impl_right : Cx := ⟨tb, lookE [(126, e_impl_fits)], lookS []⟩

theorem ck_impl_right : CxOK Try.prog (cx_impl_right) := cx_ok tb_ok (.cons ok_impl_fits Try.call126 .nil)

noncomputable def e_impl_right : Ent := ⟨0, p_impl_right, q_impl_right, m_impl_right⟩
theorem ok_impl_right : FnOK Try.prog 100 e_impl_right := fn_ok (L := lookL []) ck_impl_right mixed Try.func100 rfl (by kernel_rfl) (by kernel_rfl) (ls_ok (l := []) (by kernel_rfl) .nil) (by intro x; kernel_rfl)

/-! impl.alone -/
abbrev p_impl_alone : Pt := [(0, .el .node), (NT, .ns .h 126 168)]
abbrev q_impl_alone : Pt := [(0, .np), (NT, .ns .h 126 168)]

abbrev p_impl_alone_0 : Pt := [(3, .np), (35, .lst .attr), (36, .int .i64), (37, .int .i64), (NT, .ns .h 126 168)]
abbrev x_impl_alone_0 : List (Xt × Pt) := [(.ex 1, [(3, .np), (NT, .ns .h 126 168)])]
noncomputable def m_impl_alone_0 : Tup p_impl_alone_0 → Option (Stp (Tup p_impl_alone_0) (SumT (x_impl_alone_0.map (·.2)))) := fun (x : Option Nat × List Attr × Int × Int × List HN) => bif Decidable.decide (Prod.fst (Prod.snd (Prod.snd (Prod.snd x))) < Prod.fst (Prod.snd (Prod.snd x))) then Option.bind (atI (Prod.fst (Prod.snd x)) (Prod.fst (Prod.snd (Prod.snd (Prod.snd x))))) fun (v : Attr) => Option.bind (Prod.fst x) fun (i : Nat) => Option.bind (Option.some i) fun (i : Nat) => Option.bind (Prod.snd (Prod.snd (Prod.snd (Prod.snd x))))[i]? fun (h : HN) => Option.bind (Prod.snd (Prod.snd (Prod.snd (Prod.snd x))))[i]? fun (h : HN) => Option.bind (appL (HN.attrs h) [{ ns := [], key := Attr.key v, val := Attr.val v }]) fun (r : List HAttr) => Option.bind (Prod.fst x) fun (i_1 : Nat) => Option.bind (Option.some i_1) fun (i_2 : Nat) => Option.bind (Prod.snd (Prod.snd (Prod.snd (Prod.snd x))))[i_2]? fun (h : HN) => bif Decidable.decide (i = i_2) then Option.some (Stp.nx (Prod.fst x, Prod.fst (Prod.snd x), Prod.fst (Prod.snd (Prod.snd x)), Go.IntKind.wrap Go.IntKind.i64 (Prod.fst (Prod.snd (Prod.snd (Prod.snd x))) + (1 : Int)), List.set (Prod.snd (Prod.snd (Prod.snd (Prod.snd x)))) i_2 (HN.wa h r))) else Option.none else Option.some (Stp.out (Prod.fst x, Prod.snd (Prod.snd (Prod.snd (Prod.snd x)))))

noncomputable def m_impl_alone : Tup p_impl_alone → Option (Tup q_impl_alone) := fun (x : Node × List HN) => bif Decidable.decide (Node.kind (Prod.fst x) = (1 : Int)) then Option.some (Option.some (List.length (Prod.snd x)), Prod.snd x ++ [{ par := Option.none, fst := Option.none, lst := Option.none, prv := Option.none, nxt := Option.none, ty := (2 : Int), atom := (0 : Int), data := [], ns := [], attrs := [] }]) else bif Decidable.decide (Node.kind (Prod.fst x) = (2 : Int)) then Option.some (Option.some (List.length (Prod.snd x)), Prod.snd x ++ [{ par := Option.none, fst := Option.none, lst := Option.none, prv := Option.none, nxt := Option.none, ty := (5 : Int), atom := (0 : Int), data := Node.text (Prod.fst x), ns := [], attrs := [] }]) else bif Decidable.decide (Node.kind (Prod.fst x) = (4 : Int)) then Option.some (Option.some (List.length (Prod.snd x)), Prod.snd x ++ [{ par := Option.none, fst := Option.none, lst := Option.none, prv := Option.none, nxt := Option.none, ty := (1 : Int), atom := (0 : Int), data := Node.text (Prod.fst x), ns := [], attrs := [] }]) else bif Decidable.decide (Node.kind (Prod.fst x) = (5 : Int)) then Option.some (Option.some (List.length (Prod.snd x)), Prod.snd x ++ [{ par := Option.none, fst := Option.none, lst := Option.none, prv := Option.none, nxt := Option.none, ty := (4 : Int), atom := (0 : Int), data := Node.text (Prod.fst x), ns := [], attrs := [] }]) else Option.bind (loopO m_impl_alone_0 (Option.some (List.length (Prod.snd x)), Node.attrs (Prod.fst x), (↑(List.length (Node.attrs (Prod.fst x))) : Int), (0 : Int), Prod.snd x ++ [{ par := Option.none, fst := Option.none, lst := Option.none, prv := Option.none, nxt := Option.none, ty := (3 : Int), atom := (0 : Int), data := Node.tag (Prod.fst x), ns := [], attrs := [] }])) fun (y : Option Nat × List HN) => Option.some (Prod.fst y, Prod.snd y)

noncomputable def cx_impl_alone : Cx := ⟨tb, lookE [], lookS [(14, [(true, 0), (true, 1), (true, 2), (true, 3), (true, 4), (true, 5), (true, 6), (true, 7), (true, 8), (true, 9), (false, 10), (false, 11), (true, 12), (true, 13), (false, 14)])]⟩

theorem ck_impl_alone : CxOK Try.prog (cx_impl_alone) := cx_ok tb_ok .nil

noncomputable def c_impl_alone_0 : Code := loopAt (Go.Proofs.Try.f127.body.getD .skip) 0

noncomputable def l_impl_alone_0 : LEnt := ⟨p_impl_alone_0, x_impl_alone_0, loopO (m_impl_alone_0)⟩

theorem lo_impl_alone_0 : LOK Try.prog 57 0 true (l_impl_alone_0) c_impl_alone_0 := loop_ok (body := m_impl_alone_0) (L := lookL []) (ck_impl_alone) mixed (ls_ok (l := []) (by kernel_rfl) .nil) (by intro x; kernel_rfl) (fun x y h => loopO_iff.1 h)

noncomputable def e_impl_alone : Ent := ⟨0, p_impl_alone, q_impl_alone, m_impl_alone⟩
theorem ok_impl_alone : FnOK Try.prog 127 e_impl_alone := fn_ok (L := lookL [(1, l_impl_alone_0)]) ck_impl_alone mixed Try.func127 rfl (by kernel_rfl) (by kernel_rfl) (ls_ok (l := [(1, c_impl_alone_0)]) (by kernel_rfl) (.cons rfl (lo_impl_alone_0) .nil)) (by intro x; kernel_rfl)

/-! (*html.Node).AppendChild -/
abbrev p_html_Node_AppendChild : Pt := [(0, .np), (1, .np), (NT, .ns .h 126 168)]
abbrev q_html_Node_AppendChild : Pt := [(NT, .ns .h 126 168)]

noncomputable def m_html_Node_AppendChild : Tup p_html_Node_AppendChild → Option (Tup q_html_Node_AppendChild) := fun (x : Option Nat × Option Nat × List HN) => Option.bind (Prod.fst (Prod.snd x)) fun (i : Nat) => Option.bind (Option.some i) fun (i : Nat) => Option.bind (Prod.snd (Prod.snd x))[i]? fun (h : HN) => bif !Option.isNone (HN.par h) then Option.none else Option.bind (Prod.fst (Prod.snd x)) fun (i : Nat) => Option.bind (Option.some i) fun (i : Nat) => Option.bind (Prod.snd (Prod.snd x))[i]? fun (h : HN) => bif !Option.isNone (HN.prv h) then Option.none else Option.bind (Prod.fst (Prod.snd x)) fun (i : Nat) => Option.bind (Option.some i) fun (i : Nat) => Option.bind (Prod.snd (Prod.snd x))[i]? fun (h : HN) => bif !Option.isNone (HN.nxt h) then Option.none else Option.bind (Prod.fst x) fun (i : Nat) => Option.bind (Option.some i) fun (i : Nat) => Option.bind (Prod.snd (Prod.snd x))[i]? fun (h : HN) => bif !Option.isNone (HN.lst h) then Option.bind (HN.lst h) fun (i : Nat) => Option.bind (Option.some i) fun (i : Nat) => Option.bind (Prod.snd (Prod.snd x))[i]? fun (h_1 : HN) => Option.bind (Prod.fst x) fun (i_1 : Nat) => Option.bind (Option.some i_1) fun (i_2 : Nat) => Option.bind (List.set (Prod.snd (Prod.snd x)) i { par := HN.par h_1, fst := HN.fst h_1, lst := HN.lst h_1, prv := HN.prv h_1, nxt := Prod.fst (Prod.snd x), ty := HN.ty h_1, atom := HN.atom h_1, data := HN.data h_1, ns := HN.ns h_1, attrs := HN.attrs h_1 })[i_2]? fun (h_2 : HN) => Option.bind (Prod.fst (Prod.snd x)) fun (i_3 : Nat) => Option.bind (Option.some i_3) fun (i_4 : Nat) => Option.bind (List.set (List.set (Prod.snd (Prod.snd x)) i { par := HN.par h_1, fst := HN.fst h_1, lst := HN.lst h_1, prv := HN.prv h_1, nxt := Prod.fst (Prod.snd x), ty := HN.ty h_1, atom := HN.atom h_1, data := HN.data h_1, ns := HN.ns h_1, attrs := HN.attrs h_1 }) i_2 { par := HN.par h_2, fst := HN.fst h_2, lst := Prod.fst (Prod.snd x), prv := HN.prv h_2, nxt := HN.nxt h_2, ty := HN.ty h_2, atom := HN.atom h_2, data := HN.data h_2, ns := HN.ns h_2, attrs := HN.attrs h_2 })[i_4]? fun (h_3 : HN) => Option.bind (Prod.fst (Prod.snd x)) fun (i_5 : Nat) => Option.bind (Option.some i_5) fun (i_6 : Nat) => Option.bind (List.set (List.set (List.set (Prod.snd (Prod.snd x)) i { par := HN.par h_1, fst := HN.fst h_1, lst := HN.lst h_1, prv := HN.prv h_1, nxt := Prod.fst (Prod.snd x), ty := HN.ty h_1, atom := HN.atom h_1, data := HN.data h_1, ns := HN.ns h_1, attrs := HN.attrs h_1 }) i_2 { par := HN.par h_2, fst := HN.fst h_2, lst := Prod.fst (Prod.snd x), prv := HN.prv h_2, nxt := HN.nxt h_2, ty := HN.ty h_2, atom := HN.atom h_2, data := HN.data h_2, ns := HN.ns h_2, attrs := HN.attrs h_2 }) i_4 { par := Prod.fst x, fst := HN.fst h_3, lst := HN.lst h_3, prv := HN.prv h_3, nxt := HN.nxt h_3, ty := HN.ty h_3, atom := HN.atom h_3, data := HN.data h_3, ns := HN.ns h_3, attrs := HN.attrs h_3 })[i_6]? fun (h_4 : HN) => Option.some (List.set (List.set (List.set (List.set (Prod.snd (Prod.snd x)) i { par := HN.par h_1, fst := HN.fst h_1, lst := HN.lst h_1, prv := HN.prv h_1, nxt := Prod.fst (Prod.snd x), ty := HN.ty h_1, atom := HN.atom h_1, data := HN.data h_1, ns := HN.ns h_1, attrs := HN.attrs h_1 }) i_2 { par := HN.par h_2, fst := HN.fst h_2, lst := Prod.fst (Prod.snd x), prv := HN.prv h_2, nxt := HN.nxt h_2, ty := HN.ty h_2, atom := HN.atom h_2, data := HN.data h_2, ns := HN.ns h_2, attrs := HN.attrs h_2 }) i_4 { par := Prod.fst x, fst := HN.fst h_3, lst := HN.lst h_3, prv := HN.prv h_3, nxt := HN.nxt h_3, ty := HN.ty h_3, atom := HN.atom h_3, data := HN.data h_3, ns := HN.ns h_3, attrs := HN.attrs h_3 }) i_6 { par := HN.par h_4, fst := HN.fst h_4, lst := HN.lst h_4, prv := HN.lst h, nxt := HN.nxt h_4, ty := HN.ty h_4, atom := HN.atom h_4, data := HN.data h_4, ns := HN.ns h_4, attrs := HN.attrs h_4 }) else Option.bind (Prod.fst x) fun (i : Nat) => Option.bind (Option.some i) fun (i : Nat) => Option.bind (Prod.snd (Prod.snd x))[i]? fun (h_1 : HN) => Option.bind (Prod.fst x) fun (i_1 : Nat) => Option.bind (Option.some i_1) fun (i_2 : Nat) => Option.bind (List.set (Prod.snd (Prod.snd x)) i { par := HN.par h_1, fst := Prod.fst (Prod.snd x), lst := HN.lst h_1, prv := HN.prv h_1, nxt := HN.nxt h_1, ty := HN.ty h_1, atom := HN.atom h_1, data := HN.data h_1, ns := HN.ns h_1, attrs := HN.attrs h_1 })[i_2]? fun (h_2 : HN) => Option.bind (Prod.fst (Prod.snd x)) fun (i_3 : Nat) => Option.bind (Option.some i_3) fun (i_4 : Nat) => Option.bind (List.set (List.set (Prod.snd (Prod.snd x)) i { par := HN.par h_1, fst := Prod.fst (Prod.snd x), lst := HN.lst h_1, prv := HN.prv h_1, nxt := HN.nxt h_1, ty := HN.ty h_1, atom := HN.atom h_1, data := HN.data h_1, ns := HN.ns h_1, attrs := HN.attrs h_1 }) i_2 { par := HN.par h_2, fst := HN.fst h_2, lst := Prod.fst (Prod.snd x), prv := HN.prv h_2, nxt := HN.nxt h_2, ty := HN.ty h_2, atom := HN.atom h_2, data := HN.data h_2, ns := HN.ns h_2, attrs := HN.attrs h_2 })[i_4]? fun (h_3 : HN) => Option.bind (Prod.fst (Prod.snd x)) fun (i_5 : Nat) => Option.bind (Option.some i_5) fun (i_6 : Nat) => Option.bind (List.set (List.set (List.set (Prod.snd (Prod.snd x)) i { par := HN.par h_1, fst := Prod.fst (Prod.snd x), lst := HN.lst h_1, prv := HN.prv h_1, nxt := HN.nxt h_1, ty := HN.ty h_1, atom := HN.atom h_1, data := HN.data h_1, ns := HN.ns h_1, attrs := HN.attrs h_1 }) i_2 { par := HN.par h_2, fst := HN.fst h_2, lst := Prod.fst (Prod.snd x), prv := HN.prv h_2, nxt := HN.nxt h_2, ty := HN.ty h_2, atom := HN.atom h_2, data := HN.data h_2, ns := HN.ns h_2, attrs := HN.attrs h_2 }) i_4 { par := Prod.fst x, fst := HN.fst h_3, lst := HN.lst h_3, prv := HN.prv h_3, nxt := HN.nxt h_3, ty := HN.ty h_3, atom := HN.atom h_3, data := HN.data h_3, ns := HN.ns h_3, attrs := HN.attrs h_3 })[i_6]? fun (h_4 : HN) => Option.some (List.set (List.set (List.set (List.set (Prod.snd (Prod.snd x)) i { par := HN.par h_1, fst := Prod.fst (Prod.snd x), lst := HN.lst h_1, prv := HN.prv h_1, nxt := HN.nxt h_1, ty := HN.ty h_1, atom := HN.atom h_1, data := HN.data h_1, ns := HN.ns h_1, attrs := HN.attrs h_1 }) i_2 { par := HN.par h_2, fst := HN.fst h_2, lst := Prod.fst (Prod.snd x), prv := HN.prv h_2, nxt := HN.nxt h_2, ty := HN.ty h_2, atom := HN.atom h_2, data := HN.data h_2, ns := HN.ns h_2, attrs := HN.attrs h_2 }) i_4 { par := Prod.fst x, fst := HN.fst h_3, lst := HN.lst h_3, prv := HN.prv h_3, nxt := HN.nxt h_3, ty := HN.ty h_3, atom := HN.atom h_3, data := HN.data h_3, ns := HN.ns h_3, attrs := HN.attrs h_3 }) i_6 { par := HN.par h_4, fst := HN.fst h_4, lst := HN.lst h_4, prv := HN.lst h, nxt := HN.nxt h_4, ty := HN.ty h_4, atom := HN.atom h_4, data := HN.data h_4, ns := HN.ns h_4, attrs := HN.attrs h_4 })

noncomputable def cx_html_Node_AppendChild : Cx := ⟨tb, lookE [], lookS []⟩

theorem ck_html_Node_AppendChild : CxOK Try.prog (cx_html_Node_AppendChild) := cx_ok tb_ok .nil

noncomputable def e_html_Node_AppendChild : Ent := ⟨0, p_html_Node_AppendChild, q_html_Node_AppendChild, m_html_Node_AppendChild⟩
theorem ok_html_Node_AppendChild : FnOK Try.prog 85 e_html_Node_AppendChild := fn_ok (L := lookL []) ck_html_Node_AppendChild mixed Try.func85 rfl (by kernel_rfl) (by kernel_rfl) (ls_ok (l := []) (by kernel_rfl) .nil) (by intro x; kernel_rfl)

/-! impl.grow -/
abbrev p_impl_grow : Pt := [(0, .lst .node), (1, .int .i64), (2, .own .np 76), (NT, .ns .h 126 168)]
abbrev q_impl_grow : Pt := [(1002, .own .np 76), (NT, .ns .h 126 168)]

abbrev p_impl_grow_0 : Pt := [(0, .lst .node), (1, .int .i64), (2, .own .np 76), (6, .int .i64), (NT, .ns .h 126 168)]
abbrev x_impl_grow_0 : List (Xt × Pt) := [(.ex 0, [(2, .own .np 76), (NT, .ns .h 126 168)])]
noncomputable def m_impl_grow_0 (m_impl_grow : Tup p_impl_grow → Option (Tup q_impl_grow)) : Tup p_impl_grow_0 → Option (Stp (Tup p_impl_grow_0) (SumT (x_impl_grow_0.map (·.2)))) := fun (x : List Node × Int × List (Option Nat) × Int × List HN) => Option.bind (atI (Prod.fst x) (Prod.fst (Prod.snd x))) fun (v : Node) => bif Decidable.decide (Prod.fst (Prod.snd (Prod.snd (Prod.snd x))) < Go.IntKind.wrap Go.IntKind.i64 (Prod.fst (Prod.snd x) + Node.size v)) then Option.bind (m_impl_grow (Prod.fst x, Prod.fst (Prod.snd (Prod.snd (Prod.snd x))), Prod.fst (Prod.snd (Prod.snd x)), Prod.snd (Prod.snd (Prod.snd (Prod.snd x))))) fun (r : List (Option Nat) × List HN) => Option.bind (atI (Prod.fst r) (Prod.fst (Prod.snd x))) fun (x_1 : Option Nat) => Option.bind (Prod.fst r)[Int.toNat (Prod.fst (Prod.snd x))]? fun (v : Option Nat) => Option.bind (atI (Prod.fst r) (Prod.fst (Prod.snd (Prod.snd (Prod.snd x))))) fun (x_2 : Option Nat) => Option.bind (Prod.fst r)[Int.toNat (Prod.fst (Prod.snd (Prod.snd (Prod.snd x))))]? fun (v_1 : Option Nat) => Option.bind (m_html_Node_AppendChild (v, v_1, Prod.snd r)) fun (r_1 : List HN) => Option.bind (atI (Prod.fst x) (Prod.fst (Prod.snd (Prod.snd (Prod.snd x))))) fun (v : Node) => Option.some (Stp.nx (Prod.fst x, Prod.fst (Prod.snd x), Prod.fst r, Go.IntKind.wrap Go.IntKind.i64 (Prod.fst (Prod.snd (Prod.snd (Prod.snd x))) + Node.size v), r_1)) else Option.some (Stp.out (Prod.fst (Prod.snd (Prod.snd x)), Prod.snd (Prod.snd (Prod.snd (Prod.snd x)))))

noncomputable def b_impl_grow (m_impl_grow : Tup p_impl_grow → Option (Tup q_impl_grow)) : Tup p_impl_grow → Option (Tup q_impl_grow) := fun (x : List Node × Int × List (Option Nat) × List HN) => Option.bind (atI (Prod.fst x) (Prod.fst (Prod.snd x))) fun (v : Node) => Option.bind (m_impl_alone ({ kind := Node.kind v, tag := Node.tag v, text := Node.text v, attrs := Node.attrs v, size := Node.size v }, Prod.snd (Prod.snd (Prod.snd x)))) fun (r : Option Nat × List HN) => Option.bind (atI (Prod.fst (Prod.snd (Prod.snd x))) (Prod.fst (Prod.snd x))) fun (x_1 : Option Nat) => Option.bind (Prod.fst (Prod.snd (Prod.snd x)))[Int.toNat (Prod.fst (Prod.snd x))]? fun (v : Option Nat) => Option.bind (loopO (m_impl_grow_0 m_impl_grow) (Prod.fst x, Prod.fst (Prod.snd x), List.set (Prod.fst (Prod.snd (Prod.snd x))) (Int.toNat (Prod.fst (Prod.snd x))) (Prod.fst r), Go.IntKind.wrap Go.IntKind.i64 (Prod.fst (Prod.snd x) + (1 : Int)), Prod.snd r)) fun (y : List (Option Nat) × List HN) => Option.some (Prod.fst y, Prod.snd y)

noncomputable def m_impl_grow : Nat → Tup p_impl_grow → Option (Tup q_impl_grow)
  | 0 => fun _ => none
  | n + 1 => b_impl_grow (m_impl_grow n)

noncomputable def cx_impl_grow (n : Nat) : Cx := ⟨tb, lookE [(127, e_impl_alone), (101, ⟨2003, p_impl_grow, q_impl_grow, m_impl_grow n⟩), (85, e_html_Node_AppendChild)], lookS [(5, [(true, 0), (true, 1), (true, 2), (true, 3), (true, 4), (true, 5), (true, 6), (true, 7), (false, 8)])]⟩

theorem ck_impl_grow (n : Nat) (ih0 : FnOK Try.prog 101 ⟨2003, p_impl_grow, q_impl_grow, m_impl_grow n⟩) : CxOK Try.prog (cx_impl_grow n) := cx_ok tb_ok (.cons ok_impl_alone Try.call127 (.cons ih0 Try.call101 (.cons ok_html_Node_AppendChild Try.call85 .nil)))

noncomputable def c_impl_grow_0 : Code := loopAt (Go.Proofs.Try.f101.body.getD .skip) 0

noncomputable def l_impl_grow_0 (n : Nat) : LEnt := ⟨p_impl_grow_0, x_impl_grow_0, loopO (m_impl_grow_0 (m_impl_grow n))⟩

theorem lo_impl_grow_0 (n : Nat) (ih0 : FnOK Try.prog 101 ⟨2003, p_impl_grow, q_impl_grow, m_impl_grow n⟩) : LOK Try.prog 46 2003 true (l_impl_grow_0 n) c_impl_grow_0 := loop_ok (body := m_impl_grow_0 (m_impl_grow n)) (L := lookL []) (ck_impl_grow n ih0) mixed (ls_ok (l := []) (by kernel_rfl) .nil) (by intro x; kernel_rfl) (fun x y h => loopO_iff.1 h)

theorem st_impl_grow (n : Nat) (ih0 : FnOK Try.prog 101 ⟨2003, p_impl_grow, q_impl_grow, m_impl_grow n⟩) : FnOK Try.prog 101 ⟨2003, p_impl_grow, q_impl_grow, m_impl_grow (n + 1)⟩ := fn_ok (ent := ⟨2003, p_impl_grow, q_impl_grow, m_impl_grow (n + 1)⟩) (L := lookL [(0, l_impl_grow_0 n)]) (ck_impl_grow n ih0) mixed Try.func101 rfl (by kernel_rfl) (by kernel_rfl) (ls_ok (l := [(0, c_impl_grow_0)]) (by kernel_rfl) (.cons rfl (lo_impl_grow_0 n ih0) .nil)) (by intro x; kernel_rfl)

theorem ok0_impl_grow : ∀ n, FnOK Try.prog 101 ⟨2003, p_impl_grow, q_impl_grow, m_impl_grow n⟩
  | 0 => fun x r h => by cases h
  | n + 1 => (fun ih => st_impl_grow n ih) (ok0_impl_grow n)

noncomputable def e_impl_grow : Ent := ⟨2003, p_impl_grow, q_impl_grow, m_impl_grow big⟩
theorem ok_impl_grow : FnOK Try.prog 101 e_impl_grow := (ok0_impl_grow big)

/-! impl.grown -/
abbrev p_impl_grown : Pt := [(0, .lst .node), (NT, .ns .h 126 168)]
abbrev q_impl_grown : Pt := [(0, .own .np 76), (1, .bool), (NT, .ns .h 126 168)]

noncomputable def m_impl_grown : Tup p_impl_grown → Option (Tup q_impl_grown) := fun (x : List Node × List HN) => Option.bind (m_impl_right (Prod.fst x)) fun (r : Bool) => bif !r then Option.some ([], Bool.false, Prod.snd x) else bif Decidable.decide ((↑(List.length (Prod.fst x)) : Int) ≤ (↑(List.length (Prod.fst x)) : Int) ∧ (0 : Int) ≤ (↑(List.length (Prod.fst x)) : Int) ∧ (↑(List.length (Prod.fst x)) : Int) ≤ (1048576 : Int)) then Option.bind (m_impl_grow big (Prod.fst x, (0 : Int), List.replicate (Int.toNat (↑(List.length (Prod.fst x)) : Int)) Option.none, Prod.snd x)) fun (r : List (Option Nat) × List HN) => Option.some (Prod.fst r, Bool.true, Prod.snd r) else Option.none

noncomputable def cx_impl_grown : Cx := ⟨tb, lookE [(100, e_impl_right), (101, e_impl_grow)], lookS []⟩

theorem ck_impl_grown : CxOK Try.prog (cx_impl_grown) := cx_ok tb_ok (.cons ok_impl_right Try.call100 (.cons ok_impl_grow Try.call101 .nil))

noncomputable def e_impl_grown : Ent := ⟨0, p_impl_grown, q_impl_grown, m_impl_grown⟩
theorem ok_impl_grown : FnOK Try.prog 71 e_impl_grown := fn_ok (L := lookL []) ck_impl_grown mixed Try.func71 rfl (by kernel_rfl) (by kernel_rfl) (ls_ok (l := []) (by kernel_rfl) .nil) (by intro x; kernel_rfl)

/-! impl.these -/
abbrev p_impl_these : Pt := [(0, .lst .np), (1, .lst .int)]
abbrev q_impl_these : Pt := [(0, .own .np 76), (1, .bool)]

abbrev p_impl_these_0 : Pt := [(0, .lst .np), (6, .own .np 76), (9, .lst .int), (10, .int .i64), (11, .int .i64)]
abbrev x_impl_these_0 : List (Xt × Pt) := [(.ex 0, [(6, .own .np 76)]), (.rt, [(4, .own .np 76), (5, .bool)])]
noncomputable def m_impl_these_0 : Tup p_impl_these_0 → Option (Stp (Tup p_impl_these_0) (SumT (x_impl_these_0.map (·.2)))) := fun (x : List (Option Nat) × List (Option Nat) × List Int × Int × Int) => bif Decidable.decide (Prod.snd (Prod.snd (Prod.snd (Prod.snd x))) < Prod.fst (Prod.snd (Prod.snd (Prod.snd x)))) then Option.bind (atI (Prod.fst (Prod.snd (Prod.snd x))) (Prod.snd (Prod.snd (Prod.snd (Prod.snd x))))) fun (v : Int) => bif Decidable.decide (v < (0 : Int)) then Option.some (Stp.out (Sum.inr ([], Bool.false))) else bif Decidable.decide ((↑(List.length (Prod.fst x)) : Int) ≤ v) then Option.some (Stp.out (Sum.inr ([], Bool.false))) else Option.bind (atI (Prod.fst x) v) fun (v : Option Nat) => Option.bind (appL (Prod.fst (Prod.snd x)) [v]) fun (r : List (Option Nat)) => Option.some (Stp.nx (Prod.fst x, r, Prod.fst (Prod.snd (Prod.snd x)), Prod.fst (Prod.snd (Prod.snd (Prod.snd x))), Go.IntKind.wrap Go.IntKind.i64 (Prod.snd (Prod.snd (Prod.snd (Prod.snd x))) + (1 : Int)))) else Option.some (Stp.out (Sum.inl (Prod.fst (Prod.snd x))))

noncomputable def m_impl_these : Tup p_impl_these → Option (Tup q_impl_these) := fun (x : List (Option Nat) × List Int) => Option.bind (loopO m_impl_these_0 (Prod.fst x, [], Prod.snd x, (↑(List.length (Prod.snd x)) : Int), (0 : Int))) fun (y : List (Option Nat) ⊕ List (Option Nat) × Bool) => selim (fun (y : List (Option Nat)) => Option.some (y, Bool.true)) (fun (y : List (Option Nat) × Bool) => Option.some (Prod.fst y, Prod.snd y)) y

noncomputable def cx_impl_these : Cx := ⟨tb, lookE [], lookS []⟩

theorem ck_impl_these : CxOK Try.prog (cx_impl_these) := cx_ok tb_ok .nil

noncomputable def c_impl_these_0 : Code := loopAt (Go.Proofs.Try.f52.body.getD .skip) 0

noncomputable def l_impl_these_0 : LEnt := ⟨p_impl_these_0, x_impl_these_0, loopO (m_impl_these_0)⟩

theorem lo_impl_these_0 : LOK Try.prog 32 0 false (l_impl_these_0) c_impl_these_0 := loop_ok (body := m_impl_these_0) (L := lookL []) (ck_impl_these) mixed (ls_ok (l := []) (by kernel_rfl) .nil) (by intro x; kernel_rfl) (fun x y h => loopO_iff.1 h)

noncomputable def e_impl_these : Ent := ⟨0, p_impl_these, q_impl_these, m_impl_these⟩
theorem ok_impl_these : FnOK Try.prog 52 e_impl_these := fn_ok (L := lookL [(0, l_impl_these_0)]) ck_impl_these mixed Try.func52 rfl (by kernel_rfl) (by kernel_rfl) (ls_ok (l := [(0, c_impl_these_0)]) (by kernel_rfl) (.cons rfl (lo_impl_these_0) .nil)) (by intro x; kernel_rfl)

/-! impl.placeOf -/
abbrev p_impl_placeOf : Pt := [(0, .lst .np), (1, .np)]
abbrev q_impl_placeOf : Pt := [(0, .int .i64)]

abbrev p_impl_placeOf_0 : Pt := [(0, .lst .np), (1, .np), (7, .int .i64), (8, .int .i64)]
abbrev x_impl_placeOf_0 : List (Xt × Pt) := [(.ex 0, []), (.rt, [(4, .int .i64)])]
noncomputable def m_impl_placeOf_0 : Tup p_impl_placeOf_0 → Option (Stp (Tup p_impl_placeOf_0) (SumT (x_impl_placeOf_0.map (·.2)))) := fun (x : List (Option Nat) × Option Nat × Int × Int) => bif Decidable.decide (Prod.snd (Prod.snd (Prod.snd x)) < Prod.fst (Prod.snd (Prod.snd x))) then Option.bind (atI (Prod.fst x) (Prod.snd (Prod.snd (Prod.snd x)))) fun (v : Option Nat) => bif Decidable.decide (v = Prod.fst (Prod.snd x)) then Option.some (Stp.out (Sum.inr (Prod.snd (Prod.snd (Prod.snd x))))) else Option.some (Stp.nx (Prod.fst x, Prod.fst (Prod.snd x), Prod.fst (Prod.snd (Prod.snd x)), Go.IntKind.wrap Go.IntKind.i64 (Prod.snd (Prod.snd (Prod.snd x)) + (1 : Int)))) else Option.some (Stp.out (Sum.inl PUnit.unit))

noncomputable def m_impl_placeOf : Tup p_impl_placeOf → Option (Tup q_impl_placeOf) := fun (x : List (Option Nat) × Option Nat) => Option.bind (loopO m_impl_placeOf_0 (Prod.fst x, Prod.snd x, (↑(List.length (Prod.fst x)) : Int), (0 : Int))) fun (y : PUnit ⊕ Int) => selim (fun (y : PUnit) => Option.some (-1 : Int)) (fun (y : Int) => Option.some y) y

noncomputable def cx_impl_placeOf : Cx := ⟨tb, lookE [], lookS []⟩

theorem ck_impl_placeOf : CxOK Try.prog (cx_impl_placeOf) := cx_ok tb_ok .nil

noncomputable def c_impl_placeOf_0 : Code := loopAt (Go.Proofs.Try.f117.body.getD .skip) 0

noncomputable def l_impl_placeOf_0 : LEnt := ⟨p_impl_placeOf_0, x_impl_placeOf_0, loopO (m_impl_placeOf_0)⟩

theorem lo_impl_placeOf_0 : LOK Try.prog 19 0 false (l_impl_placeOf_0) c_impl_placeOf_0 := loop_ok (body := m_impl_placeOf_0) (L := lookL []) (ck_impl_placeOf) mixed (ls_ok (l := []) (by kernel_rfl) .nil) (by intro x; kernel_rfl) (fun x y h => loopO_iff.1 h)

noncomputable def e_impl_placeOf : Ent := ⟨0, p_impl_placeOf, q_impl_placeOf, m_impl_placeOf⟩
theorem ok_impl_placeOf : FnOK Try.prog 117 e_impl_placeOf := fn_ok (L := lookL [(0, l_impl_placeOf_0)]) ck_impl_placeOf mixed Try.func117 rfl (by kernel_rfl) (by kernel_rfl) (ls_ok (l := [(0, c_impl_placeOf_0)]) (by kernel_rfl) (.cons rfl (lo_impl_placeOf_0) .nil)) (by intro x; kernel_rfl)

/-! impl.placesOf -/
abbrev p_impl_placesOf : Pt := [(0, .lst .np), (1, .lst .np)]
abbrev q_impl_placesOf : Pt := [(0, .own .int 3)]

abbrev p_impl_placesOf_0 : Pt := [(0, .lst .np), (5, .own .int 3), (8, .lst .np), (9, .int .i64), (10, .int .i64)]
abbrev x_impl_placesOf_0 : List (Xt × Pt) := [(.ex 0, [(5, .own .int 3)])]
noncomputable def m_impl_placesOf_0 : Tup p_impl_placesOf_0 → Option (Stp (Tup p_impl_placesOf_0) (SumT (x_impl_placesOf_0.map (·.2)))) := fun (x : List (Option Nat) × List Int × List (Option Nat) × Int × Int) => bif Decidable.decide (Prod.snd (Prod.snd (Prod.snd (Prod.snd x))) < Prod.fst (Prod.snd (Prod.snd (Prod.snd x)))) then Option.bind (atI (Prod.fst (Prod.snd (Prod.snd x))) (Prod.snd (Prod.snd (Prod.snd (Prod.snd x))))) fun (v : Option Nat) => Option.bind (m_impl_placeOf (Prod.fst x, v)) fun (r : Int) => Option.bind (appL (Prod.fst (Prod.snd x)) [r]) fun (r : List Int) => Option.some (Stp.nx (Prod.fst x, r, Prod.fst (Prod.snd (Prod.snd x)), Prod.fst (Prod.snd (Prod.snd (Prod.snd x))), Go.IntKind.wrap Go.IntKind.i64 (Prod.snd (Prod.snd (Prod.snd (Prod.snd x))) + (1 : Int)))) else Option.some (Stp.out (Prod.fst (Prod.snd x)))

noncomputable def m_impl_placesOf : Tup p_impl_placesOf → Option (Tup q_impl_placesOf) := fun (x : List (Option Nat) × List (Option Nat)) => Option.bind (loopO m_impl_placesOf_0 (Prod.fst x, [], Prod.snd x, (↑(List.length (Prod.snd x)) : Int), (0 : Int))) fun (y : List Int) => Option.some y

noncomputable def cx_impl_placesOf : Cx := ⟨tb, lookE [(117, e_impl_placeOf)], lookS []⟩

theorem ck_impl_placesOf : CxOK Try.prog (cx_impl_placesOf) := cx_ok tb_ok (.cons ok_impl_placeOf Try.call117 .nil)

noncomputable def c_impl_placesOf_0 : Code := loopAt (Go.Proofs.Try.f86.body.getD .skip) 0

noncomputable def l_impl_placesOf_0 : LEnt := ⟨p_impl_placesOf_0, x_impl_placesOf_0, loopO (m_impl_placesOf_0)⟩

theorem lo_impl_placesOf_0 : LOK Try.prog 22 0 false (l_impl_placesOf_0) c_impl_placesOf_0 := loop_ok (body := m_impl_placesOf_0) (L := lookL []) (ck_impl_placesOf) mixed (ls_ok (l := []) (by kernel_rfl) .nil) (by intro x; kernel_rfl) (fun x y h => loopO_iff.1 h)

noncomputable def e_impl_placesOf : Ent := ⟨0, p_impl_placesOf, q_impl_placesOf, m_impl_placesOf⟩
theorem ok_impl_placesOf : FnOK Try.prog 86 e_impl_placesOf := fn_ok (L := lookL [(0, l_impl_placesOf_0)]) ck_impl_placesOf mixed Try.func86 rfl (by kernel_rfl) (by kernel_rfl) (ls_ok (l := [(0, c_impl_placesOf_0)]) (by kernel_rfl) (.cons rfl (lo_impl_placesOf_0) .nil)) (by intro x; kernel_rfl)

end Go.Proofs.Ytfmlpodcldhgdaa.V
