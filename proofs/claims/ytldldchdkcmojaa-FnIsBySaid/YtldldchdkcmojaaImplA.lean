/-
  Models of functions, and that they are what the code does (written by a program).
-/
import Derived.Test.YtldldchdkcmojaaKTab
import Derived.Test.YtldldchdkcmojaaSpecA
set_option linter.unusedVariables false
set_option linter.unusedSimpArgs false
namespace Go.Proofs.Ytldldchdkcmojaa.V
open Go Go.Proofs

/-! impl.fits -/
abbrev p_impl_fits : Pt := [(0, .lst .node), (1, .int .i64), (2, .int .i64)]
abbrev q_impl_fits : Pt := [(0, .bool)]

abbrev p_impl_fits_0 : Pt := [(0, .lst .node), (1, .int .i64), (2, .int .i64)]
abbrev x_impl_fits_0 : List (Xt × Pt) := [(.ex 0, []), (.rt, [(6, .bool)])]
noncomputable def m_impl_fits_0 (m_impl_fits : Tup p_impl_fits → Option (Tup q_impl_fits)) : Tup p_impl_fits_0 → Option (Stp (Tup p_impl_fits_0) (SumT (x_impl_fits_0.map (·.2)))) := fun (x : List Node × Int × Int) => bif Decidable.decide (Prod.fst (Prod.snd x) < Prod.snd (Prod.snd x)) then Option.bind (atI (Prod.fst x) (Prod.fst (Prod.snd x))) fun (v : Node) => bif Decidable.decide (Node.size v < (1 : Int)) then Option.some (Stp.out (Sum.inr Bool.false)) else bif Decidable.decide (Go.IntKind.wrap Go.IntKind.i64 (Prod.snd (Prod.snd x) - Prod.fst (Prod.snd x)) < Node.size v) then Option.some (Stp.out (Sum.inr Bool.false)) else bif Decidable.decide (Node.kind v ≤ (1 : Int)) then Option.some (Stp.out (Sum.inr Bool.false)) else bif Decidable.decide ((5 : Int) < Node.kind v) then Option.some (Stp.out (Sum.inr Bool.false)) else bif Decidable.decide (Node.kind v ≠ (3 : Int)) then bif Decidable.decide ((1 : Int) < Node.size v) then Option.some (Stp.out (Sum.inr Bool.false)) else Option.bind (m_impl_fits (Prod.fst x, Go.IntKind.wrap Go.IntKind.i64 (Prod.fst (Prod.snd x) + (1 : Int)), Go.IntKind.wrap Go.IntKind.i64 (Prod.fst (Prod.snd x) + Node.size v))) fun (r : Bool) => bif !r then Option.some (Stp.out (Sum.inr Bool.false)) else Option.some (Stp.nx (Prod.fst x, Go.IntKind.wrap Go.IntKind.i64 (Prod.fst (Prod.snd x) + Node.size v), Prod.snd (Prod.snd x))) else Option.bind (m_impl_fits (Prod.fst x, Go.IntKind.wrap Go.IntKind.i64 (Prod.fst (Prod.snd x) + (1 : Int)), Go.IntKind.wrap Go.IntKind.i64 (Prod.fst (Prod.snd x) + Node.size v))) fun (r : Bool) => bif !r then Option.some (Stp.out (Sum.inr Bool.false)) else Option.some (Stp.nx (Prod.fst x, Go.IntKind.wrap Go.IntKind.i64 (Prod.fst (Prod.snd x) + Node.size v), Prod.snd (Prod.snd x))) else Option.some (Stp.out (Sum.inl PUnit.unit))

noncomputable def b_impl_fits (m_impl_fits : Tup p_impl_fits → Option (Tup q_impl_fits)) : Tup p_impl_fits → Option (Tup q_impl_fits) := fun (x : List Node × Int × Int) => Option.bind (loopO (m_impl_fits_0 m_impl_fits) (Prod.fst x, Prod.fst (Prod.snd x), Prod.snd (Prod.snd x))) fun (y : PUnit ⊕ Bool) => selim (fun (y : PUnit) => Option.some Bool.true) (fun (y : Bool) => Option.some y) y

noncomputable def m_impl_fits : Nat → Tup p_impl_fits → Option (Tup q_impl_fits)
  | 0 => fun _ => none
  | n + 1 => b_impl_fits (m_impl_fits n)

noncomputable def cx_impl_fits (n : Nat) : Cx := ⟨tb, lookE [(97, ⟨0, p_impl_fits, q_impl_fits, m_impl_fits n⟩)], lookS []⟩

theorem ck_impl_fits (n : Nat) (ih0 : FnOK Try.prog 97 ⟨0, p_impl_fits, q_impl_fits, m_impl_fits n⟩) : CxOK Try.prog (cx_impl_fits n) := cx_ok tb_ok (.cons ih0 Try.call97 .nil)

noncomputable def c_impl_fits_0 : Code := loopAt (Go.Proofs.Try.f97.body.getD .skip) 0

noncomputable def l_impl_fits_0 (n : Nat) : LEnt := ⟨p_impl_fits_0, x_impl_fits_0, loopO (m_impl_fits_0 (m_impl_fits n))⟩

theorem lo_impl_fits_0 (n : Nat) (ih0 : FnOK Try.prog 97 ⟨0, p_impl_fits, q_impl_fits, m_impl_fits n⟩) : LOK Try.prog 61 0 false (l_impl_fits_0 n) c_impl_fits_0 := loop_ok (body := m_impl_fits_0 (m_impl_fits n)) (L := lookL []) (ck_impl_fits n ih0) mixed (ls_ok (l := []) (by kernel_rfl) .nil) (by intro x; kernel_rfl) (fun x y h => loopO_iff.1 h)

theorem st_impl_fits (n : Nat) (ih0 : FnOK Try.prog 97 ⟨0, p_impl_fits, q_impl_fits, m_impl_fits n⟩) : FnOK Try.prog 97 ⟨0, p_impl_fits, q_impl_fits, m_impl_fits (n + 1)⟩ := fn_ok (ent := ⟨0, p_impl_fits, q_impl_fits, m_impl_fits (n + 1)⟩) (L := lookL [(0, l_impl_fits_0 n)]) (ck_impl_fits n ih0) mixed Try.func97 rfl (by kernel_rfl) (by kernel_rfl) (ls_ok (l := [(0, c_impl_fits_0)]) (by kernel_rfl) (.cons rfl (lo_impl_fits_0 n ih0) .nil)) (by intro x; kernel_rfl)

theorem ok0_impl_fits : ∀ n, FnOK Try.prog 97 ⟨0, p_impl_fits, q_impl_fits, m_impl_fits n⟩
  | 0 => fun x r h => by cases h
  | n + 1 => (fun ih => st_impl_fits n ih) (ok0_impl_fits n)

noncomputable def e_impl_fits : Ent := ⟨0, p_impl_fits, q_impl_fits, m_impl_fits big⟩
theorem ok_impl_fits : FnOK Try.prog 97 e_impl_fits := (ok0_impl_fits big)

/-! impl.right -/
abbrev p_impl_right : Pt := [(0, .lst .node)]
abbrev q_impl_right : Pt := [(0, .bool)]

noncomputable def m_impl_right : Tup p_impl_right → Option (Tup q_impl_right) := fun (x : List Node) => bif Decidable.decide ((↑(List.length x) : Int) = (0 : Int)) then Option.some Bool.false else Option.bind (atI x (0 : Int)) fun (v : Node) => bif Decidable.decide (Node.size v ≠ (↑(List.length x) : Int)) then Option.some Bool.false else Option.bind (atI x (0 : Int)) fun (v : Node) => bif Decidable.decide (Node.kind v = (1 : Int)) then Option.bind (m_impl_fits big (x, (1 : Int), (↑(List.length x) : Int))) fun (r : Bool) => Option.some r else Option.bind (m_impl_fits big (x, (0 : Int), (↑(List.length x) : Int))) fun (r : Bool) => Option.some r

noncomputable def cx_impl_right : Cx := ⟨tb, lookE [(97, e_impl_fits)], lookS []⟩

theorem ck_impl_right : CxOK Try.prog (cx_impl_right) := cx_ok tb_ok (.cons ok_impl_fits Try.call97 .nil)

noncomputable def e_impl_right : Ent := ⟨0, p_impl_right, q_impl_right, m_impl_right⟩
theorem ok_impl_right : FnOK Try.prog 65 e_impl_right := fn_ok (L := lookL []) ck_impl_right mixed Try.func65 rfl (by kernel_rfl) (by kernel_rfl) (ls_ok (l := []) (by kernel_rfl) .nil) (by intro x; kernel_rfl)

/-! impl.alone -/
abbrev p_impl_alone : Pt := [(0, .el .node), (NT, .ns 115 111)]
abbrev q_impl_alone : Pt := [(0, .np), (NT, .ns 115 111)]

abbrev p_impl_alone_0 : Pt := [(3, .np), (35, .lst .attr), (36, .int .i64), (37, .int .i64), (NT, .ns 115 111)]
abbrev x_impl_alone_0 : List (Xt × Pt) := [(.ex 1, [(3, .np), (NT, .ns 115 111)])]
noncomputable def m_impl_alone_0 : Tup p_impl_alone_0 → Option (Stp (Tup p_impl_alone_0) (SumT (x_impl_alone_0.map (·.2)))) := fun (x : Option Nat × List Attr × Int × Int × List HN) => bif Decidable.decide (Prod.fst (Prod.snd (Prod.snd (Prod.snd x))) < Prod.fst (Prod.snd (Prod.snd x))) then Option.bind (atI (Prod.fst (Prod.snd x)) (Prod.fst (Prod.snd (Prod.snd (Prod.snd x))))) fun (v : Attr) => Option.bind (Prod.fst x) fun (i : Nat) => Option.bind (Option.some i) fun (i : Nat) => Option.bind (Prod.snd (Prod.snd (Prod.snd (Prod.snd x))))[i]? fun (h : HN) => Option.bind (Prod.snd (Prod.snd (Prod.snd (Prod.snd x))))[i]? fun (h : HN) => Option.bind (appL (HN.attrs h) [{ ns := [], key := Attr.key v, val := Attr.val v }]) fun (r : List HAttr) => Option.bind (Prod.fst x) fun (i_1 : Nat) => Option.bind (Option.some i_1) fun (i_2 : Nat) => Option.bind (Prod.snd (Prod.snd (Prod.snd (Prod.snd x))))[i_2]? fun (h : HN) => bif Decidable.decide (i = i_2) then Option.some (Stp.nx (Prod.fst x, Prod.fst (Prod.snd x), Prod.fst (Prod.snd (Prod.snd x)), Go.IntKind.wrap Go.IntKind.i64 (Prod.fst (Prod.snd (Prod.snd (Prod.snd x))) + (1 : Int)), List.set (Prod.snd (Prod.snd (Prod.snd (Prod.snd x)))) i_2 { par := HN.par h, fst := HN.fst h, lst := HN.lst h, prv := HN.prv h, nxt := HN.nxt h, ty := HN.ty h, atom := HN.atom h, data := HN.data h, ns := HN.ns h, attrs := r })) else Option.none else Option.some (Stp.out (Prod.fst x, Prod.snd (Prod.snd (Prod.snd (Prod.snd x)))))

noncomputable def m_impl_alone : Tup p_impl_alone → Option (Tup q_impl_alone) := fun (x : Node × List HN) => bif Decidable.decide (Node.kind (Prod.fst x) = (1 : Int)) then Option.some (Option.some (List.length (Prod.snd x)), Prod.snd x ++ [{ par := Option.none, fst := Option.none, lst := Option.none, prv := Option.none, nxt := Option.none, ty := (2 : Int), atom := (0 : Int), data := [], ns := [], attrs := [] }]) else bif Decidable.decide (Node.kind (Prod.fst x) = (2 : Int)) then Option.some (Option.some (List.length (Prod.snd x)), Prod.snd x ++ [{ par := Option.none, fst := Option.none, lst := Option.none, prv := Option.none, nxt := Option.none, ty := (5 : Int), atom := (0 : Int), data := Node.text (Prod.fst x), ns := [], attrs := [] }]) else bif Decidable.decide (Node.kind (Prod.fst x) = (4 : Int)) then Option.some (Option.some (List.length (Prod.snd x)), Prod.snd x ++ [{ par := Option.none, fst := Option.none, lst := Option.none, prv := Option.none, nxt := Option.none, ty := (1 : Int), atom := (0 : Int), data := Node.text (Prod.fst x), ns := [], attrs := [] }]) else bif Decidable.decide (Node.kind (Prod.fst x) = (5 : Int)) then Option.some (Option.some (List.length (Prod.snd x)), Prod.snd x ++ [{ par := Option.none, fst := Option.none, lst := Option.none, prv := Option.none, nxt := Option.none, ty := (4 : Int), atom := (0 : Int), data := Node.text (Prod.fst x), ns := [], attrs := [] }]) else Option.bind (loopO m_impl_alone_0 (Option.some (List.length (Prod.snd x)), Node.attrs (Prod.fst x), (↑(List.length (Node.attrs (Prod.fst x))) : Int), (0 : Int), Prod.snd x ++ [{ par := Option.none, fst := Option.none, lst := Option.none, prv := Option.none, nxt := Option.none, ty := (3 : Int), atom := (0 : Int), data := Node.tag (Prod.fst x), ns := [], attrs := [] }])) fun (y : Option Nat × List HN) => Option.some (Prod.fst y, Prod.snd y)

noncomputable def cx_impl_alone : Cx := ⟨tb, lookE [], lookS []⟩

theorem ck_impl_alone : CxOK Try.prog (cx_impl_alone) := cx_ok tb_ok .nil

noncomputable def c_impl_alone_0 : Code := loopAt (Go.Proofs.Try.f98.body.getD .skip) 0

noncomputable def l_impl_alone_0 : LEnt := ⟨p_impl_alone_0, x_impl_alone_0, loopO (m_impl_alone_0)⟩

theorem lo_impl_alone_0 : LOK Try.prog 57 0 true (l_impl_alone_0) c_impl_alone_0 := loop_ok (body := m_impl_alone_0) (L := lookL []) (ck_impl_alone) mixed (ls_ok (l := []) (by kernel_rfl) .nil) (by intro x; kernel_rfl) (fun x y h => loopO_iff.1 h)

noncomputable def e_impl_alone : Ent := ⟨0, p_impl_alone, q_impl_alone, m_impl_alone⟩
theorem ok_impl_alone : FnOK Try.prog 98 e_impl_alone := fn_ok (L := lookL [(1, l_impl_alone_0)]) ck_impl_alone mixed Try.func98 rfl (by kernel_rfl) (by kernel_rfl) (ls_ok (l := [(1, c_impl_alone_0)]) (by kernel_rfl) (.cons rfl (lo_impl_alone_0) .nil)) (by intro x; kernel_rfl)

/-! (*html.Node).AppendChild -/
abbrev p_html_Node_AppendChild : Pt := [(0, .np), (1, .np), (NT, .ns 115 111)]
abbrev q_html_Node_AppendChild : Pt := [(NT, .ns 115 111)]

noncomputable def m_html_Node_AppendChild : Tup p_html_Node_AppendChild → Option (Tup q_html_Node_AppendChild) := fun (x : Option Nat × Option Nat × List HN) => Option.bind (Prod.fst (Prod.snd x)) fun (i : Nat) => Option.bind (Option.some i) fun (i : Nat) => Option.bind (Prod.snd (Prod.snd x))[i]? fun (h : HN) => bif !Option.isNone (HN.par h) then Option.none else Option.bind (Prod.fst (Prod.snd x)) fun (i : Nat) => Option.bind (Option.some i) fun (i : Nat) => Option.bind (Prod.snd (Prod.snd x))[i]? fun (h : HN) => bif !Option.isNone (HN.prv h) then Option.none else Option.bind (Prod.fst (Prod.snd x)) fun (i : Nat) => Option.bind (Option.some i) fun (i : Nat) => Option.bind (Prod.snd (Prod.snd x))[i]? fun (h : HN) => bif !Option.isNone (HN.nxt h) then Option.none else Option.bind (Prod.fst x) fun (i : Nat) => Option.bind (Option.some i) fun (i : Nat) => Option.bind (Prod.snd (Prod.snd x))[i]? fun (h : HN) => bif !Option.isNone (HN.lst h) then Option.bind (HN.lst h) fun (i : Nat) => Option.bind (Option.some i) fun (i : Nat) => Option.bind (Prod.snd (Prod.snd x))[i]? fun (h_1 : HN) => Option.bind (Prod.fst x) fun (i_1 : Nat) => Option.bind (Option.some i_1) fun (i_2 : Nat) => Option.bind (List.set (Prod.snd (Prod.snd x)) i { par := HN.par h_1, fst := HN.fst h_1, lst := HN.lst h_1, prv := HN.prv h_1, nxt := Prod.fst (Prod.snd x), ty := HN.ty h_1, atom := HN.atom h_1, data := HN.data h_1, ns := HN.ns h_1, attrs := HN.attrs h_1 })[i_2]? fun (h_2 : HN) => Option.bind (Prod.fst (Prod.snd x)) fun (i_3 : Nat) => Option.bind (Option.some i_3) fun (i_4 : Nat) => Option.bind (List.set (List.set (Prod.snd (Prod.snd x)) i { par := HN.par h_1, fst := HN.fst h_1, lst := HN.lst h_1, prv := HN.prv h_1, nxt := Prod.fst (Prod.snd x), ty := HN.ty h_1, atom := HN.atom h_1, data := HN.data h_1, ns := HN.ns h_1, attrs := HN.attrs h_1 }) i_2 { par := HN.par h_2, fst := HN.fst h_2, lst := Prod.fst (Prod.snd x), prv := HN.prv h_2, nxt := HN.nxt h_2, ty := HN.ty h_2, atom := HN.atom h_2, data := HN.data h_2, ns := HN.ns h_2, attrs := HN.attrs h_2 })[i_4]? fun (h_3 : HN) => Option.bind (Prod.fst (Prod.snd x)) fun (i_5 : Nat) => Option.bind (Option.some i_5) fun (i_6 : Nat) => Option.bind (List.set (List.set (List.set (Prod.snd (Prod.snd x)) i { par := HN.par h_1, fst := HN.fst h_1, lst := HN.lst h_1, prv := HN.prv h_1, nxt := Prod.fst (Prod.snd x), ty := HN.ty h_1, atom := HN.atom h_1, data := HN.data h_1, ns := HN.ns h_1, attrs := HN.attrs h_1 }) i_2 { par := HN.par h_2, fst := HN.fst h_2, lst := Prod.fst (Prod.snd x), prv := HN.prv h_2, nxt := HN.nxt h_2, ty := HN.ty h_2, atom := HN.atom h_2, data := HN.data h_2, ns := HN.ns h_2, attrs := HN.attrs h_2 }) i_4 { par := Prod.fst x, fst := HN.fst h_3, lst := HN.lst h_3, prv := HN.prv h_3, nxt := HN.nxt h_3, ty := HN.ty h_3, atom := HN.atom h_3, data := HN.data h_3, ns := HN.ns h_3, attrs := HN.attrs h_3 })[i_6]? fun (h_4 : HN) => Option.some (List.set (List.set (List.set (List.set (Prod.snd (Prod.snd x)) i { par := HN.par h_1, fst := HN.fst h_1, lst := HN.lst h_1, prv := HN.prv h_1, nxt := Prod.fst (Prod.snd x), ty := HN.ty h_1, atom := HN.atom h_1, data := HN.data h_1, ns := HN.ns h_1, attrs := HN.attrs h_1 }) i_2 { par := HN.par h_2, fst := HN.fst h_2, lst := Prod.fst (Prod.snd x), prv := HN.prv h_2, nxt := HN.nxt h_2, ty := HN.ty h_2, atom := HN.atom h_2, data := HN.data h_2, ns := HN.ns h_2, attrs := HN.attrs h_2 }) i_4 { par := Prod.fst x, fst := HN.fst h_3, lst := HN.lst h_3, prv := HN.prv h_3, nxt := HN.nxt h_3, ty := HN.ty h_3, atom := HN.atom h_3, data := HN.data h_3, ns := HN.ns h_3, attrs := HN.attrs h_3 }) i_6 { par := HN.par h_4, fst := HN.fst h_4, lst := HN.lst h_4, prv := HN.lst h, nxt := HN.nxt h_4, ty := HN.ty h_4, atom := HN.atom h_4, data := HN.data h_4, ns := HN.ns h_4, attrs := HN.attrs h_4 }) else Option.bind (Prod.fst x) fun (i : Nat) => Option.bind (Option.some i) fun (i : Nat) => Option.bind (Prod.snd (Prod.snd x))[i]? fun (h_1 : HN) => Option.bind (Prod.fst x) fun (i_1 : Nat) => Option.bind (Option.some i_1) fun (i_2 : Nat) => Option.bind (List.set (Prod.snd (Prod.snd x)) i { par := HN.par h_1, fst := Prod.fst (Prod.snd x), lst := HN.lst h_1, prv := HN.prv h_1, nxt := HN.nxt h_1, ty := HN.ty h_1, atom := HN.atom h_1, data := HN.data h_1, ns := HN.ns h_1, attrs := HN.attrs h_1 })[i_2]? fun (h_2 : HN) => Option.bind (Prod.fst (Prod.snd x)) fun (i_3 : Nat) => Option.bind (Option.some i_3) fun (i_4 : Nat) => Option.bind (List.set (List.set (Prod.snd (Prod.snd x)) i { par := HN.par h_1, fst := Prod.fst (Prod.snd x), lst := HN.lst h_1, prv := HN.prv h_1, nxt := HN.nxt h_1, ty := HN.ty h_1, atom := HN.atom h_1, data := HN.data h_1, ns := HN.ns h_1, attrs := HN.attrs h_1 }) i_2 { par := HN.par h_2, fst := HN.fst h_2, lst := Prod.fst (Prod.snd x), prv := HN.prv h_2, nxt := HN.nxt h_2, ty := HN.ty h_2, atom := HN.atom h_2, data := HN.data h_2, ns := HN.ns h_2, attrs := HN.attrs h_2 })[i_4]? fun (h_3 : HN) => Option.bind (Prod.fst (Prod.snd x)) fun (i_5 : Nat) => Option.bind (Option.some i_5) fun (i_6 : Nat) => Option.bind (List.set (List.set (List.set (Prod.snd (Prod.snd x)) i { par := HN.par h_1, fst := Prod.fst (Prod.snd x), lst := HN.lst h_1, prv := HN.prv h_1, nxt := HN.nxt h_1, ty := HN.ty h_1, atom := HN.atom h_1, data := HN.data h_1, ns := HN.ns h_1, attrs := HN.attrs h_1 }) i_2 { par := HN.par h_2, fst := HN.fst h_2, lst := Prod.fst (Prod.snd x), prv := HN.prv h_2, nxt := HN.nxt h_2, ty := HN.ty h_2, atom := HN.atom h_2, data := HN.data h_2, ns := HN.ns h_2, attrs := HN.attrs h_2 }) i_4 { par := Prod.fst x, fst := HN.fst h_3, lst := HN.lst h_3, prv := HN.prv h_3, nxt := HN.nxt h_3, ty := HN.ty h_3, atom := HN.atom h_3, data := HN.data h_3, ns := HN.ns h_3, attrs := HN.attrs h_3 })[i_6]? fun (h_4 : HN) => Option.some (List.set (List.set (List.set (List.set (Prod.snd (Prod.snd x)) i { par := HN.par h_1, fst := Prod.fst (Prod.snd x), lst := HN.lst h_1, prv := HN.prv h_1, nxt := HN.nxt h_1, ty := HN.ty h_1, atom := HN.atom h_1, data := HN.data h_1, ns := HN.ns h_1, attrs := HN.attrs h_1 }) i_2 { par := HN.par h_2, fst := HN.fst h_2, lst := Prod.fst (Prod.snd x), prv := HN.prv h_2, nxt := HN.nxt h_2, ty := HN.ty h_2, atom := HN.atom h_2, data := HN.data h_2, ns := HN.ns h_2, attrs := HN.attrs h_2 }) i_4 { par := Prod.fst x, fst := HN.fst h_3, lst := HN.lst h_3, prv := HN.prv h_3, nxt := HN.nxt h_3, ty := HN.ty h_3, atom := HN.atom h_3, data := HN.data h_3, ns := HN.ns h_3, attrs := HN.attrs h_3 }) i_6 { par := HN.par h_4, fst := HN.fst h_4, lst := HN.lst h_4, prv := HN.lst h, nxt := HN.nxt h_4, ty := HN.ty h_4, atom := HN.atom h_4, data := HN.data h_4, ns := HN.ns h_4, attrs := HN.attrs h_4 })

noncomputable def cx_html_Node_AppendChild : Cx := ⟨tb, lookE [], lookS []⟩

theorem ck_html_Node_AppendChild : CxOK Try.prog (cx_html_Node_AppendChild) := cx_ok tb_ok .nil

noncomputable def e_html_Node_AppendChild : Ent := ⟨0, p_html_Node_AppendChild, q_html_Node_AppendChild, m_html_Node_AppendChild⟩
theorem ok_html_Node_AppendChild : FnOK Try.prog 99 e_html_Node_AppendChild := fn_ok (L := lookL []) ck_html_Node_AppendChild mixed Try.func99 rfl (by kernel_rfl) (by kernel_rfl) (ls_ok (l := []) (by kernel_rfl) .nil) (by intro x; kernel_rfl)

/-! impl.grow -/
abbrev p_impl_grow : Pt := [(0, .lst .node), (1, .int .i64), (2, .own .np 65), (NT, .ns 115 111)]
abbrev q_impl_grow : Pt := [(1002, .own .np 65), (NT, .ns 115 111)]

abbrev p_impl_grow_0 : Pt := [(0, .lst .node), (1, .int .i64), (2, .own .np 65), (6, .int .i64), (NT, .ns 115 111)]
abbrev x_impl_grow_0 : List (Xt × Pt) := [(.ex 0, [(2, .own .np 65), (NT, .ns 115 111)])]
noncomputable def m_impl_grow_0 (m_impl_grow : Tup p_impl_grow → Option (Tup q_impl_grow)) : Tup p_impl_grow_0 → Option (Stp (Tup p_impl_grow_0) (SumT (x_impl_grow_0.map (·.2)))) := fun (x : List Node × Int × List (Option Nat) × Int × List HN) => Option.bind (atI (Prod.fst x) (Prod.fst (Prod.snd x))) fun (v : Node) => bif Decidable.decide (Prod.fst (Prod.snd (Prod.snd (Prod.snd x))) < Go.IntKind.wrap Go.IntKind.i64 (Prod.fst (Prod.snd x) + Node.size v)) then Option.bind (m_impl_grow (Prod.fst x, Prod.fst (Prod.snd (Prod.snd (Prod.snd x))), Prod.fst (Prod.snd (Prod.snd x)), Prod.snd (Prod.snd (Prod.snd (Prod.snd x))))) fun (r : List (Option Nat) × List HN) => Option.bind (atI (Prod.fst r) (Prod.fst (Prod.snd x))) fun (x_1 : Option Nat) => Option.bind (Prod.fst r)[Int.toNat (Prod.fst (Prod.snd x))]? fun (v : Option Nat) => Option.bind (atI (Prod.fst r) (Prod.fst (Prod.snd (Prod.snd (Prod.snd x))))) fun (x_2 : Option Nat) => Option.bind (Prod.fst r)[Int.toNat (Prod.fst (Prod.snd (Prod.snd (Prod.snd x))))]? fun (v_1 : Option Nat) => Option.bind (m_html_Node_AppendChild (v, v_1, Prod.snd r)) fun (r_1 : List HN) => Option.bind (atI (Prod.fst x) (Prod.fst (Prod.snd (Prod.snd (Prod.snd x))))) fun (v : Node) => Option.some (Stp.nx (Prod.fst x, Prod.fst (Prod.snd x), Prod.fst r, Go.IntKind.wrap Go.IntKind.i64 (Prod.fst (Prod.snd (Prod.snd (Prod.snd x))) + Node.size v), r_1)) else Option.some (Stp.out (Prod.fst (Prod.snd (Prod.snd x)), Prod.snd (Prod.snd (Prod.snd (Prod.snd x)))))

noncomputable def b_impl_grow (m_impl_grow : Tup p_impl_grow → Option (Tup q_impl_grow)) : Tup p_impl_grow → Option (Tup q_impl_grow) := fun (x : List Node × Int × List (Option Nat) × List HN) => Option.bind (atI (Prod.fst x) (Prod.fst (Prod.snd x))) fun (v : Node) => Option.bind (m_impl_alone ({ kind := Node.kind v, tag := Node.tag v, text := Node.text v, attrs := Node.attrs v, size := Node.size v }, Prod.snd (Prod.snd (Prod.snd x)))) fun (r : Option Nat × List HN) => Option.bind (atI (Prod.fst (Prod.snd (Prod.snd x))) (Prod.fst (Prod.snd x))) fun (x_1 : Option Nat) => Option.bind (Prod.fst (Prod.snd (Prod.snd x)))[Int.toNat (Prod.fst (Prod.snd x))]? fun (v : Option Nat) => Option.bind (loopO (m_impl_grow_0 m_impl_grow) (Prod.fst x, Prod.fst (Prod.snd x), List.set (Prod.fst (Prod.snd (Prod.snd x))) (Int.toNat (Prod.fst (Prod.snd x))) (Prod.fst r), Go.IntKind.wrap Go.IntKind.i64 (Prod.fst (Prod.snd x) + (1 : Int)), Prod.snd r)) fun (y : List (Option Nat) × List HN) => Option.some (Prod.fst y, Prod.snd y)

noncomputable def m_impl_grow : Nat → Tup p_impl_grow → Option (Tup q_impl_grow)
  | 0 => fun _ => none
  | n + 1 => b_impl_grow (m_impl_grow n)

noncomputable def cx_impl_grow (n : Nat) : Cx := ⟨tb, lookE [(98, e_impl_alone), (66, ⟨2003, p_impl_grow, q_impl_grow, m_impl_grow n⟩), (99, e_html_Node_AppendChild)], lookS []⟩

theorem ck_impl_grow (n : Nat) (ih0 : FnOK Try.prog 66 ⟨2003, p_impl_grow, q_impl_grow, m_impl_grow n⟩) : CxOK Try.prog (cx_impl_grow n) := cx_ok tb_ok (.cons ok_impl_alone Try.call98 (.cons ih0 Try.call66 (.cons ok_html_Node_AppendChild Try.call99 .nil)))

noncomputable def c_impl_grow_0 : Code := loopAt (Go.Proofs.Try.f66.body.getD .skip) 0

noncomputable def l_impl_grow_0 (n : Nat) : LEnt := ⟨p_impl_grow_0, x_impl_grow_0, loopO (m_impl_grow_0 (m_impl_grow n))⟩

theorem lo_impl_grow_0 (n : Nat) (ih0 : FnOK Try.prog 66 ⟨2003, p_impl_grow, q_impl_grow, m_impl_grow n⟩) : LOK Try.prog 46 2003 true (l_impl_grow_0 n) c_impl_grow_0 := loop_ok (body := m_impl_grow_0 (m_impl_grow n)) (L := lookL []) (ck_impl_grow n ih0) mixed (ls_ok (l := []) (by kernel_rfl) .nil) (by intro x; kernel_rfl) (fun x y h => loopO_iff.1 h)

theorem st_impl_grow (n : Nat) (ih0 : FnOK Try.prog 66 ⟨2003, p_impl_grow, q_impl_grow, m_impl_grow n⟩) : FnOK Try.prog 66 ⟨2003, p_impl_grow, q_impl_grow, m_impl_grow (n + 1)⟩ := fn_ok (ent := ⟨2003, p_impl_grow, q_impl_grow, m_impl_grow (n + 1)⟩) (L := lookL [(0, l_impl_grow_0 n)]) (ck_impl_grow n ih0) mixed Try.func66 rfl (by kernel_rfl) (by kernel_rfl) (ls_ok (l := [(0, c_impl_grow_0)]) (by kernel_rfl) (.cons rfl (lo_impl_grow_0 n ih0) .nil)) (by intro x; kernel_rfl)

theorem ok0_impl_grow : ∀ n, FnOK Try.prog 66 ⟨2003, p_impl_grow, q_impl_grow, m_impl_grow n⟩
  | 0 => fun x r h => by cases h
  | n + 1 => (fun ih => st_impl_grow n ih) (ok0_impl_grow n)

noncomputable def e_impl_grow : Ent := ⟨2003, p_impl_grow, q_impl_grow, m_impl_grow big⟩
theorem ok_impl_grow : FnOK Try.prog 66 e_impl_grow := (ok0_impl_grow big)

/-! impl.grown -/
abbrev p_impl_grown : Pt := [(0, .lst .node), (NT, .ns 115 111)]
abbrev q_impl_grown : Pt := [(0, .own .np 65), (1, .bool), (NT, .ns 115 111)]

noncomputable def m_impl_grown : Tup p_impl_grown → Option (Tup q_impl_grown) := fun (x : List Node × List HN) => Option.bind (m_impl_right (Prod.fst x)) fun (r : Bool) => bif !r then Option.some ([], Bool.false, Prod.snd x) else bif Decidable.decide ((↑(List.length (Prod.fst x)) : Int) ≤ (↑(List.length (Prod.fst x)) : Int) ∧ (0 : Int) ≤ (↑(List.length (Prod.fst x)) : Int) ∧ (↑(List.length (Prod.fst x)) : Int) ≤ (1048576 : Int)) then Option.bind (m_impl_grow big (Prod.fst x, (0 : Int), List.replicate (Int.toNat (↑(List.length (Prod.fst x)) : Int)) Option.none, Prod.snd x)) fun (r : List (Option Nat) × List HN) => Option.some (Prod.fst r, Bool.true, Prod.snd r) else Option.none

noncomputable def cx_impl_grown : Cx := ⟨tb, lookE [(65, e_impl_right), (66, e_impl_grow)], lookS []⟩

theorem ck_impl_grown : CxOK Try.prog (cx_impl_grown) := cx_ok tb_ok (.cons ok_impl_right Try.call65 (.cons ok_impl_grow Try.call66 .nil))

noncomputable def e_impl_grown : Ent := ⟨0, p_impl_grown, q_impl_grown, m_impl_grown⟩
theorem ok_impl_grown : FnOK Try.prog 31 e_impl_grown := fn_ok (L := lookL []) ck_impl_grown mixed Try.func31 rfl (by kernel_rfl) (by kernel_rfl) (ls_ok (l := []) (by kernel_rfl) .nil) (by intro x; kernel_rfl)

end Go.Proofs.Ytldldchdkcmojaa.V
