/-
  Models of functions, and that they are what the code does (written by a program).
-/
import Derived.Test.YtldldchdkcmojaaKTab
set_option linter.unusedVariables false
set_option linter.unusedSimpArgs false
namespace Go.Proofs.Ytldldchdkcmojaa.V
open Go Go.Proofs

/-! spec.Kids -/
abbrev p_spec_Kids : Pt := [(0, .lst .node), (1, .int .i64)]
abbrev q_spec_Kids : Pt := [(0, .own .int 3)]

abbrev p_spec_Kids_0 : Pt := [(0, .lst .node), (1, .int .i64), (5, .own .int 3), (6, .int .i64)]
abbrev x_spec_Kids_0 : List (Xt × Pt) := [(.ex 0, [(5, .own .int 3)])]
noncomputable def m_spec_Kids_0 : Tup p_spec_Kids_0 → Option (Stp (Tup p_spec_Kids_0) (SumT (x_spec_Kids_0.map (·.2)))) := fun (x : List Node × Int × List Int × Int) => Option.bind (atI (Prod.fst x) (Prod.fst (Prod.snd x))) fun (v : Node) => bif Decidable.decide (Prod.snd (Prod.snd (Prod.snd x)) < Go.IntKind.wrap Go.IntKind.i64 (Prod.fst (Prod.snd x) + Node.size v)) then Option.bind (appL (Prod.fst (Prod.snd (Prod.snd x))) [Prod.snd (Prod.snd (Prod.snd x))]) fun (r : List Int) => Option.bind (atI (Prod.fst x) (Prod.snd (Prod.snd (Prod.snd x)))) fun (v : Node) => Option.some (Stp.nx (Prod.fst x, Prod.fst (Prod.snd x), r, Go.IntKind.wrap Go.IntKind.i64 (Prod.snd (Prod.snd (Prod.snd x)) + Node.size v))) else Option.some (Stp.out (Prod.fst (Prod.snd (Prod.snd x))))

noncomputable def m_spec_Kids : Tup p_spec_Kids → Option (Tup q_spec_Kids) := fun (x : List Node × Int) => Option.bind (loopO m_spec_Kids_0 (Prod.fst x, Prod.snd x, [], Go.IntKind.wrap Go.IntKind.i64 (Prod.snd x + (1 : Int)))) fun (y : List Int) => Option.some y

noncomputable def cx_spec_Kids : Cx := ⟨tb, lookE [], lookS []⟩

theorem ck_spec_Kids : CxOK Try.prog (cx_spec_Kids) := cx_ok tb_ok .nil

noncomputable def c_spec_Kids_0 : Code := loopAt (Go.Proofs.Try.f63.body.getD .skip) 0

noncomputable def l_spec_Kids_0 : LEnt := ⟨p_spec_Kids_0, x_spec_Kids_0, loopO (m_spec_Kids_0)⟩

theorem lo_spec_Kids_0 : LOK Try.prog 30 0 false (l_spec_Kids_0) c_spec_Kids_0 := loop_ok (body := m_spec_Kids_0) (L := lookL []) (ck_spec_Kids) mixed (ls_ok (l := []) (by kernel_rfl) .nil) (by intro x; kernel_rfl) (fun x y h => loopO_iff.1 h)

noncomputable def e_spec_Kids : Ent := ⟨0, p_spec_Kids, q_spec_Kids, m_spec_Kids⟩
theorem ok_spec_Kids : FnOK Try.prog 63 e_spec_Kids := fn_ok (L := lookL [(0, l_spec_Kids_0)]) ck_spec_Kids mixed Try.func63 rfl (by kernel_rfl) (by kernel_rfl) (ls_ok (l := [(0, c_spec_Kids_0)]) (by kernel_rfl) (.cons rfl (lo_spec_Kids_0) .nil)) (by intro x; kernel_rfl)

/-! spec.Parent -/
abbrev p_spec_Parent : Pt := [(0, .lst .node), (1, .int .i64)]
abbrev q_spec_Parent : Pt := [(0, .int .i64)]

abbrev p_spec_Parent_0 : Pt := [(0, .lst .node), (1, .int .i64), (5, .int .i64)]
abbrev x_spec_Parent_0 : List (Xt × Pt) := [(.ex 0, []), (.rt, [(4, .int .i64)])]
noncomputable def m_spec_Parent_0 : Tup p_spec_Parent_0 → Option (Stp (Tup p_spec_Parent_0) (SumT (x_spec_Parent_0.map (·.2)))) := fun (x : List Node × Int × Int) => bif Decidable.decide ((0 : Int) ≤ Prod.snd (Prod.snd x)) then Option.bind (atI (Prod.fst x) (Prod.snd (Prod.snd x))) fun (v : Node) => bif Decidable.decide (Prod.fst (Prod.snd x) < Go.IntKind.wrap Go.IntKind.i64 (Prod.snd (Prod.snd x) + Node.size v)) then Option.some (Stp.out (Sum.inr (Prod.snd (Prod.snd x)))) else Option.some (Stp.nx (Prod.fst x, Prod.fst (Prod.snd x), Go.IntKind.wrap Go.IntKind.i64 (Prod.snd (Prod.snd x) - (1 : Int)))) else Option.some (Stp.out (Sum.inl PUnit.unit))

noncomputable def m_spec_Parent : Tup p_spec_Parent → Option (Tup q_spec_Parent) := fun (x : List Node × Int) => Option.bind (loopO m_spec_Parent_0 (Prod.fst x, Prod.snd x, Go.IntKind.wrap Go.IntKind.i64 (Prod.snd x - (1 : Int)))) fun (y : PUnit ⊕ Int) => selim (fun (y : PUnit) => Option.some (-1 : Int)) (fun (y : Int) => Option.some y) y

noncomputable def cx_spec_Parent : Cx := ⟨tb, lookE [], lookS []⟩

theorem ck_spec_Parent : CxOK Try.prog (cx_spec_Parent) := cx_ok tb_ok .nil

noncomputable def c_spec_Parent_0 : Code := loopAt (Go.Proofs.Try.f47.body.getD .skip) 0

noncomputable def l_spec_Parent_0 : LEnt := ⟨p_spec_Parent_0, x_spec_Parent_0, loopO (m_spec_Parent_0)⟩

theorem lo_spec_Parent_0 : LOK Try.prog 22 0 false (l_spec_Parent_0) c_spec_Parent_0 := loop_ok (body := m_spec_Parent_0) (L := lookL []) (ck_spec_Parent) mixed (ls_ok (l := []) (by kernel_rfl) .nil) (by intro x; kernel_rfl) (fun x y h => loopO_iff.1 h)

noncomputable def e_spec_Parent : Ent := ⟨0, p_spec_Parent, q_spec_Parent, m_spec_Parent⟩
theorem ok_spec_Parent : FnOK Try.prog 47 e_spec_Parent := fn_ok (L := lookL [(0, l_spec_Parent_0)]) ck_spec_Parent mixed Try.func47 rfl (by kernel_rfl) (by kernel_rfl) (ls_ok (l := [(0, c_spec_Parent_0)]) (by kernel_rfl) (.cons rfl (lo_spec_Parent_0) .nil)) (by intro x; kernel_rfl)

/-! spec.sized -/
abbrev p_spec_sized : Pt := [(0, .lst .node), (1, .int .i64), (2, .int .i64), (3, .int .i64)]
abbrev q_spec_sized : Pt := [(0, .bool)]

abbrev p_spec_sized_0 : Pt := [(0, .lst .node), (1, .int .i64), (3, .int .i64), (9, .int .i64), (10, .int .i64)]
abbrev x_spec_sized_0 : List (Xt × Pt) := [(.ex 0, []), (.rt, [(8, .bool)])]
noncomputable def m_spec_sized_0 (m_spec_sized : Tup p_spec_sized → Option (Tup q_spec_sized)) : Tup p_spec_sized_0 → Option (Stp (Tup p_spec_sized_0) (SumT (x_spec_sized_0.map (·.2)))) := fun (x : List Node × Int × Int × Int × Int) => bif Decidable.decide (Prod.snd (Prod.snd (Prod.snd (Prod.snd x))) < Go.IntKind.wrap Go.IntKind.i64 (Prod.fst (Prod.snd x) + Prod.fst (Prod.snd (Prod.snd (Prod.snd x))))) then Option.bind (m_spec_sized (Prod.fst x, Prod.snd (Prod.snd (Prod.snd (Prod.snd x))), Go.IntKind.wrap Go.IntKind.i64 (Prod.fst (Prod.snd x) + Prod.fst (Prod.snd (Prod.snd (Prod.snd x)))), Go.IntKind.wrap Go.IntKind.i64 (Prod.fst (Prod.snd (Prod.snd x)) - (1 : Int)))) fun (r : Bool) => bif !r then Option.some (Stp.out (Sum.inr Bool.false)) else Option.bind (atI (Prod.fst x) (Prod.snd (Prod.snd (Prod.snd (Prod.snd x))))) fun (v : Node) => Option.some (Stp.nx (Prod.fst x, Prod.fst (Prod.snd x), Prod.fst (Prod.snd (Prod.snd x)), Prod.fst (Prod.snd (Prod.snd (Prod.snd x))), Go.IntKind.wrap Go.IntKind.i64 (Prod.snd (Prod.snd (Prod.snd (Prod.snd x))) + Node.size v))) else Option.some (Stp.out (Sum.inl PUnit.unit))

noncomputable def b_spec_sized (m_spec_sized : Tup p_spec_sized → Option (Tup q_spec_sized)) : Tup p_spec_sized → Option (Tup q_spec_sized) := fun (x : List Node × Int × Int × Int) => Option.bind (atI (Prod.fst x) (Prod.fst (Prod.snd x))) fun (v : Node) => bif Decidable.decide (Prod.snd (Prod.snd (Prod.snd x)) = (0 : Int)) then Option.some Bool.false else bif Decidable.decide (Node.size v < (1 : Int)) then Option.some Bool.false else bif Decidable.decide (Go.IntKind.wrap Go.IntKind.i64 (Prod.fst (Prod.snd (Prod.snd x)) - Prod.fst (Prod.snd x)) < Node.size v) then Option.some Bool.false else Option.bind (loopO (m_spec_sized_0 m_spec_sized) (Prod.fst x, Prod.fst (Prod.snd x), Prod.snd (Prod.snd (Prod.snd x)), Node.size v, Go.IntKind.wrap Go.IntKind.i64 (Prod.fst (Prod.snd x) + (1 : Int)))) fun (y : PUnit ⊕ Bool) => selim (fun (y : PUnit) => Option.some Bool.true) (fun (y : Bool) => Option.some y) y

noncomputable def m_spec_sized : Nat → Tup p_spec_sized → Option (Tup q_spec_sized)
  | 0 => fun _ => none
  | n + 1 => b_spec_sized (m_spec_sized n)

noncomputable def cx_spec_sized (n : Nat) : Cx := ⟨tb, lookE [(44, ⟨0, p_spec_sized, q_spec_sized, m_spec_sized n⟩)], lookS []⟩

theorem ck_spec_sized (n : Nat) (ih0 : FnOK Try.prog 44 ⟨0, p_spec_sized, q_spec_sized, m_spec_sized n⟩) : CxOK Try.prog (cx_spec_sized n) := cx_ok tb_ok (.cons ih0 Try.call44 .nil)

noncomputable def c_spec_sized_0 : Code := loopAt (Go.Proofs.Try.f44.body.getD .skip) 0

noncomputable def l_spec_sized_0 (n : Nat) : LEnt := ⟨p_spec_sized_0, x_spec_sized_0, loopO (m_spec_sized_0 (m_spec_sized n))⟩

theorem lo_spec_sized_0 (n : Nat) (ih0 : FnOK Try.prog 44 ⟨0, p_spec_sized, q_spec_sized, m_spec_sized n⟩) : LOK Try.prog 52 0 false (l_spec_sized_0 n) c_spec_sized_0 := loop_ok (body := m_spec_sized_0 (m_spec_sized n)) (L := lookL []) (ck_spec_sized n ih0) mixed (ls_ok (l := []) (by kernel_rfl) .nil) (by intro x; kernel_rfl) (fun x y h => loopO_iff.1 h)

theorem st_spec_sized (n : Nat) (ih0 : FnOK Try.prog 44 ⟨0, p_spec_sized, q_spec_sized, m_spec_sized n⟩) : FnOK Try.prog 44 ⟨0, p_spec_sized, q_spec_sized, m_spec_sized (n + 1)⟩ := fn_ok (ent := ⟨0, p_spec_sized, q_spec_sized, m_spec_sized (n + 1)⟩) (L := lookL [(0, l_spec_sized_0 n)]) (ck_spec_sized n ih0) mixed Try.func44 rfl (by kernel_rfl) (by kernel_rfl) (ls_ok (l := [(0, c_spec_sized_0)]) (by kernel_rfl) (.cons rfl (lo_spec_sized_0 n ih0) .nil)) (by intro x; kernel_rfl)

theorem ok0_spec_sized : ∀ n, FnOK Try.prog 44 ⟨0, p_spec_sized, q_spec_sized, m_spec_sized n⟩
  | 0 => fun x r h => by cases h
  | n + 1 => (fun ih => st_spec_sized n ih) (ok0_spec_sized n)

noncomputable def e_spec_sized : Ent := ⟨0, p_spec_sized, q_spec_sized, m_spec_sized big⟩
theorem ok_spec_sized : FnOK Try.prog 44 e_spec_sized := (ok0_spec_sized big)

/-! laws.zzFits4 -/
abbrev p_laws_zzFits4 : Pt := [(0, .el .attr)]
abbrev q_laws_zzFits4 : Pt := [(0, .bool)]

noncomputable def m_laws_zzFits4 : Tup p_laws_zzFits4 → Option (Tup q_laws_zzFits4) := fun (x : Attr) => bif Decidable.decide ((2147483647 : Int) < (↑(List.length (Attr.key x)) : Int)) then Option.some Bool.false else bif Decidable.decide ((2147483647 : Int) < (↑(List.length (Attr.val x)) : Int)) then Option.some Bool.false else Option.some Bool.true

noncomputable def cx_laws_zzFits4 : Cx := ⟨tb, lookE [], lookS []⟩

theorem ck_laws_zzFits4 : CxOK Try.prog (cx_laws_zzFits4) := cx_ok tb_ok .nil

noncomputable def e_laws_zzFits4 : Ent := ⟨0, p_laws_zzFits4, q_laws_zzFits4, m_laws_zzFits4⟩
theorem ok_laws_zzFits4 : FnOK Try.prog 86 e_laws_zzFits4 := fn_ok (L := lookL []) ck_laws_zzFits4 mixed Try.func86 rfl (by kernel_rfl) (by kernel_rfl) (ls_ok (l := []) (by kernel_rfl) .nil) (by intro x; kernel_rfl)

/-! laws.zzFits3 -/
abbrev p_laws_zzFits3 : Pt := [(0, .lst .attr)]
abbrev q_laws_zzFits3 : Pt := [(0, .bool)]

abbrev p_laws_zzFits3_0 : Pt := [(8, .lst .attr), (9, .int .i64), (10, .int .i64)]
abbrev x_laws_zzFits3_0 : List (Xt × Pt) := [(.ex 0, []), (.rt, [(2, .bool)])]
noncomputable def m_laws_zzFits3_0 : Tup p_laws_zzFits3_0 → Option (Stp (Tup p_laws_zzFits3_0) (SumT (x_laws_zzFits3_0.map (·.2)))) := fun (x : List Attr × Int × Int) => bif Decidable.decide (Prod.snd (Prod.snd x) < Prod.fst (Prod.snd x)) then Option.bind (atI (Prod.fst x) (Prod.snd (Prod.snd x))) fun (v : Attr) => Option.bind (m_laws_zzFits4 { key := Attr.key v, val := Attr.val v }) fun (r : Bool) => bif !r then Option.some (Stp.out (Sum.inr Bool.false)) else Option.some (Stp.nx (Prod.fst x, Prod.fst (Prod.snd x), Go.IntKind.wrap Go.IntKind.i64 (Prod.snd (Prod.snd x) + (1 : Int)))) else Option.some (Stp.out (Sum.inl PUnit.unit))

noncomputable def m_laws_zzFits3 : Tup p_laws_zzFits3 → Option (Tup q_laws_zzFits3) := fun (x : List Attr) => bif Decidable.decide ((2147483647 : Int) < (↑(List.length x) : Int)) then Option.some Bool.false else Option.bind (loopO m_laws_zzFits3_0 (x, (↑(List.length x) : Int), (0 : Int))) fun (y : PUnit ⊕ Bool) => selim (fun (y : PUnit) => Option.some Bool.true) (fun (y : Bool) => Option.some y) y

noncomputable def cx_laws_zzFits3 : Cx := ⟨tb, lookE [(86, e_laws_zzFits4)], lookS []⟩

theorem ck_laws_zzFits3 : CxOK Try.prog (cx_laws_zzFits3) := cx_ok tb_ok (.cons ok_laws_zzFits4 Try.call86 .nil)

noncomputable def c_laws_zzFits3_0 : Code := loopAt (Go.Proofs.Try.f54.body.getD .skip) 0

noncomputable def l_laws_zzFits3_0 : LEnt := ⟨p_laws_zzFits3_0, x_laws_zzFits3_0, loopO (m_laws_zzFits3_0)⟩

theorem lo_laws_zzFits3_0 : LOK Try.prog 18 0 false (l_laws_zzFits3_0) c_laws_zzFits3_0 := loop_ok (body := m_laws_zzFits3_0) (L := lookL []) (ck_laws_zzFits3) mixed (ls_ok (l := []) (by kernel_rfl) .nil) (by intro x; kernel_rfl) (fun x y h => loopO_iff.1 h)

noncomputable def e_laws_zzFits3 : Ent := ⟨0, p_laws_zzFits3, q_laws_zzFits3, m_laws_zzFits3⟩
theorem ok_laws_zzFits3 : FnOK Try.prog 54 e_laws_zzFits3 := fn_ok (L := lookL [(0, l_laws_zzFits3_0)]) ck_laws_zzFits3 mixed Try.func54 rfl (by kernel_rfl) (by kernel_rfl) (ls_ok (l := [(0, c_laws_zzFits3_0)]) (by kernel_rfl) (.cons rfl (lo_laws_zzFits3_0) .nil)) (by intro x; kernel_rfl)

/-! laws.zzFits2 -/
abbrev p_laws_zzFits2 : Pt := [(0, .el .node)]
abbrev q_laws_zzFits2 : Pt := [(0, .bool)]

noncomputable def m_laws_zzFits2 : Tup p_laws_zzFits2 → Option (Tup q_laws_zzFits2) := fun (x : Node) => bif Decidable.decide ((2147483647 : Int) < (↑(List.length (Node.tag x)) : Int)) then Option.some Bool.false else bif Decidable.decide ((2147483647 : Int) < (↑(List.length (Node.text x)) : Int)) then Option.some Bool.false else Option.bind (m_laws_zzFits3 (Node.attrs x)) fun (r : Bool) => bif !r then Option.some Bool.false else Option.some Bool.true

noncomputable def cx_laws_zzFits2 : Cx := ⟨tb, lookE [(54, e_laws_zzFits3)], lookS []⟩

theorem ck_laws_zzFits2 : CxOK Try.prog (cx_laws_zzFits2) := cx_ok tb_ok (.cons ok_laws_zzFits3 Try.call54 .nil)

noncomputable def e_laws_zzFits2 : Ent := ⟨0, p_laws_zzFits2, q_laws_zzFits2, m_laws_zzFits2⟩
theorem ok_laws_zzFits2 : FnOK Try.prog 27 e_laws_zzFits2 := fn_ok (L := lookL []) ck_laws_zzFits2 mixed Try.func27 rfl (by kernel_rfl) (by kernel_rfl) (ls_ok (l := []) (by kernel_rfl) .nil) (by intro x; kernel_rfl)

/-! laws.zzFits1 -/
abbrev p_laws_zzFits1 : Pt := [(0, .lst .node)]
abbrev q_laws_zzFits1 : Pt := [(0, .bool)]

abbrev p_laws_zzFits1_0 : Pt := [(8, .lst .node), (9, .int .i64), (10, .int .i64)]
abbrev x_laws_zzFits1_0 : List (Xt × Pt) := [(.ex 0, []), (.rt, [(2, .bool)])]
noncomputable def m_laws_zzFits1_0 : Tup p_laws_zzFits1_0 → Option (Stp (Tup p_laws_zzFits1_0) (SumT (x_laws_zzFits1_0.map (·.2)))) := fun (x : List Node × Int × Int) => bif Decidable.decide (Prod.snd (Prod.snd x) < Prod.fst (Prod.snd x)) then Option.bind (atI (Prod.fst x) (Prod.snd (Prod.snd x))) fun (v : Node) => Option.bind (m_laws_zzFits2 { kind := Node.kind v, tag := Node.tag v, text := Node.text v, attrs := Node.attrs v, size := Node.size v }) fun (r : Bool) => bif !r then Option.some (Stp.out (Sum.inr Bool.false)) else Option.some (Stp.nx (Prod.fst x, Prod.fst (Prod.snd x), Go.IntKind.wrap Go.IntKind.i64 (Prod.snd (Prod.snd x) + (1 : Int)))) else Option.some (Stp.out (Sum.inl PUnit.unit))

noncomputable def m_laws_zzFits1 : Tup p_laws_zzFits1 → Option (Tup q_laws_zzFits1) := fun (x : List Node) => bif Decidable.decide ((2147483647 : Int) < (↑(List.length x) : Int)) then Option.some Bool.false else Option.bind (loopO m_laws_zzFits1_0 (x, (↑(List.length x) : Int), (0 : Int))) fun (y : PUnit ⊕ Bool) => selim (fun (y : PUnit) => Option.some Bool.true) (fun (y : Bool) => Option.some y) y

noncomputable def cx_laws_zzFits1 : Cx := ⟨tb, lookE [(27, e_laws_zzFits2)], lookS []⟩

theorem ck_laws_zzFits1 : CxOK Try.prog (cx_laws_zzFits1) := cx_ok tb_ok (.cons ok_laws_zzFits2 Try.call27 .nil)

noncomputable def c_laws_zzFits1_0 : Code := loopAt (Go.Proofs.Try.f9.body.getD .skip) 0

noncomputable def l_laws_zzFits1_0 : LEnt := ⟨p_laws_zzFits1_0, x_laws_zzFits1_0, loopO (m_laws_zzFits1_0)⟩

theorem lo_laws_zzFits1_0 : LOK Try.prog 18 0 false (l_laws_zzFits1_0) c_laws_zzFits1_0 := loop_ok (body := m_laws_zzFits1_0) (L := lookL []) (ck_laws_zzFits1) mixed (ls_ok (l := []) (by kernel_rfl) .nil) (by intro x; kernel_rfl) (fun x y h => loopO_iff.1 h)

noncomputable def e_laws_zzFits1 : Ent := ⟨0, p_laws_zzFits1, q_laws_zzFits1, m_laws_zzFits1⟩
theorem ok_laws_zzFits1 : FnOK Try.prog 9 e_laws_zzFits1 := fn_ok (L := lookL [(0, l_laws_zzFits1_0)]) ck_laws_zzFits1 mixed Try.func9 rfl (by kernel_rfl) (by kernel_rfl) (ls_ok (l := [(0, c_laws_zzFits1_0)]) (by kernel_rfl) (.cons rfl (lo_laws_zzFits1_0) .nil)) (by intro x; kernel_rfl)

/-! laws.within -/
abbrev p_laws_within : Pt := [(0, .lst .node), (1, .int .i64)]
abbrev q_laws_within : Pt := [(0, .bool)]

noncomputable def m_laws_within : Tup p_laws_within → Option (Tup q_laws_within) := fun (x : List Node × Int) => bif Decidable.decide ((0 : Int) ≤ Prod.snd x) then Option.some (Decidable.decide (Prod.snd x < (↑(List.length (Prod.fst x)) : Int))) else Option.some Bool.false

noncomputable def cx_laws_within : Cx := ⟨tb, lookE [], lookS []⟩

theorem ck_laws_within : CxOK Try.prog (cx_laws_within) := cx_ok tb_ok .nil

noncomputable def e_laws_within : Ent := ⟨0, p_laws_within, q_laws_within, m_laws_within⟩
theorem ok_laws_within : FnOK Try.prog 28 e_laws_within := fn_ok (L := lookL []) ck_laws_within mixed Try.func28 rfl (by kernel_rfl) (by kernel_rfl) (ls_ok (l := []) (by kernel_rfl) .nil) (by intro x; kernel_rfl)

/-! spec.Name -/
abbrev p_spec_Name : Pt := [(0, .str)]
abbrev q_spec_Name : Pt := [(0, .bool)]

abbrev p_spec_Name_0 : Pt := [(0, .str), (3, .int .i64)]
abbrev x_spec_Name_0 : List (Xt × Pt) := [(.ex 0, []), (.rt, [(2, .bool)])]
noncomputable def m_spec_Name_0 : Tup p_spec_Name_0 → Option (Stp (Tup p_spec_Name_0) (SumT (x_spec_Name_0.map (·.2)))) := fun (x : List UInt8 × Int) => bif Decidable.decide (Prod.snd x < (↑(List.length (Prod.fst x)) : Int)) then Option.bind (atI (Prod.fst x) (Prod.snd x)) fun (c : UInt8) => bif Decidable.decide ((97 : Int) ≤ (↑(UInt8.toNat c) : Int)) then Option.bind (atI (Prod.fst x) (Prod.snd x)) fun (c : UInt8) => bif Decidable.decide ((↑(UInt8.toNat c) : Int) ≤ (122 : Int)) then Option.some (Stp.nx (Prod.fst x, Go.IntKind.wrap Go.IntKind.i64 (Prod.snd x + (1 : Int)))) else Option.bind (atI (Prod.fst x) (Prod.snd x)) fun (c : UInt8) => bif Decidable.decide ((48 : Int) ≤ (↑(UInt8.toNat c) : Int)) then Option.bind (atI (Prod.fst x) (Prod.snd x)) fun (c : UInt8) => bif Decidable.decide ((↑(UInt8.toNat c) : Int) ≤ (57 : Int)) then Option.some (Stp.nx (Prod.fst x, Go.IntKind.wrap Go.IntKind.i64 (Prod.snd x + (1 : Int)))) else Option.bind (atI (Prod.fst x) (Prod.snd x)) fun (c : UInt8) => bif !Decidable.decide ((↑(UInt8.toNat c) : Int) = (45 : Int)) then Option.some (Stp.out (Sum.inr Bool.false)) else Option.some (Stp.nx (Prod.fst x, Go.IntKind.wrap Go.IntKind.i64 (Prod.snd x + (1 : Int)))) else Option.bind (atI (Prod.fst x) (Prod.snd x)) fun (c : UInt8) => bif !Decidable.decide ((↑(UInt8.toNat c) : Int) = (45 : Int)) then Option.some (Stp.out (Sum.inr Bool.false)) else Option.some (Stp.nx (Prod.fst x, Go.IntKind.wrap Go.IntKind.i64 (Prod.snd x + (1 : Int)))) else Option.bind (atI (Prod.fst x) (Prod.snd x)) fun (c : UInt8) => bif Decidable.decide ((48 : Int) ≤ (↑(UInt8.toNat c) : Int)) then Option.bind (atI (Prod.fst x) (Prod.snd x)) fun (c : UInt8) => bif Decidable.decide ((↑(UInt8.toNat c) : Int) ≤ (57 : Int)) then Option.some (Stp.nx (Prod.fst x, Go.IntKind.wrap Go.IntKind.i64 (Prod.snd x + (1 : Int)))) else Option.bind (atI (Prod.fst x) (Prod.snd x)) fun (c : UInt8) => bif !Decidable.decide ((↑(UInt8.toNat c) : Int) = (45 : Int)) then Option.some (Stp.out (Sum.inr Bool.false)) else Option.some (Stp.nx (Prod.fst x, Go.IntKind.wrap Go.IntKind.i64 (Prod.snd x + (1 : Int)))) else Option.bind (atI (Prod.fst x) (Prod.snd x)) fun (c : UInt8) => bif !Decidable.decide ((↑(UInt8.toNat c) : Int) = (45 : Int)) then Option.some (Stp.out (Sum.inr Bool.false)) else Option.some (Stp.nx (Prod.fst x, Go.IntKind.wrap Go.IntKind.i64 (Prod.snd x + (1 : Int)))) else Option.some (Stp.out (Sum.inl PUnit.unit))

noncomputable def m_spec_Name : Tup p_spec_Name → Option (Tup q_spec_Name) := fun (x : List UInt8) => bif Decidable.decide ((↑(List.length x) : Int) = (0 : Int)) then Option.some Bool.false else bif Decidable.decide ((40 : Int) < (↑(List.length x) : Int)) then Option.some Bool.false else Option.bind (atI x (0 : Int)) fun (c : UInt8) => bif Decidable.decide ((↑(UInt8.toNat c) : Int) < (97 : Int)) then Option.some Bool.false else Option.bind (atI x (0 : Int)) fun (c : UInt8) => bif Decidable.decide ((122 : Int) < (↑(UInt8.toNat c) : Int)) then Option.some Bool.false else Option.bind (loopO m_spec_Name_0 (x, (1 : Int))) fun (y : PUnit ⊕ Bool) => selim (fun (y : PUnit) => Option.some Bool.true) (fun (y : Bool) => Option.some y) y

noncomputable def cx_spec_Name : Cx := ⟨tb, lookE [], lookS []⟩

theorem ck_spec_Name : CxOK Try.prog (cx_spec_Name) := cx_ok tb_ok .nil

noncomputable def c_spec_Name_0 : Code := loopAt (Go.Proofs.Try.f78.body.getD .skip) 0

noncomputable def l_spec_Name_0 : LEnt := ⟨p_spec_Name_0, x_spec_Name_0, loopO (m_spec_Name_0)⟩

theorem lo_spec_Name_0 : LOK Try.prog 57 0 false (l_spec_Name_0) c_spec_Name_0 := loop_ok (body := m_spec_Name_0) (L := lookL []) (ck_spec_Name) mixed (ls_ok (l := []) (by kernel_rfl) .nil) (by intro x; kernel_rfl) (fun x y h => loopO_iff.1 h)

noncomputable def e_spec_Name : Ent := ⟨0, p_spec_Name, q_spec_Name, m_spec_Name⟩
theorem ok_spec_Name : FnOK Try.prog 78 e_spec_Name := fn_ok (L := lookL [(0, l_spec_Name_0)]) ck_spec_Name mixed Try.func78 rfl (by kernel_rfl) (by kernel_rfl) (ls_ok (l := [(0, c_spec_Name_0)]) (by kernel_rfl) (.cons rfl (lo_spec_Name_0) .nil)) (by intro x; kernel_rfl)

/-! spec.Point -/
abbrev p_spec_Point : Pt := [(0, .str), (1, .int .i64)]
abbrev q_spec_Point : Pt := [(0, .int .i64), (1, .int .i64)]

abbrev p_spec_Point_0 : Pt := [(0, .str), (1, .int .i64), (4, .int .i64), (7, .int .i64), (8, .int .i64), (9, .int .i64)]
abbrev x_spec_Point_0 : List (Xt × Pt) := [(.ex 1, [(4, .int .i64), (7, .int .i64), (8, .int .i64)]), (.rt, [(4, .int .i64), (5, .int .i64)])]
noncomputable def m_spec_Point_0 : Tup p_spec_Point_0 → Option (Stp (Tup p_spec_Point_0) (SumT (x_spec_Point_0.map (·.2)))) := fun (x : List UInt8 × Int × Int × Int × Int × Int) => bif Decidable.decide (Prod.snd (Prod.snd (Prod.snd (Prod.snd (Prod.snd x)))) ≤ Prod.fst (Prod.snd (Prod.snd (Prod.snd (Prod.snd x))))) then Option.bind (atI (Prod.fst x) (Go.IntKind.wrap Go.IntKind.i64 (Prod.fst (Prod.snd x) + Prod.snd (Prod.snd (Prod.snd (Prod.snd (Prod.snd x))))))) fun (c : UInt8) => bif Decidable.decide (Go.IntKind.wrap Go.IntKind.i64 (↑(UInt8.toNat c) : Int) < (128 : Int)) then Option.some (Stp.out (Sum.inr ((0 : Int), (0 : Int)))) else bif Decidable.decide ((192 : Int) ≤ Go.IntKind.wrap Go.IntKind.i64 (↑(UInt8.toNat c) : Int)) then Option.some (Stp.out (Sum.inr ((0 : Int), (0 : Int)))) else Option.bind (shlI Go.IntKind.i64 (Prod.fst (Prod.snd (Prod.snd x))) (6 : Int)) fun (n : Int) => Option.some (Stp.nx (Prod.fst x, Prod.fst (Prod.snd x), Go.IntKind.wrap Go.IntKind.i64 (Go.IntKind.wrap Go.IntKind.i64 (n + Go.IntKind.wrap Go.IntKind.i64 (↑(UInt8.toNat c) : Int)) - (128 : Int)), Prod.fst (Prod.snd (Prod.snd (Prod.snd x))), Prod.fst (Prod.snd (Prod.snd (Prod.snd (Prod.snd x)))), Go.IntKind.wrap Go.IntKind.i64 (Prod.snd (Prod.snd (Prod.snd (Prod.snd (Prod.snd x)))) + (1 : Int)))) else Option.some (Stp.out (Sum.inl (Prod.fst (Prod.snd (Prod.snd x)), Prod.fst (Prod.snd (Prod.snd (Prod.snd x))), Prod.fst (Prod.snd (Prod.snd (Prod.snd (Prod.snd x)))))))

noncomputable def m_spec_Point : Tup p_spec_Point → Option (Tup q_spec_Point) := fun (x : List UInt8 × Int) => Option.bind (atI (Prod.fst x) (Prod.snd x)) fun (c : UInt8) => bif Decidable.decide (Go.IntKind.wrap Go.IntKind.i64 (↑(UInt8.toNat c) : Int) < (128 : Int)) then Option.some (Go.IntKind.wrap Go.IntKind.i64 (↑(UInt8.toNat c) : Int), (1 : Int)) else bif Decidable.decide ((192 : Int) ≤ Go.IntKind.wrap Go.IntKind.i64 (↑(UInt8.toNat c) : Int)) then bif Decidable.decide (Go.IntKind.wrap Go.IntKind.i64 (↑(UInt8.toNat c) : Int) < (224 : Int)) then bif Decidable.decide (Go.IntKind.wrap Go.IntKind.i64 ((↑(List.length (Prod.fst x)) : Int) - Prod.snd x) ≤ (1 : Int)) then Option.some ((0 : Int), (0 : Int)) else Option.bind (loopO m_spec_Point_0 (Prod.fst x, Prod.snd x, Go.IntKind.wrap Go.IntKind.i64 (Go.IntKind.wrap Go.IntKind.i64 (↑(UInt8.toNat c) : Int) - (192 : Int)), (128 : Int), (1 : Int), (1 : Int))) fun (y : Int × Int × Int ⊕ Int × Int) => selim (fun (y : Int × Int × Int) => bif Decidable.decide (Prod.fst y < Prod.fst (Prod.snd y)) then Option.some ((0 : Int), (0 : Int)) else bif Decidable.decide ((1114111 : Int) < Prod.fst y) then Option.some ((0 : Int), (0 : Int)) else bif Decidable.decide ((55296 : Int) ≤ Prod.fst y) then bif Decidable.decide (Prod.fst y < (57344 : Int)) then Option.some ((0 : Int), (0 : Int)) else Option.some (Prod.fst y, Go.IntKind.wrap Go.IntKind.i64 (Prod.snd (Prod.snd y) + (1 : Int))) else Option.some (Prod.fst y, Go.IntKind.wrap Go.IntKind.i64 (Prod.snd (Prod.snd y) + (1 : Int)))) (fun (y : Int × Int) => Option.some (Prod.fst y, Prod.snd y)) y else bif Decidable.decide ((224 : Int) ≤ Go.IntKind.wrap Go.IntKind.i64 (↑(UInt8.toNat c) : Int)) then bif Decidable.decide (Go.IntKind.wrap Go.IntKind.i64 (↑(UInt8.toNat c) : Int) < (240 : Int)) then bif Decidable.decide (Go.IntKind.wrap Go.IntKind.i64 ((↑(List.length (Prod.fst x)) : Int) - Prod.snd x) ≤ (2 : Int)) then Option.some ((0 : Int), (0 : Int)) else Option.bind (loopO m_spec_Point_0 (Prod.fst x, Prod.snd x, Go.IntKind.wrap Go.IntKind.i64 (Go.IntKind.wrap Go.IntKind.i64 (↑(UInt8.toNat c) : Int) - (224 : Int)), (2048 : Int), (2 : Int), (1 : Int))) fun (y : Int × Int × Int ⊕ Int × Int) => selim (fun (y : Int × Int × Int) => bif Decidable.decide (Prod.fst y < Prod.fst (Prod.snd y)) then Option.some ((0 : Int), (0 : Int)) else bif Decidable.decide ((1114111 : Int) < Prod.fst y) then Option.some ((0 : Int), (0 : Int)) else bif Decidable.decide ((55296 : Int) ≤ Prod.fst y) then bif Decidable.decide (Prod.fst y < (57344 : Int)) then Option.some ((0 : Int), (0 : Int)) else Option.some (Prod.fst y, Go.IntKind.wrap Go.IntKind.i64 (Prod.snd (Prod.snd y) + (1 : Int))) else Option.some (Prod.fst y, Go.IntKind.wrap Go.IntKind.i64 (Prod.snd (Prod.snd y) + (1 : Int)))) (fun (y : Int × Int) => Option.some (Prod.fst y, Prod.snd y)) y else bif Decidable.decide ((240 : Int) ≤ Go.IntKind.wrap Go.IntKind.i64 (↑(UInt8.toNat c) : Int)) then bif Decidable.decide (Go.IntKind.wrap Go.IntKind.i64 (↑(UInt8.toNat c) : Int) < (248 : Int)) then bif Decidable.decide (Go.IntKind.wrap Go.IntKind.i64 ((↑(List.length (Prod.fst x)) : Int) - Prod.snd x) ≤ (3 : Int)) then Option.some ((0 : Int), (0 : Int)) else Option.bind (loopO m_spec_Point_0 (Prod.fst x, Prod.snd x, Go.IntKind.wrap Go.IntKind.i64 (Go.IntKind.wrap Go.IntKind.i64 (↑(UInt8.toNat c) : Int) - (240 : Int)), (65536 : Int), (3 : Int), (1 : Int))) fun (y : Int × Int × Int ⊕ Int × Int) => selim (fun (y : Int × Int × Int) => bif Decidable.decide (Prod.fst y < Prod.fst (Prod.snd y)) then Option.some ((0 : Int), (0 : Int)) else bif Decidable.decide ((1114111 : Int) < Prod.fst y) then Option.some ((0 : Int), (0 : Int)) else bif Decidable.decide ((55296 : Int) ≤ Prod.fst y) then bif Decidable.decide (Prod.fst y < (57344 : Int)) then Option.some ((0 : Int), (0 : Int)) else Option.some (Prod.fst y, Go.IntKind.wrap Go.IntKind.i64 (Prod.snd (Prod.snd y) + (1 : Int))) else Option.some (Prod.fst y, Go.IntKind.wrap Go.IntKind.i64 (Prod.snd (Prod.snd y) + (1 : Int)))) (fun (y : Int × Int) => Option.some (Prod.fst y, Prod.snd y)) y else Option.some ((0 : Int), (0 : Int)) else Option.some ((0 : Int), (0 : Int)) else bif Decidable.decide ((240 : Int) ≤ Go.IntKind.wrap Go.IntKind.i64 (↑(UInt8.toNat c) : Int)) then bif Decidable.decide (Go.IntKind.wrap Go.IntKind.i64 (↑(UInt8.toNat c) : Int) < (248 : Int)) then bif Decidable.decide (Go.IntKind.wrap Go.IntKind.i64 ((↑(List.length (Prod.fst x)) : Int) - Prod.snd x) ≤ (3 : Int)) then Option.some ((0 : Int), (0 : Int)) else Option.bind (loopO m_spec_Point_0 (Prod.fst x, Prod.snd x, Go.IntKind.wrap Go.IntKind.i64 (Go.IntKind.wrap Go.IntKind.i64 (↑(UInt8.toNat c) : Int) - (240 : Int)), (65536 : Int), (3 : Int), (1 : Int))) fun (y : Int × Int × Int ⊕ Int × Int) => selim (fun (y : Int × Int × Int) => bif Decidable.decide (Prod.fst y < Prod.fst (Prod.snd y)) then Option.some ((0 : Int), (0 : Int)) else bif Decidable.decide ((1114111 : Int) < Prod.fst y) then Option.some ((0 : Int), (0 : Int)) else bif Decidable.decide ((55296 : Int) ≤ Prod.fst y) then bif Decidable.decide (Prod.fst y < (57344 : Int)) then Option.some ((0 : Int), (0 : Int)) else Option.some (Prod.fst y, Go.IntKind.wrap Go.IntKind.i64 (Prod.snd (Prod.snd y) + (1 : Int))) else Option.some (Prod.fst y, Go.IntKind.wrap Go.IntKind.i64 (Prod.snd (Prod.snd y) + (1 : Int)))) (fun (y : Int × Int) => Option.some (Prod.fst y, Prod.snd y)) y else Option.some ((0 : Int), (0 : Int)) else Option.some ((0 : Int), (0 : Int)) else bif Decidable.decide ((224 : Int) ≤ Go.IntKind.wrap Go.IntKind.i64 (↑(UInt8.toNat c) : Int)) then bif Decidable.decide (Go.IntKind.wrap Go.IntKind.i64 (↑(UInt8.toNat c) : Int) < (240 : Int)) then bif Decidable.decide (Go.IntKind.wrap Go.IntKind.i64 ((↑(List.length (Prod.fst x)) : Int) - Prod.snd x) ≤ (2 : Int)) then Option.some ((0 : Int), (0 : Int)) else Option.bind (loopO m_spec_Point_0 (Prod.fst x, Prod.snd x, Go.IntKind.wrap Go.IntKind.i64 (Go.IntKind.wrap Go.IntKind.i64 (↑(UInt8.toNat c) : Int) - (224 : Int)), (2048 : Int), (2 : Int), (1 : Int))) fun (y : Int × Int × Int ⊕ Int × Int) => selim (fun (y : Int × Int × Int) => bif Decidable.decide (Prod.fst y < Prod.fst (Prod.snd y)) then Option.some ((0 : Int), (0 : Int)) else bif Decidable.decide ((1114111 : Int) < Prod.fst y) then Option.some ((0 : Int), (0 : Int)) else bif Decidable.decide ((55296 : Int) ≤ Prod.fst y) then bif Decidable.decide (Prod.fst y < (57344 : Int)) then Option.some ((0 : Int), (0 : Int)) else Option.some (Prod.fst y, Go.IntKind.wrap Go.IntKind.i64 (Prod.snd (Prod.snd y) + (1 : Int))) else Option.some (Prod.fst y, Go.IntKind.wrap Go.IntKind.i64 (Prod.snd (Prod.snd y) + (1 : Int)))) (fun (y : Int × Int) => Option.some (Prod.fst y, Prod.snd y)) y else bif Decidable.decide ((240 : Int) ≤ Go.IntKind.wrap Go.IntKind.i64 (↑(UInt8.toNat c) : Int)) then bif Decidable.decide (Go.IntKind.wrap Go.IntKind.i64 (↑(UInt8.toNat c) : Int) < (248 : Int)) then bif Decidable.decide (Go.IntKind.wrap Go.IntKind.i64 ((↑(List.length (Prod.fst x)) : Int) - Prod.snd x) ≤ (3 : Int)) then Option.some ((0 : Int), (0 : Int)) else Option.bind (loopO m_spec_Point_0 (Prod.fst x, Prod.snd x, Go.IntKind.wrap Go.IntKind.i64 (Go.IntKind.wrap Go.IntKind.i64 (↑(UInt8.toNat c) : Int) - (240 : Int)), (65536 : Int), (3 : Int), (1 : Int))) fun (y : Int × Int × Int ⊕ Int × Int) => selim (fun (y : Int × Int × Int) => bif Decidable.decide (Prod.fst y < Prod.fst (Prod.snd y)) then Option.some ((0 : Int), (0 : Int)) else bif Decidable.decide ((1114111 : Int) < Prod.fst y) then Option.some ((0 : Int), (0 : Int)) else bif Decidable.decide ((55296 : Int) ≤ Prod.fst y) then bif Decidable.decide (Prod.fst y < (57344 : Int)) then Option.some ((0 : Int), (0 : Int)) else Option.some (Prod.fst y, Go.IntKind.wrap Go.IntKind.i64 (Prod.snd (Prod.snd y) + (1 : Int))) else Option.some (Prod.fst y, Go.IntKind.wrap Go.IntKind.i64 (Prod.snd (Prod.snd y) + (1 : Int)))) (fun (y : Int × Int) => Option.some (Prod.fst y, Prod.snd y)) y else Option.some ((0 : Int), (0 : Int)) else Option.some ((0 : Int), (0 : Int)) else bif Decidable.decide ((240 : Int) ≤ Go.IntKind.wrap Go.IntKind.i64 (↑(UInt8.toNat c) : Int)) then bif Decidable.decide (Go.IntKind.wrap Go.IntKind.i64 (↑(UInt8.toNat c) : Int) < (248 : Int)) then bif Decidable.decide (Go.IntKind.wrap Go.IntKind.i64 ((↑(List.length (Prod.fst x)) : Int) - Prod.snd x) ≤ (3 : Int)) then Option.some ((0 : Int), (0 : Int)) else Option.bind (loopO m_spec_Point_0 (Prod.fst x, Prod.snd x, Go.IntKind.wrap Go.IntKind.i64 (Go.IntKind.wrap Go.IntKind.i64 (↑(UInt8.toNat c) : Int) - (240 : Int)), (65536 : Int), (3 : Int), (1 : Int))) fun (y : Int × Int × Int ⊕ Int × Int) => selim (fun (y : Int × Int × Int) => bif Decidable.decide (Prod.fst y < Prod.fst (Prod.snd y)) then Option.some ((0 : Int), (0 : Int)) else bif Decidable.decide ((1114111 : Int) < Prod.fst y) then Option.some ((0 : Int), (0 : Int)) else bif Decidable.decide ((55296 : Int) ≤ Prod.fst y) then bif Decidable.decide (Prod.fst y < (57344 : Int)) then Option.some ((0 : Int), (0 : Int)) else Option.some (Prod.fst y, Go.IntKind.wrap Go.IntKind.i64 (Prod.snd (Prod.snd y) + (1 : Int))) else Option.some (Prod.fst y, Go.IntKind.wrap Go.IntKind.i64 (Prod.snd (Prod.snd y) + (1 : Int)))) (fun (y : Int × Int) => Option.some (Prod.fst y, Prod.snd y)) y else Option.some ((0 : Int), (0 : Int)) else Option.some ((0 : Int), (0 : Int))

noncomputable def cx_spec_Point : Cx := ⟨tb, lookE [], lookS []⟩

theorem ck_spec_Point : CxOK Try.prog (cx_spec_Point) := cx_ok tb_ok .nil

noncomputable def c_spec_Point_0 : Code := loopAt (Go.Proofs.Try.f33.body.getD .skip) 0

noncomputable def l_spec_Point_0 : LEnt := ⟨p_spec_Point_0, x_spec_Point_0, loopO (m_spec_Point_0)⟩

theorem lo_spec_Point_0 : LOK Try.prog 92 0 false (l_spec_Point_0) c_spec_Point_0 := loop_ok (body := m_spec_Point_0) (L := lookL []) (ck_spec_Point) mixed (ls_ok (l := []) (by kernel_rfl) .nil) (by intro x; kernel_rfl) (fun x y h => loopO_iff.1 h)

noncomputable def e_spec_Point : Ent := ⟨0, p_spec_Point, q_spec_Point, m_spec_Point⟩
theorem ok_spec_Point : FnOK Try.prog 33 e_spec_Point := fn_ok (L := lookL [(1, l_spec_Point_0)]) ck_spec_Point mixed Try.func33 rfl (by kernel_rfl) (by kernel_rfl) (ls_ok (l := [(1, c_spec_Point_0)]) (by kernel_rfl) (.cons rfl (lo_spec_Point_0) .nil)) (by intro x; kernel_rfl)

/-! spec.Plain -/
abbrev p_spec_Plain : Pt := [(0, .str)]
abbrev q_spec_Plain : Pt := [(0, .bool)]

abbrev p_spec_Plain_0 : Pt := [(0, .str), (3, .int .i64)]
abbrev x_spec_Plain_0 : List (Xt × Pt) := [(.ex 0, []), (.rt, [(2, .bool)])]
noncomputable def m_spec_Plain_0 : Tup p_spec_Plain_0 → Option (Stp (Tup p_spec_Plain_0) (SumT (x_spec_Plain_0.map (·.2)))) := fun (x : List UInt8 × Int) => bif Decidable.decide (Prod.snd x < (↑(List.length (Prod.fst x)) : Int)) then Option.bind (m_spec_Point (Prod.fst x, Prod.snd x)) fun (r : Int × Int) => bif Decidable.decide (Prod.snd r = (0 : Int)) then Option.some (Stp.out (Sum.inr Bool.false)) else bif Decidable.decide (Prod.fst r = (0 : Int)) then Option.some (Stp.out (Sum.inr Bool.false)) else Option.some (Stp.nx (Prod.fst x, Go.IntKind.wrap Go.IntKind.i64 (Prod.snd x + Prod.snd r))) else Option.some (Stp.out (Sum.inl PUnit.unit))

noncomputable def m_spec_Plain : Tup p_spec_Plain → Option (Tup q_spec_Plain) := fun (x : List UInt8) => Option.bind (loopO m_spec_Plain_0 (x, (0 : Int))) fun (y : PUnit ⊕ Bool) => selim (fun (y : PUnit) => Option.some Bool.true) (fun (y : Bool) => Option.some y) y

noncomputable def cx_spec_Plain : Cx := ⟨tb, lookE [(33, e_spec_Point)], lookS []⟩

theorem ck_spec_Plain : CxOK Try.prog (cx_spec_Plain) := cx_ok tb_ok (.cons ok_spec_Point Try.call33 .nil)

noncomputable def c_spec_Plain_0 : Code := loopAt (Go.Proofs.Try.f12.body.getD .skip) 0

noncomputable def l_spec_Plain_0 : LEnt := ⟨p_spec_Plain_0, x_spec_Plain_0, loopO (m_spec_Plain_0)⟩

theorem lo_spec_Plain_0 : LOK Try.prog 25 0 false (l_spec_Plain_0) c_spec_Plain_0 := loop_ok (body := m_spec_Plain_0) (L := lookL []) (ck_spec_Plain) mixed (ls_ok (l := []) (by kernel_rfl) .nil) (by intro x; kernel_rfl) (fun x y h => loopO_iff.1 h)

noncomputable def e_spec_Plain : Ent := ⟨0, p_spec_Plain, q_spec_Plain, m_spec_Plain⟩
theorem ok_spec_Plain : FnOK Try.prog 12 e_spec_Plain := fn_ok (L := lookL [(0, l_spec_Plain_0)]) ck_spec_Plain mixed Try.func12 rfl (by kernel_rfl) (by kernel_rfl) (ls_ok (l := [(0, c_spec_Plain_0)]) (by kernel_rfl) (.cons rfl (lo_spec_Plain_0) .nil)) (by intro x; kernel_rfl)

/-! spec.rightRoot -/
abbrev p_spec_rightRoot : Pt := [(0, .lst .node)]
abbrev q_spec_rightRoot : Pt := [(0, .bool)]

abbrev p_spec_rightRoot_0 : Pt := [(0, .lst .node), (3, .own .int 3), (4, .bool), (5, .int .i64)]
abbrev x_spec_rightRoot_0 : List (Xt × Pt) := [(.ex 0, []), (.rt, [(2, .bool)])]
noncomputable def m_spec_rightRoot_0 : Tup p_spec_rightRoot_0 → Option (Stp (Tup p_spec_rightRoot_0) (SumT (x_spec_rightRoot_0.map (·.2)))) := fun (x : List Node × List Int × Bool × Int) => bif Decidable.decide (Prod.snd (Prod.snd (Prod.snd x)) < (↑(List.length (Prod.fst (Prod.snd x))) : Int)) then Option.bind (atI (Prod.fst (Prod.snd x)) (Prod.snd (Prod.snd (Prod.snd x)))) fun (x_1 : Int) => Option.bind (Prod.fst (Prod.snd x))[Int.toNat (Prod.snd (Prod.snd (Prod.snd x)))]? fun (v : Int) => Option.bind (atI (Prod.fst x) v) fun (v : Node) => bif Decidable.decide (Node.kind v = (4 : Int)) then Option.some (Stp.out (Sum.inr Bool.false)) else bif Decidable.decide (Node.kind v = (2 : Int)) then bif Prod.fst (Prod.snd (Prod.snd x)) then Option.bind (atI (Prod.fst (Prod.snd x)) (Prod.snd (Prod.snd (Prod.snd x)))) fun (x_2 : Int) => Option.bind (Prod.fst (Prod.snd x))[Int.toNat (Prod.snd (Prod.snd (Prod.snd x)))]? fun (v : Int) => Option.bind (atI (Prod.fst x) v) fun (v : Node) => bif Decidable.decide (Node.kind v = (2 : Int)) then Option.some (Stp.out (Sum.inr Bool.false)) else Option.some (Stp.nx (Prod.fst x, Prod.fst (Prod.snd x), Bool.true, Go.IntKind.wrap Go.IntKind.i64 (Prod.snd (Prod.snd (Prod.snd x)) + (1 : Int)))) else Option.some (Stp.nx (Prod.fst x, Prod.fst (Prod.snd x), Bool.true, Go.IntKind.wrap Go.IntKind.i64 (Prod.snd (Prod.snd (Prod.snd x)) + (1 : Int)))) else bif Decidable.decide (Node.kind v = (3 : Int)) then bif Prod.fst (Prod.snd (Prod.snd x)) then Option.bind (atI (Prod.fst (Prod.snd x)) (Prod.snd (Prod.snd (Prod.snd x)))) fun (x_2 : Int) => Option.bind (Prod.fst (Prod.snd x))[Int.toNat (Prod.snd (Prod.snd (Prod.snd x)))]? fun (v : Int) => Option.bind (atI (Prod.fst x) v) fun (v : Node) => bif Decidable.decide (Node.kind v = (2 : Int)) then Option.some (Stp.out (Sum.inr Bool.false)) else Option.some (Stp.nx (Prod.fst x, Prod.fst (Prod.snd x), Bool.true, Go.IntKind.wrap Go.IntKind.i64 (Prod.snd (Prod.snd (Prod.snd x)) + (1 : Int)))) else Option.some (Stp.nx (Prod.fst x, Prod.fst (Prod.snd x), Bool.true, Go.IntKind.wrap Go.IntKind.i64 (Prod.snd (Prod.snd (Prod.snd x)) + (1 : Int)))) else Option.some (Stp.nx (Prod.fst x, Prod.fst (Prod.snd x), Prod.fst (Prod.snd (Prod.snd x)), Go.IntKind.wrap Go.IntKind.i64 (Prod.snd (Prod.snd (Prod.snd x)) + (1 : Int)))) else Option.some (Stp.out (Sum.inl PUnit.unit))

noncomputable def m_spec_rightRoot : Tup p_spec_rightRoot → Option (Tup q_spec_rightRoot) := fun (x : List Node) => Option.bind (m_spec_Kids (x, (0 : Int))) fun (r : List Int) => Option.bind (loopO m_spec_rightRoot_0 (x, r, Bool.false, (0 : Int))) fun (y : PUnit ⊕ Bool) => selim (fun (y : PUnit) => Option.some Bool.true) (fun (y : Bool) => Option.some y) y

noncomputable def cx_spec_rightRoot : Cx := ⟨tb, lookE [(63, e_spec_Kids)], lookS []⟩

theorem ck_spec_rightRoot : CxOK Try.prog (cx_spec_rightRoot) := cx_ok tb_ok (.cons ok_spec_Kids Try.call63 .nil)

noncomputable def c_spec_rightRoot_0 : Code := loopAt (Go.Proofs.Try.f77.body.getD .skip) 0

noncomputable def l_spec_rightRoot_0 : LEnt := ⟨p_spec_rightRoot_0, x_spec_rightRoot_0, loopO (m_spec_rightRoot_0)⟩

theorem lo_spec_rightRoot_0 : LOK Try.prog 39 0 false (l_spec_rightRoot_0) c_spec_rightRoot_0 := loop_ok (body := m_spec_rightRoot_0) (L := lookL []) (ck_spec_rightRoot) mixed (ls_ok (l := []) (by kernel_rfl) .nil) (by intro x; kernel_rfl) (fun x y h => loopO_iff.1 h)

noncomputable def e_spec_rightRoot : Ent := ⟨0, p_spec_rightRoot, q_spec_rightRoot, m_spec_rightRoot⟩
theorem ok_spec_rightRoot : FnOK Try.prog 77 e_spec_rightRoot := fn_ok (L := lookL [(0, l_spec_rightRoot_0)]) ck_spec_rightRoot mixed Try.func77 rfl (by kernel_rfl) (by kernel_rfl) (ls_ok (l := [(0, c_spec_rightRoot_0)]) (by kernel_rfl) (.cons rfl (lo_spec_rightRoot_0) .nil)) (by intro x; kernel_rfl)

/-! spec.space -/
abbrev p_spec_space : Pt := [(0, .int .u8)]
abbrev q_spec_space : Pt := [(0, .bool)]

noncomputable def m_spec_space : Tup p_spec_space → Option (Tup q_spec_space) := fun (x : Int) => bif Decidable.decide (x = (32 : Int)) then Option.some Bool.true else bif Decidable.decide (x = (9 : Int)) then Option.some Bool.true else bif Decidable.decide (x = (10 : Int)) then Option.some Bool.true else bif Decidable.decide (x = (13 : Int)) then Option.some Bool.true else Option.some (Decidable.decide (x = (12 : Int)))

noncomputable def cx_spec_space : Cx := ⟨tb, lookE [], lookS []⟩

theorem ck_spec_space : CxOK Try.prog (cx_spec_space) := cx_ok tb_ok .nil

noncomputable def e_spec_space : Ent := ⟨0, p_spec_space, q_spec_space, m_spec_space⟩
theorem ok_spec_space : FnOK Try.prog 80 e_spec_space := fn_ok (L := lookL []) ck_spec_space mixed Try.func80 rfl (by kernel_rfl) (by kernel_rfl) (ls_ok (l := []) (by kernel_rfl) .nil) (by intro x; kernel_rfl)

/-! spec.WordsOf -/
abbrev p_spec_WordsOf : Pt := [(0, .str)]
abbrev q_spec_WordsOf : Pt := [(0, .own .str 9)]

abbrev p_spec_WordsOf_0 : Pt := [(0, .str), (3, .own .str 9), (4, .int .i64), (5, .int .i64)]
abbrev x_spec_WordsOf_0 : List (Xt × Pt) := [(.ex 0, [(3, .own .str 9)])]
noncomputable def m_spec_WordsOf_0 : Tup p_spec_WordsOf_0 → Option (Stp (Tup p_spec_WordsOf_0) (SumT (x_spec_WordsOf_0.map (·.2)))) := fun (x : List UInt8 × List (List UInt8) × Int × Int) => bif Decidable.decide (Prod.snd (Prod.snd (Prod.snd x)) ≤ (↑(List.length (Prod.fst x)) : Int)) then bif Decidable.decide (Prod.snd (Prod.snd (Prod.snd x)) < (↑(List.length (Prod.fst x)) : Int)) then Option.bind (atI (Prod.fst x) (Prod.snd (Prod.snd (Prod.snd x)))) fun (c : UInt8) => Option.bind (m_spec_space (↑(UInt8.toNat c) : Int)) fun (r : Bool) => bif !r then Option.some (Stp.nx (Prod.fst x, Prod.fst (Prod.snd x), Prod.fst (Prod.snd (Prod.snd x)), Go.IntKind.wrap Go.IntKind.i64 (Prod.snd (Prod.snd (Prod.snd x)) + (1 : Int)))) else bif Decidable.decide (Prod.fst (Prod.snd (Prod.snd x)) < Prod.snd (Prod.snd (Prod.snd x))) then Option.bind (subL (Prod.fst x) (Prod.fst (Prod.snd (Prod.snd x))) (Prod.snd (Prod.snd (Prod.snd x)))) fun (m : List UInt8) => Option.bind (appL (Prod.fst (Prod.snd x)) [m]) fun (r : List (List UInt8)) => Option.some (Stp.nx (Prod.fst x, r, Go.IntKind.wrap Go.IntKind.i64 (Prod.snd (Prod.snd (Prod.snd x)) + (1 : Int)), Go.IntKind.wrap Go.IntKind.i64 (Prod.snd (Prod.snd (Prod.snd x)) + (1 : Int)))) else Option.some (Stp.nx (Prod.fst x, Prod.fst (Prod.snd x), Go.IntKind.wrap Go.IntKind.i64 (Prod.snd (Prod.snd (Prod.snd x)) + (1 : Int)), Go.IntKind.wrap Go.IntKind.i64 (Prod.snd (Prod.snd (Prod.snd x)) + (1 : Int)))) else bif Decidable.decide (Prod.fst (Prod.snd (Prod.snd x)) < Prod.snd (Prod.snd (Prod.snd x))) then Option.bind (subL (Prod.fst x) (Prod.fst (Prod.snd (Prod.snd x))) (Prod.snd (Prod.snd (Prod.snd x)))) fun (m : List UInt8) => Option.bind (appL (Prod.fst (Prod.snd x)) [m]) fun (r : List (List UInt8)) => Option.some (Stp.nx (Prod.fst x, r, Go.IntKind.wrap Go.IntKind.i64 (Prod.snd (Prod.snd (Prod.snd x)) + (1 : Int)), Go.IntKind.wrap Go.IntKind.i64 (Prod.snd (Prod.snd (Prod.snd x)) + (1 : Int)))) else Option.some (Stp.nx (Prod.fst x, Prod.fst (Prod.snd x), Go.IntKind.wrap Go.IntKind.i64 (Prod.snd (Prod.snd (Prod.snd x)) + (1 : Int)), Go.IntKind.wrap Go.IntKind.i64 (Prod.snd (Prod.snd (Prod.snd x)) + (1 : Int)))) else Option.some (Stp.out (Prod.fst (Prod.snd x)))

noncomputable def m_spec_WordsOf : Tup p_spec_WordsOf → Option (Tup q_spec_WordsOf) := fun (x : List UInt8) => Option.bind (loopO m_spec_WordsOf_0 (x, [], (0 : Int), (0 : Int))) fun (y : List (List UInt8)) => Option.some y

noncomputable def cx_spec_WordsOf : Cx := ⟨tb, lookE [(80, e_spec_space)], lookS []⟩

theorem ck_spec_WordsOf : CxOK Try.prog (cx_spec_WordsOf) := cx_ok tb_ok (.cons ok_spec_space Try.call80 .nil)

noncomputable def c_spec_WordsOf_0 : Code := loopAt (Go.Proofs.Try.f87.body.getD .skip) 0

noncomputable def l_spec_WordsOf_0 : LEnt := ⟨p_spec_WordsOf_0, x_spec_WordsOf_0, loopO (m_spec_WordsOf_0)⟩

theorem lo_spec_WordsOf_0 : LOK Try.prog 36 0 false (l_spec_WordsOf_0) c_spec_WordsOf_0 := loop_ok (body := m_spec_WordsOf_0) (L := lookL []) (ck_spec_WordsOf) mixed (ls_ok (l := []) (by kernel_rfl) .nil) (by intro x; kernel_rfl) (fun x y h => loopO_iff.1 h)

noncomputable def e_spec_WordsOf : Ent := ⟨0, p_spec_WordsOf, q_spec_WordsOf, m_spec_WordsOf⟩
theorem ok_spec_WordsOf : FnOK Try.prog 87 e_spec_WordsOf := fn_ok (L := lookL [(0, l_spec_WordsOf_0)]) ck_spec_WordsOf mixed Try.func87 rfl (by kernel_rfl) (by kernel_rfl) (ls_ok (l := [(0, c_spec_WordsOf_0)]) (by kernel_rfl) (.cons rfl (lo_spec_WordsOf_0) .nil)) (by intro x; kernel_rfl)

/-! spec.wordy -/
abbrev p_spec_wordy : Pt := [(0, .int .i64)]
abbrev q_spec_wordy : Pt := [(0, .bool)]

noncomputable def m_spec_wordy : Tup p_spec_wordy → Option (Tup q_spec_wordy) := fun (x : Int) => bif Decidable.decide (x = (16 : Int)) then Option.some Bool.true else bif Decidable.decide (x = (17 : Int)) then Option.some Bool.true else Option.some (Decidable.decide (x = (15 : Int)))

noncomputable def cx_spec_wordy : Cx := ⟨tb, lookE [], lookS []⟩

theorem ck_spec_wordy : CxOK Try.prog (cx_spec_wordy) := cx_ok tb_ok .nil

noncomputable def e_spec_wordy : Ent := ⟨0, p_spec_wordy, q_spec_wordy, m_spec_wordy⟩
theorem ok_spec_wordy : FnOK Try.prog 56 e_spec_wordy := fn_ok (L := lookL []) ck_spec_wordy mixed Try.func56 rfl (by kernel_rfl) (by kernel_rfl) (ls_ok (l := []) (by kernel_rfl) .nil) (by intro x; kernel_rfl)

/-! spec.truth -/
abbrev p_spec_truth : Pt := [(0, .bool)]
abbrev q_spec_truth : Pt := [(0, .int .i64)]

noncomputable def m_spec_truth : Tup p_spec_truth → Option (Tup q_spec_truth) := fun (x : Bool) => bif x then Option.some (1 : Int) else Option.some (0 : Int)

noncomputable def cx_spec_truth : Cx := ⟨tb, lookE [], lookS []⟩

theorem ck_spec_truth : CxOK Try.prog (cx_spec_truth) := cx_ok tb_ok .nil

noncomputable def e_spec_truth : Ent := ⟨0, p_spec_truth, q_spec_truth, m_spec_truth⟩
theorem ok_spec_truth : FnOK Try.prog 69 e_spec_truth := fn_ok (L := lookL []) ck_spec_truth mixed Try.func69 rfl (by kernel_rfl) (by kernel_rfl) (ls_ok (l := []) (by kernel_rfl) .nil) (by intro x; kernel_rfl)

/-! spec.Elements -/
abbrev p_spec_Elements : Pt := [(0, .lst .node), (1, .int .i64)]
abbrev q_spec_Elements : Pt := [(0, .own .int 3)]

abbrev p_spec_Elements_0 : Pt := [(0, .lst .node), (5, .own .int 3), (6, .own .int 3), (7, .int .i64)]
abbrev x_spec_Elements_0 : List (Xt × Pt) := [(.ex 0, [(5, .own .int 3)])]
noncomputable def m_spec_Elements_0 : Tup p_spec_Elements_0 → Option (Stp (Tup p_spec_Elements_0) (SumT (x_spec_Elements_0.map (·.2)))) := fun (x : List Node × List Int × List Int × Int) => bif Decidable.decide (Prod.snd (Prod.snd (Prod.snd x)) < (↑(List.length (Prod.fst (Prod.snd (Prod.snd x)))) : Int)) then Option.bind (atI (Prod.fst (Prod.snd (Prod.snd x))) (Prod.snd (Prod.snd (Prod.snd x)))) fun (x_1 : Int) => Option.bind (Prod.fst (Prod.snd (Prod.snd x)))[Int.toNat (Prod.snd (Prod.snd (Prod.snd x)))]? fun (v : Int) => Option.bind (atI (Prod.fst x) v) fun (v : Node) => bif Decidable.decide (Node.kind v = (3 : Int)) then Option.bind (atI (Prod.fst (Prod.snd (Prod.snd x))) (Prod.snd (Prod.snd (Prod.snd x)))) fun (x_2 : Int) => Option.bind (Prod.fst (Prod.snd (Prod.snd x)))[Int.toNat (Prod.snd (Prod.snd (Prod.snd x)))]? fun (v : Int) => Option.bind (appL (Prod.fst (Prod.snd x)) [v]) fun (r : List Int) => Option.some (Stp.nx (Prod.fst x, r, Prod.fst (Prod.snd (Prod.snd x)), Go.IntKind.wrap Go.IntKind.i64 (Prod.snd (Prod.snd (Prod.snd x)) + (1 : Int)))) else Option.some (Stp.nx (Prod.fst x, Prod.fst (Prod.snd x), Prod.fst (Prod.snd (Prod.snd x)), Go.IntKind.wrap Go.IntKind.i64 (Prod.snd (Prod.snd (Prod.snd x)) + (1 : Int)))) else Option.some (Stp.out (Prod.fst (Prod.snd x)))

noncomputable def m_spec_Elements : Tup p_spec_Elements → Option (Tup q_spec_Elements) := fun (x : List Node × Int) => Option.bind (m_spec_Kids (Prod.fst x, Prod.snd x)) fun (r : List Int) => Option.bind (loopO m_spec_Elements_0 (Prod.fst x, [], r, (0 : Int))) fun (y : List Int) => Option.some y

noncomputable def cx_spec_Elements : Cx := ⟨tb, lookE [(63, e_spec_Kids)], lookS []⟩

theorem ck_spec_Elements : CxOK Try.prog (cx_spec_Elements) := cx_ok tb_ok (.cons ok_spec_Kids Try.call63 .nil)

noncomputable def c_spec_Elements_0 : Code := loopAt (Go.Proofs.Try.f88.body.getD .skip) 0

noncomputable def l_spec_Elements_0 : LEnt := ⟨p_spec_Elements_0, x_spec_Elements_0, loopO (m_spec_Elements_0)⟩

theorem lo_spec_Elements_0 : LOK Try.prog 34 0 false (l_spec_Elements_0) c_spec_Elements_0 := loop_ok (body := m_spec_Elements_0) (L := lookL []) (ck_spec_Elements) mixed (ls_ok (l := []) (by kernel_rfl) .nil) (by intro x; kernel_rfl) (fun x y h => loopO_iff.1 h)

noncomputable def e_spec_Elements : Ent := ⟨0, p_spec_Elements, q_spec_Elements, m_spec_Elements⟩
theorem ok_spec_Elements : FnOK Try.prog 88 e_spec_Elements := fn_ok (L := lookL [(0, l_spec_Elements_0)]) ck_spec_Elements mixed Try.func88 rfl (by kernel_rfl) (by kernel_rfl) (ls_ok (l := [(0, c_spec_Elements_0)]) (by kernel_rfl) (.cons rfl (lo_spec_Elements_0) .nil)) (by intro x; kernel_rfl)

/-! spec.Attr -/
abbrev p_spec_Attr : Pt := [(0, .el .node), (1, .str)]
abbrev q_spec_Attr : Pt := [(0, .str), (1, .bool)]

abbrev p_spec_Attr_0 : Pt := [(1, .str), (2, .blk .node 55), (6, .int .i64)]
abbrev x_spec_Attr_0 : List (Xt × Pt) := [(.ex 0, []), (.rt, [(4, .str), (5, .bool)])]
noncomputable def m_spec_Attr_0 : Tup p_spec_Attr_0 → Option (Stp (Tup p_spec_Attr_0) (SumT (x_spec_Attr_0.map (·.2)))) := fun (x : List UInt8 × Node × Int) => bif Decidable.decide (Prod.snd (Prod.snd x) < (↑(List.length (Node.attrs (Prod.fst (Prod.snd x)))) : Int)) then Option.bind (atI (Node.attrs (Prod.fst (Prod.snd x))) (Prod.snd (Prod.snd x))) fun (v : Attr) => bif Decidable.decide (Attr.key v = Prod.fst x) then Option.bind (atI (Node.attrs (Prod.fst (Prod.snd x))) (Prod.snd (Prod.snd x))) fun (v : Attr) => Option.some (Stp.out (Sum.inr (Attr.val v, Bool.true))) else Option.some (Stp.nx (Prod.fst x, { kind := Node.kind (Prod.fst (Prod.snd x)), tag := Node.tag (Prod.fst (Prod.snd x)), text := Node.text (Prod.fst (Prod.snd x)), attrs := Node.attrs (Prod.fst (Prod.snd x)), size := Node.size (Prod.fst (Prod.snd x)) }, Go.IntKind.wrap Go.IntKind.i64 (Prod.snd (Prod.snd x) + (1 : Int)))) else Option.some (Stp.out (Sum.inl PUnit.unit))

noncomputable def m_spec_Attr : Tup p_spec_Attr → Option (Tup q_spec_Attr) := fun (x : Node × List UInt8) => Option.bind (loopO m_spec_Attr_0 (Prod.snd x, { kind := Node.kind (Prod.fst x), tag := Node.tag (Prod.fst x), text := Node.text (Prod.fst x), attrs := Node.attrs (Prod.fst x), size := Node.size (Prod.fst x) }, (0 : Int))) fun (y : PUnit ⊕ List UInt8 × Bool) => selim (fun (y : PUnit) => Option.some ([], Bool.false)) (fun (y : List UInt8 × Bool) => Option.some (Prod.fst y, Prod.snd y)) y

noncomputable def cx_spec_Attr : Cx := ⟨tb, lookE [], lookS []⟩

theorem ck_spec_Attr : CxOK Try.prog (cx_spec_Attr) := cx_ok tb_ok .nil

noncomputable def c_spec_Attr_0 : Code := loopAt (Go.Proofs.Try.f89.body.getD .skip) 0

noncomputable def l_spec_Attr_0 : LEnt := ⟨p_spec_Attr_0, x_spec_Attr_0, loopO (m_spec_Attr_0)⟩

theorem lo_spec_Attr_0 : LOK Try.prog 28 0 false (l_spec_Attr_0) c_spec_Attr_0 := loop_ok (body := m_spec_Attr_0) (L := lookL []) (ck_spec_Attr) mixed (ls_ok (l := []) (by kernel_rfl) .nil) (by intro x; kernel_rfl) (fun x y h => loopO_iff.1 h)

noncomputable def e_spec_Attr : Ent := ⟨0, p_spec_Attr, q_spec_Attr, m_spec_Attr⟩
theorem ok_spec_Attr : FnOK Try.prog 89 e_spec_Attr := fn_ok (L := lookL [(0, l_spec_Attr_0)]) ck_spec_Attr mixed Try.func89 rfl (by kernel_rfl) (by kernel_rfl) (ls_ok (l := [(0, c_spec_Attr_0)]) (by kernel_rfl) (.cons rfl (lo_spec_Attr_0) .nil)) (by intro x; kernel_rfl)

/-! spec.either -/
abbrev p_spec_either : Pt := [(0, .int .i64), (1, .int .i64)]
abbrev q_spec_either : Pt := [(0, .int .i64)]

noncomputable def m_spec_either : Tup p_spec_either → Option (Tup q_spec_either) := fun (x : Int × Int) => bif Decidable.decide (Prod.fst x = (1 : Int)) then Option.some (1 : Int) else bif Decidable.decide (Prod.snd x = (1 : Int)) then Option.some (1 : Int) else Option.some (if Prod.fst x < Prod.snd x then Prod.snd x else Prod.fst x)

noncomputable def cx_spec_either : Cx := ⟨tb, lookE [], lookS []⟩

theorem ck_spec_either : CxOK Try.prog (cx_spec_either) := cx_ok tb_ok .nil

noncomputable def e_spec_either : Ent := ⟨0, p_spec_either, q_spec_either, m_spec_either⟩
theorem ok_spec_either : FnOK Try.prog 58 e_spec_either := fn_ok (L := lookL []) ck_spec_either mixed Try.func58 rfl (by kernel_rfl) (by kernel_rfl) (ls_ok (l := []) (by kernel_rfl) .nil) (by intro x; kernel_rfl)

/-! spec.both -/
abbrev p_spec_both : Pt := [(0, .int .i64), (1, .int .i64)]
abbrev q_spec_both : Pt := [(0, .int .i64)]

noncomputable def m_spec_both : Tup p_spec_both → Option (Tup q_spec_both) := fun (x : Int × Int) => bif Decidable.decide (Prod.fst x = (0 : Int)) then Option.some (0 : Int) else bif Decidable.decide (Prod.snd x = (0 : Int)) then Option.some (0 : Int) else Option.some (if Prod.fst x < Prod.snd x then Prod.snd x else Prod.fst x)

noncomputable def cx_spec_both : Cx := ⟨tb, lookE [], lookS []⟩

theorem ck_spec_both : CxOK Try.prog (cx_spec_both) := cx_ok tb_ok .nil

noncomputable def e_spec_both : Ent := ⟨0, p_spec_both, q_spec_both, m_spec_both⟩
theorem ok_spec_both : FnOK Try.prog 59 e_spec_both := fn_ok (L := lookL []) ck_spec_both mixed Try.func59 rfl (by kernel_rfl) (by kernel_rfl) (ls_ok (l := []) (by kernel_rfl) .nil) (by intro x; kernel_rfl)

/-! spec.turned -/
abbrev p_spec_turned : Pt := [(0, .int .i64)]
abbrev q_spec_turned : Pt := [(0, .int .i64)]

noncomputable def m_spec_turned : Tup p_spec_turned → Option (Tup q_spec_turned) := fun (x : Int) => bif Decidable.decide (x = (2 : Int)) then Option.some (2 : Int) else Option.some (Go.IntKind.wrap Go.IntKind.i64 ((1 : Int) - x))

noncomputable def cx_spec_turned : Cx := ⟨tb, lookE [], lookS []⟩

theorem ck_spec_turned : CxOK Try.prog (cx_spec_turned) := cx_ok tb_ok .nil

noncomputable def e_spec_turned : Ent := ⟨0, p_spec_turned, q_spec_turned, m_spec_turned⟩
theorem ok_spec_turned : FnOK Try.prog 61 e_spec_turned := fn_ok (L := lookL []) ck_spec_turned mixed Try.func61 rfl (by kernel_rfl) (by kernel_rfl) (ls_ok (l := []) (by kernel_rfl) .nil) (by intro x; kernel_rfl)

/-! spec.Picks -/
abbrev p_spec_Picks : Pt := [(0, .lst .sel), (1, .int .i64)]
abbrev q_spec_Picks : Pt := [(0, .own .int 3)]

abbrev p_spec_Picks_0 : Pt := [(0, .lst .sel), (1, .int .i64), (5, .own .int 3), (6, .int .i64)]
abbrev x_spec_Picks_0 : List (Xt × Pt) := [(.ex 0, [(5, .own .int 3)])]
noncomputable def m_spec_Picks_0 : Tup p_spec_Picks_0 → Option (Stp (Tup p_spec_Picks_0) (SumT (x_spec_Picks_0.map (·.2)))) := fun (x : List Sel × Int × List Int × Int) => Option.bind (atI (Prod.fst x) (Prod.fst (Prod.snd x))) fun (v : Sel) => bif Decidable.decide (Prod.snd (Prod.snd (Prod.snd x)) < Go.IntKind.wrap Go.IntKind.i64 (Prod.fst (Prod.snd x) + Sel.size v)) then Option.bind (appL (Prod.fst (Prod.snd (Prod.snd x))) [Prod.snd (Prod.snd (Prod.snd x))]) fun (r : List Int) => Option.bind (atI (Prod.fst x) (Prod.snd (Prod.snd (Prod.snd x)))) fun (v : Sel) => Option.some (Stp.nx (Prod.fst x, Prod.fst (Prod.snd x), r, Go.IntKind.wrap Go.IntKind.i64 (Prod.snd (Prod.snd (Prod.snd x)) + Sel.size v))) else Option.some (Stp.out (Prod.fst (Prod.snd (Prod.snd x))))

noncomputable def m_spec_Picks : Tup p_spec_Picks → Option (Tup q_spec_Picks) := fun (x : List Sel × Int) => Option.bind (loopO m_spec_Picks_0 (Prod.fst x, Prod.snd x, [], Go.IntKind.wrap Go.IntKind.i64 (Prod.snd x + (1 : Int)))) fun (y : List Int) => Option.some y

noncomputable def cx_spec_Picks : Cx := ⟨tb, lookE [], lookS []⟩

theorem ck_spec_Picks : CxOK Try.prog (cx_spec_Picks) := cx_ok tb_ok .nil

noncomputable def c_spec_Picks_0 : Code := loopAt (Go.Proofs.Try.f57.body.getD .skip) 0

noncomputable def l_spec_Picks_0 : LEnt := ⟨p_spec_Picks_0, x_spec_Picks_0, loopO (m_spec_Picks_0)⟩

theorem lo_spec_Picks_0 : LOK Try.prog 30 0 false (l_spec_Picks_0) c_spec_Picks_0 := loop_ok (body := m_spec_Picks_0) (L := lookL []) (ck_spec_Picks) mixed (ls_ok (l := []) (by kernel_rfl) .nil) (by intro x; kernel_rfl) (fun x y h => loopO_iff.1 h)

noncomputable def e_spec_Picks : Ent := ⟨0, p_spec_Picks, q_spec_Picks, m_spec_Picks⟩
theorem ok_spec_Picks : FnOK Try.prog 57 e_spec_Picks := fn_ok (L := lookL [(0, l_spec_Picks_0)]) ck_spec_Picks mixed Try.func57 rfl (by kernel_rfl) (by kernel_rfl) (ls_ok (l := [(0, c_spec_Picks_0)]) (by kernel_rfl) (.cons rfl (lo_spec_Picks_0) .nil)) (by intro x; kernel_rfl)

/-! spec.stands -/
abbrev p_spec_stands : Pt := [(0, .str), (1, .int .i64), (2, .str)]
abbrev q_spec_stands : Pt := [(0, .bool)]

noncomputable def m_spec_stands : Tup p_spec_stands → Option (Tup q_spec_stands) := fun (x : List UInt8 × Int × List UInt8) => bif Decidable.decide ((0 : Int) ≤ Prod.fst (Prod.snd x)) then bif Decidable.decide (Go.IntKind.wrap Go.IntKind.i64 (Prod.fst (Prod.snd x) + (↑(List.length (Prod.snd (Prod.snd x))) : Int)) ≤ (↑(List.length (Prod.fst x)) : Int)) then Option.bind (subL (Prod.fst x) (Prod.fst (Prod.snd x)) (Go.IntKind.wrap Go.IntKind.i64 (Prod.fst (Prod.snd x) + (↑(List.length (Prod.snd (Prod.snd x))) : Int)))) fun (m : List UInt8) => Option.some (Decidable.decide (m = Prod.snd (Prod.snd x))) else Option.some Bool.false else Option.some Bool.false

noncomputable def cx_spec_stands : Cx := ⟨tb, lookE [], lookS []⟩

theorem ck_spec_stands : CxOK Try.prog (cx_spec_stands) := cx_ok tb_ok .nil

noncomputable def e_spec_stands : Ent := ⟨0, p_spec_stands, q_spec_stands, m_spec_stands⟩
theorem ok_spec_stands : FnOK Try.prog 70 e_spec_stands := fn_ok (L := lookL []) ck_spec_stands mixed Try.func70 rfl (by kernel_rfl) (by kernel_rfl) (ls_ok (l := []) (by kernel_rfl) .nil) (by intro x; kernel_rfl)

/-! spec.inside -/
abbrev p_spec_inside : Pt := [(0, .str), (1, .str)]
abbrev q_spec_inside : Pt := [(0, .bool)]

abbrev p_spec_inside_0 : Pt := [(0, .str), (1, .str), (5, .int .i64)]
abbrev x_spec_inside_0 : List (Xt × Pt) := [(.ex 0, []), (.rt, [(4, .bool)])]
noncomputable def m_spec_inside_0 : Tup p_spec_inside_0 → Option (Stp (Tup p_spec_inside_0) (SumT (x_spec_inside_0.map (·.2)))) := fun (x : List UInt8 × List UInt8 × Int) => bif Decidable.decide (Go.IntKind.wrap Go.IntKind.i64 (Prod.snd (Prod.snd x) + (↑(List.length (Prod.fst (Prod.snd x))) : Int)) ≤ (↑(List.length (Prod.fst x)) : Int)) then Option.bind (m_spec_stands (Prod.fst x, Prod.snd (Prod.snd x), Prod.fst (Prod.snd x))) fun (r : Bool) => bif r then Option.some (Stp.out (Sum.inr Bool.true)) else Option.some (Stp.nx (Prod.fst x, Prod.fst (Prod.snd x), Go.IntKind.wrap Go.IntKind.i64 (Prod.snd (Prod.snd x) + (1 : Int)))) else Option.some (Stp.out (Sum.inl PUnit.unit))

noncomputable def m_spec_inside : Tup p_spec_inside → Option (Tup q_spec_inside) := fun (x : List UInt8 × List UInt8) => Option.bind (loopO m_spec_inside_0 (Prod.fst x, Prod.snd x, (0 : Int))) fun (y : PUnit ⊕ Bool) => selim (fun (y : PUnit) => Option.some Bool.false) (fun (y : Bool) => Option.some y) y

noncomputable def cx_spec_inside : Cx := ⟨tb, lookE [(70, e_spec_stands)], lookS []⟩

theorem ck_spec_inside : CxOK Try.prog (cx_spec_inside) := cx_ok tb_ok (.cons ok_spec_stands Try.call70 .nil)

noncomputable def c_spec_inside_0 : Code := loopAt (Go.Proofs.Try.f49.body.getD .skip) 0

noncomputable def l_spec_inside_0 : LEnt := ⟨p_spec_inside_0, x_spec_inside_0, loopO (m_spec_inside_0)⟩

theorem lo_spec_inside_0 : LOK Try.prog 19 0 false (l_spec_inside_0) c_spec_inside_0 := loop_ok (body := m_spec_inside_0) (L := lookL []) (ck_spec_inside) mixed (ls_ok (l := []) (by kernel_rfl) .nil) (by intro x; kernel_rfl) (fun x y h => loopO_iff.1 h)

noncomputable def e_spec_inside : Ent := ⟨0, p_spec_inside, q_spec_inside, m_spec_inside⟩
theorem ok_spec_inside : FnOK Try.prog 49 e_spec_inside := fn_ok (L := lookL [(0, l_spec_inside_0)]) ck_spec_inside mixed Try.func49 rfl (by kernel_rfl) (by kernel_rfl) (ls_ok (l := [(0, c_spec_inside_0)]) (by kernel_rfl) (.cons rfl (lo_spec_inside_0) .nil)) (by intro x; kernel_rfl)

/-! spec.ascii -/
abbrev p_spec_ascii : Pt := [(0, .str)]
abbrev q_spec_ascii : Pt := [(0, .bool)]

abbrev p_spec_ascii_0 : Pt := [(0, .str), (3, .int .i64)]
abbrev x_spec_ascii_0 : List (Xt × Pt) := [(.ex 0, []), (.rt, [(2, .bool)])]
noncomputable def m_spec_ascii_0 : Tup p_spec_ascii_0 → Option (Stp (Tup p_spec_ascii_0) (SumT (x_spec_ascii_0.map (·.2)))) := fun (x : List UInt8 × Int) => bif Decidable.decide (Prod.snd x < (↑(List.length (Prod.fst x)) : Int)) then Option.bind (atI (Prod.fst x) (Prod.snd x)) fun (c : UInt8) => bif Decidable.decide ((128 : Int) ≤ (↑(UInt8.toNat c) : Int)) then Option.some (Stp.out (Sum.inr Bool.false)) else Option.some (Stp.nx (Prod.fst x, Go.IntKind.wrap Go.IntKind.i64 (Prod.snd x + (1 : Int)))) else Option.some (Stp.out (Sum.inl PUnit.unit))

noncomputable def m_spec_ascii : Tup p_spec_ascii → Option (Tup q_spec_ascii) := fun (x : List UInt8) => Option.bind (loopO m_spec_ascii_0 (x, (0 : Int))) fun (y : PUnit ⊕ Bool) => selim (fun (y : PUnit) => Option.some Bool.true) (fun (y : Bool) => Option.some y) y

noncomputable def cx_spec_ascii : Cx := ⟨tb, lookE [], lookS []⟩

theorem ck_spec_ascii : CxOK Try.prog (cx_spec_ascii) := cx_ok tb_ok .nil

noncomputable def c_spec_ascii_0 : Code := loopAt (Go.Proofs.Try.f48.body.getD .skip) 0

noncomputable def l_spec_ascii_0 : LEnt := ⟨p_spec_ascii_0, x_spec_ascii_0, loopO (m_spec_ascii_0)⟩

theorem lo_spec_ascii_0 : LOK Try.prog 14 0 false (l_spec_ascii_0) c_spec_ascii_0 := loop_ok (body := m_spec_ascii_0) (L := lookL []) (ck_spec_ascii) mixed (ls_ok (l := []) (by kernel_rfl) .nil) (by intro x; kernel_rfl) (fun x y h => loopO_iff.1 h)

noncomputable def e_spec_ascii : Ent := ⟨0, p_spec_ascii, q_spec_ascii, m_spec_ascii⟩
theorem ok_spec_ascii : FnOK Try.prog 48 e_spec_ascii := fn_ok (L := lookL [(0, l_spec_ascii_0)]) ck_spec_ascii mixed Try.func48 rfl (by kernel_rfl) (by kernel_rfl) (ls_ok (l := [(0, c_spec_ascii_0)]) (by kernel_rfl) (.cons rfl (lo_spec_ascii_0) .nil)) (by intro x; kernel_rfl)

/-! spec.Word -/
abbrev p_spec_Word : Pt := [(0, .str), (1, .str)]
abbrev q_spec_Word : Pt := [(0, .bool)]

abbrev p_spec_Word_0 : Pt := [(1, .str), (5, .own .str 9), (6, .int .i64)]
abbrev x_spec_Word_0 : List (Xt × Pt) := [(.ex 0, []), (.rt, [(4, .bool)])]
noncomputable def m_spec_Word_0 : Tup p_spec_Word_0 → Option (Stp (Tup p_spec_Word_0) (SumT (x_spec_Word_0.map (·.2)))) := fun (x : List UInt8 × List (List UInt8) × Int) => bif Decidable.decide (Prod.snd (Prod.snd x) < (↑(List.length (Prod.fst (Prod.snd x))) : Int)) then Option.bind (atI (Prod.fst (Prod.snd x)) (Prod.snd (Prod.snd x))) fun (x_1 : List UInt8) => Option.bind (Prod.fst (Prod.snd x))[Int.toNat (Prod.snd (Prod.snd x))]? fun (v : List UInt8) => bif Decidable.decide (v = Prod.fst x) then Option.some (Stp.out (Sum.inr Bool.true)) else Option.some (Stp.nx (Prod.fst x, Prod.fst (Prod.snd x), Go.IntKind.wrap Go.IntKind.i64 (Prod.snd (Prod.snd x) + (1 : Int)))) else Option.some (Stp.out (Sum.inl PUnit.unit))

noncomputable def m_spec_Word : Tup p_spec_Word → Option (Tup q_spec_Word) := fun (x : List UInt8 × List UInt8) => Option.bind (m_spec_WordsOf (Prod.fst x)) fun (r : List (List UInt8)) => Option.bind (loopO m_spec_Word_0 (Prod.snd x, r, (0 : Int))) fun (y : PUnit ⊕ Bool) => selim (fun (y : PUnit) => Option.some Bool.false) (fun (y : Bool) => Option.some y) y

noncomputable def cx_spec_Word : Cx := ⟨tb, lookE [(87, e_spec_WordsOf)], lookS []⟩

theorem ck_spec_Word : CxOK Try.prog (cx_spec_Word) := cx_ok tb_ok (.cons ok_spec_WordsOf Try.call87 .nil)

noncomputable def c_spec_Word_0 : Code := loopAt (Go.Proofs.Try.f72.body.getD .skip) 0

noncomputable def l_spec_Word_0 : LEnt := ⟨p_spec_Word_0, x_spec_Word_0, loopO (m_spec_Word_0)⟩

theorem lo_spec_Word_0 : LOK Try.prog 21 0 false (l_spec_Word_0) c_spec_Word_0 := loop_ok (body := m_spec_Word_0) (L := lookL []) (ck_spec_Word) mixed (ls_ok (l := []) (by kernel_rfl) .nil) (by intro x; kernel_rfl) (fun x y h => loopO_iff.1 h)

noncomputable def e_spec_Word : Ent := ⟨0, p_spec_Word, q_spec_Word, m_spec_Word⟩
theorem ok_spec_Word : FnOK Try.prog 72 e_spec_Word := fn_ok (L := lookL [(0, l_spec_Word_0)]) ck_spec_Word mixed Try.func72 rfl (by kernel_rfl) (by kernel_rfl) (ls_ok (l := [(0, c_spec_Word_0)]) (by kernel_rfl) (.cons rfl (lo_spec_Word_0) .nil)) (by intro x; kernel_rfl)

/-! spec.Reached -/
abbrev p_spec_Reached : Pt := [(0, .int .i64), (1, .int .i64), (2, .int .i64)]
abbrev q_spec_Reached : Pt := [(0, .bool)]

abbrev p_spec_Reached_0 : Pt := [(0, .int .i64), (1, .int .i64), (2, .int .i64), (7, .int .i64)]
abbrev x_spec_Reached_0 : List (Xt × Pt) := [(.ex 0, []), (.rt, [(6, .bool)])]
noncomputable def m_spec_Reached_0 : Tup p_spec_Reached_0 → Option (Stp (Tup p_spec_Reached_0) (SumT (x_spec_Reached_0.map (·.2)))) := fun (x : Int × Int × Int × Int) => bif Decidable.decide (Prod.snd (Prod.snd (Prod.snd x)) ≤ (1200 : Int)) then bif Decidable.decide (Go.IntKind.wrap Go.IntKind.i64 (Go.IntKind.wrap Go.IntKind.i64 (Prod.fst x * Prod.snd (Prod.snd (Prod.snd x))) + Prod.fst (Prod.snd x)) = Prod.fst (Prod.snd (Prod.snd x))) then Option.some (Stp.out (Sum.inr Bool.true)) else Option.some (Stp.nx (Prod.fst x, Prod.fst (Prod.snd x), Prod.fst (Prod.snd (Prod.snd x)), Go.IntKind.wrap Go.IntKind.i64 (Prod.snd (Prod.snd (Prod.snd x)) + (1 : Int)))) else Option.some (Stp.out (Sum.inl PUnit.unit))

noncomputable def m_spec_Reached : Tup p_spec_Reached → Option (Tup q_spec_Reached) := fun (x : Int × Int × Int) => Option.bind (loopO m_spec_Reached_0 (Prod.fst x, Prod.fst (Prod.snd x), Prod.snd (Prod.snd x), (0 : Int))) fun (y : PUnit ⊕ Bool) => selim (fun (y : PUnit) => Option.some Bool.false) (fun (y : Bool) => Option.some y) y

noncomputable def cx_spec_Reached : Cx := ⟨tb, lookE [], lookS []⟩

theorem ck_spec_Reached : CxOK Try.prog (cx_spec_Reached) := cx_ok tb_ok .nil

noncomputable def c_spec_Reached_0 : Code := loopAt (Go.Proofs.Try.f119.body.getD .skip) 0

noncomputable def l_spec_Reached_0 : LEnt := ⟨p_spec_Reached_0, x_spec_Reached_0, loopO (m_spec_Reached_0)⟩

theorem lo_spec_Reached_0 : LOK Try.prog 19 0 false (l_spec_Reached_0) c_spec_Reached_0 := loop_ok (body := m_spec_Reached_0) (L := lookL []) (ck_spec_Reached) mixed (ls_ok (l := []) (by kernel_rfl) .nil) (by intro x; kernel_rfl) (fun x y h => loopO_iff.1 h)

noncomputable def e_spec_Reached : Ent := ⟨0, p_spec_Reached, q_spec_Reached, m_spec_Reached⟩
theorem ok_spec_Reached : FnOK Try.prog 119 e_spec_Reached := fn_ok (L := lookL [(0, l_spec_Reached_0)]) ck_spec_Reached mixed Try.func119 rfl (by kernel_rfl) (by kernel_rfl) (ls_ok (l := [(0, c_spec_Reached_0)]) (by kernel_rfl) (.cons rfl (lo_spec_Reached_0) .nil)) (by intro x; kernel_rfl)

/-! spec.TextOf -/
abbrev p_spec_TextOf : Pt := [(0, .lst .node), (1, .int .i64)]
abbrev q_spec_TextOf : Pt := [(0, .str)]

abbrev p_spec_TextOf_0 : Pt := [(0, .lst .node), (1, .int .i64), (5, .str), (6, .int .i64)]
abbrev x_spec_TextOf_0 : List (Xt × Pt) := [(.ex 0, [(5, .str)])]
noncomputable def m_spec_TextOf_0 : Tup p_spec_TextOf_0 → Option (Stp (Tup p_spec_TextOf_0) (SumT (x_spec_TextOf_0.map (·.2)))) := fun (x : List Node × Int × List UInt8 × Int) => Option.bind (atI (Prod.fst x) (Prod.fst (Prod.snd x))) fun (v : Node) => bif Decidable.decide (Prod.snd (Prod.snd (Prod.snd x)) < Go.IntKind.wrap Go.IntKind.i64 (Prod.fst (Prod.snd x) + Node.size v)) then Option.bind (atI (Prod.fst x) (Prod.snd (Prod.snd (Prod.snd x)))) fun (v : Node) => bif Decidable.decide (Node.kind v = (4 : Int)) then Option.bind (atI (Prod.fst x) (Prod.snd (Prod.snd (Prod.snd x)))) fun (v : Node) => Option.bind (catS (Prod.fst (Prod.snd (Prod.snd x))) (Node.text v)) fun (r : List UInt8) => Option.some (Stp.nx (Prod.fst x, Prod.fst (Prod.snd x), r, Go.IntKind.wrap Go.IntKind.i64 (Prod.snd (Prod.snd (Prod.snd x)) + (1 : Int)))) else Option.some (Stp.nx (Prod.fst x, Prod.fst (Prod.snd x), Prod.fst (Prod.snd (Prod.snd x)), Go.IntKind.wrap Go.IntKind.i64 (Prod.snd (Prod.snd (Prod.snd x)) + (1 : Int)))) else Option.some (Stp.out (Prod.fst (Prod.snd (Prod.snd x))))

noncomputable def m_spec_TextOf : Tup p_spec_TextOf → Option (Tup q_spec_TextOf) := fun (x : List Node × Int) => Option.bind (loopO m_spec_TextOf_0 (Prod.fst x, Prod.snd x, [], Prod.snd x)) fun (y : List UInt8) => Option.some y

noncomputable def cx_spec_TextOf : Cx := ⟨tb, lookE [], lookS []⟩

theorem ck_spec_TextOf : CxOK Try.prog (cx_spec_TextOf) := cx_ok tb_ok .nil

noncomputable def c_spec_TextOf_0 : Code := loopAt (Go.Proofs.Try.f94.body.getD .skip) 0

noncomputable def l_spec_TextOf_0 : LEnt := ⟨p_spec_TextOf_0, x_spec_TextOf_0, loopO (m_spec_TextOf_0)⟩

theorem lo_spec_TextOf_0 : LOK Try.prog 33 0 false (l_spec_TextOf_0) c_spec_TextOf_0 := loop_ok (body := m_spec_TextOf_0) (L := lookL []) (ck_spec_TextOf) mixed (ls_ok (l := []) (by kernel_rfl) .nil) (by intro x; kernel_rfl) (fun x y h => loopO_iff.1 h)

noncomputable def e_spec_TextOf : Ent := ⟨0, p_spec_TextOf, q_spec_TextOf, m_spec_TextOf⟩
theorem ok_spec_TextOf : FnOK Try.prog 94 e_spec_TextOf := fn_ok (L := lookL [(0, l_spec_TextOf_0)]) ck_spec_TextOf mixed Try.func94 rfl (by kernel_rfl) (by kernel_rfl) (ls_ok (l := [(0, c_spec_TextOf_0)]) (by kernel_rfl) (.cons rfl (lo_spec_TextOf_0) .nil)) (by intro x; kernel_rfl)

/-! spec.OwnText -/
abbrev p_spec_OwnText : Pt := [(0, .lst .node), (1, .int .i64)]
abbrev q_spec_OwnText : Pt := [(0, .str)]

abbrev p_spec_OwnText_0 : Pt := [(0, .lst .node), (5, .str), (6, .own .int 3), (7, .int .i64)]
abbrev x_spec_OwnText_0 : List (Xt × Pt) := [(.ex 0, [(5, .str)])]
noncomputable def m_spec_OwnText_0 : Tup p_spec_OwnText_0 → Option (Stp (Tup p_spec_OwnText_0) (SumT (x_spec_OwnText_0.map (·.2)))) := fun (x : List Node × List UInt8 × List Int × Int) => bif Decidable.decide (Prod.snd (Prod.snd (Prod.snd x)) < (↑(List.length (Prod.fst (Prod.snd (Prod.snd x)))) : Int)) then Option.bind (atI (Prod.fst (Prod.snd (Prod.snd x))) (Prod.snd (Prod.snd (Prod.snd x)))) fun (x_1 : Int) => Option.bind (Prod.fst (Prod.snd (Prod.snd x)))[Int.toNat (Prod.snd (Prod.snd (Prod.snd x)))]? fun (v : Int) => Option.bind (atI (Prod.fst x) v) fun (v : Node) => bif Decidable.decide (Node.kind v = (4 : Int)) then Option.bind (atI (Prod.fst (Prod.snd (Prod.snd x))) (Prod.snd (Prod.snd (Prod.snd x)))) fun (x_2 : Int) => Option.bind (Prod.fst (Prod.snd (Prod.snd x)))[Int.toNat (Prod.snd (Prod.snd (Prod.snd x)))]? fun (v : Int) => Option.bind (atI (Prod.fst x) v) fun (v : Node) => Option.bind (catS (Prod.fst (Prod.snd x)) (Node.text v)) fun (r : List UInt8) => Option.some (Stp.nx (Prod.fst x, r, Prod.fst (Prod.snd (Prod.snd x)), Go.IntKind.wrap Go.IntKind.i64 (Prod.snd (Prod.snd (Prod.snd x)) + (1 : Int)))) else Option.some (Stp.nx (Prod.fst x, Prod.fst (Prod.snd x), Prod.fst (Prod.snd (Prod.snd x)), Go.IntKind.wrap Go.IntKind.i64 (Prod.snd (Prod.snd (Prod.snd x)) + (1 : Int)))) else Option.some (Stp.out (Prod.fst (Prod.snd x)))

noncomputable def m_spec_OwnText : Tup p_spec_OwnText → Option (Tup q_spec_OwnText) := fun (x : List Node × Int) => Option.bind (m_spec_Kids (Prod.fst x, Prod.snd x)) fun (r : List Int) => Option.bind (loopO m_spec_OwnText_0 (Prod.fst x, [], r, (0 : Int))) fun (y : List UInt8) => Option.some y

noncomputable def cx_spec_OwnText : Cx := ⟨tb, lookE [(63, e_spec_Kids)], lookS []⟩

theorem ck_spec_OwnText : CxOK Try.prog (cx_spec_OwnText) := cx_ok tb_ok (.cons ok_spec_Kids Try.call63 .nil)

noncomputable def c_spec_OwnText_0 : Code := loopAt (Go.Proofs.Try.f95.body.getD .skip) 0

noncomputable def l_spec_OwnText_0 : LEnt := ⟨p_spec_OwnText_0, x_spec_OwnText_0, loopO (m_spec_OwnText_0)⟩

theorem lo_spec_OwnText_0 : LOK Try.prog 37 0 false (l_spec_OwnText_0) c_spec_OwnText_0 := loop_ok (body := m_spec_OwnText_0) (L := lookL []) (ck_spec_OwnText) mixed (ls_ok (l := []) (by kernel_rfl) .nil) (by intro x; kernel_rfl) (fun x y h => loopO_iff.1 h)

noncomputable def e_spec_OwnText : Ent := ⟨0, p_spec_OwnText, q_spec_OwnText, m_spec_OwnText⟩
theorem ok_spec_OwnText : FnOK Try.prog 95 e_spec_OwnText := fn_ok (L := lookL [(0, l_spec_OwnText_0)]) ck_spec_OwnText mixed Try.func95 rfl (by kernel_rfl) (by kernel_rfl) (ls_ok (l := [(0, c_spec_OwnText_0)]) (by kernel_rfl) (.cons rfl (lo_spec_OwnText_0) .nil)) (by intro x; kernel_rfl)

/-! spec.isOne -/
abbrev p_spec_isOne : Pt := [(0, .str), (1, .lst .str)]
abbrev q_spec_isOne : Pt := [(0, .bool)]

abbrev p_spec_isOne_0 : Pt := [(0, .str), (1, .lst .str), (5, .int .i64)]
abbrev x_spec_isOne_0 : List (Xt × Pt) := [(.ex 0, []), (.rt, [(4, .bool)])]
noncomputable def m_spec_isOne_0 : Tup p_spec_isOne_0 → Option (Stp (Tup p_spec_isOne_0) (SumT (x_spec_isOne_0.map (·.2)))) := fun (x : List UInt8 × List (List UInt8) × Int) => bif Decidable.decide (Prod.snd (Prod.snd x) < (↑(List.length (Prod.fst (Prod.snd x))) : Int)) then Option.bind (atI (Prod.fst (Prod.snd x)) (Prod.snd (Prod.snd x))) fun (v : List UInt8) => bif Decidable.decide (v = Prod.fst x) then Option.some (Stp.out (Sum.inr Bool.true)) else Option.some (Stp.nx (Prod.fst x, Prod.fst (Prod.snd x), Go.IntKind.wrap Go.IntKind.i64 (Prod.snd (Prod.snd x) + (1 : Int)))) else Option.some (Stp.out (Sum.inl PUnit.unit))

noncomputable def m_spec_isOne : Tup p_spec_isOne → Option (Tup q_spec_isOne) := fun (x : List UInt8 × List (List UInt8)) => Option.bind (loopO m_spec_isOne_0 (Prod.fst x, Prod.snd x, (0 : Int))) fun (y : PUnit ⊕ Bool) => selim (fun (y : PUnit) => Option.some Bool.false) (fun (y : Bool) => Option.some y) y

noncomputable def cx_spec_isOne : Cx := ⟨tb, lookE [], lookS []⟩

theorem ck_spec_isOne : CxOK Try.prog (cx_spec_isOne) := cx_ok tb_ok .nil

noncomputable def c_spec_isOne_0 : Code := loopAt (Go.Proofs.Try.f120.body.getD .skip) 0

noncomputable def l_spec_isOne_0 : LEnt := ⟨p_spec_isOne_0, x_spec_isOne_0, loopO (m_spec_isOne_0)⟩

theorem lo_spec_isOne_0 : LOK Try.prog 18 0 false (l_spec_isOne_0) c_spec_isOne_0 := loop_ok (body := m_spec_isOne_0) (L := lookL []) (ck_spec_isOne) mixed (ls_ok (l := []) (by kernel_rfl) .nil) (by intro x; kernel_rfl) (fun x y h => loopO_iff.1 h)

noncomputable def e_spec_isOne : Ent := ⟨0, p_spec_isOne, q_spec_isOne, m_spec_isOne⟩
theorem ok_spec_isOne : FnOK Try.prog 120 e_spec_isOne := fn_ok (L := lookL [(0, l_spec_isOne_0)]) ck_spec_isOne mixed Try.func120 rfl (by kernel_rfl) (by kernel_rfl) (ls_ok (l := [(0, c_spec_isOne_0)]) (by kernel_rfl) (.cons rfl (lo_spec_isOne_0) .nil)) (by intro x; kernel_rfl)

/-! spec.small -/
abbrev p_spec_small : Pt := [(0, .str)]
abbrev q_spec_small : Pt := [(0, .str)]

abbrev p_spec_small_0 : Pt := [(3, .own .u8 5), (4, .int .i64)]
abbrev x_spec_small_0 : List (Xt × Pt) := [(.ex 0, [(3, .own .u8 5)])]
noncomputable def m_spec_small_0 : Tup p_spec_small_0 → Option (Stp (Tup p_spec_small_0) (SumT (x_spec_small_0.map (·.2)))) := fun (x : List UInt8 × Int) => bif Decidable.decide (Prod.snd x < (↑(List.length (Prod.fst x)) : Int)) then Option.bind (atI (Prod.fst x) (Prod.snd x)) fun (x_1 : UInt8) => Option.bind (Prod.fst x)[Int.toNat (Prod.snd x)]? fun (v : UInt8) => bif Decidable.decide ((65 : Int) ≤ (↑(UInt8.toNat v) : Int)) then Option.bind (atI (Prod.fst x) (Prod.snd x)) fun (x_2 : UInt8) => Option.bind (Prod.fst x)[Int.toNat (Prod.snd x)]? fun (v : UInt8) => bif Decidable.decide ((↑(UInt8.toNat v) : Int) ≤ (90 : Int)) then Option.bind (atI (Prod.fst x) (Prod.snd x)) fun (x_3 : UInt8) => Option.bind (Prod.fst x)[Int.toNat (Prod.snd x)]? fun (v : UInt8) => Option.bind (atI (Prod.fst x) (Prod.snd x)) fun (x_4 : UInt8) => Option.bind (Prod.fst x)[Int.toNat (Prod.snd x)]? fun (v_1 : UInt8) => Option.bind (byteI (Go.IntKind.wrap Go.IntKind.u8 ((↑(UInt8.toNat v) : Int) + (32 : Int)))) fun (v : UInt8) => Option.some (Stp.nx (List.set (Prod.fst x) (Int.toNat (Prod.snd x)) v, Go.IntKind.wrap Go.IntKind.i64 (Prod.snd x + (1 : Int)))) else Option.some (Stp.nx (Prod.fst x, Go.IntKind.wrap Go.IntKind.i64 (Prod.snd x + (1 : Int)))) else Option.some (Stp.nx (Prod.fst x, Go.IntKind.wrap Go.IntKind.i64 (Prod.snd x + (1 : Int)))) else Option.some (Stp.out (Prod.fst x))

noncomputable def m_spec_small : Tup p_spec_small → Option (Tup q_spec_small) := fun (x : List UInt8) => Option.bind (loopO m_spec_small_0 (x, (0 : Int))) fun (y : List UInt8) => Option.bind (castE E.u8 E.u8 y) fun (xs : List UInt8) => Option.some xs

noncomputable def cx_spec_small : Cx := ⟨tb, lookE [], lookS []⟩

theorem ck_spec_small : CxOK Try.prog (cx_spec_small) := cx_ok tb_ok .nil

noncomputable def c_spec_small_0 : Code := loopAt (Go.Proofs.Try.f68.body.getD .skip) 0

noncomputable def l_spec_small_0 : LEnt := ⟨p_spec_small_0, x_spec_small_0, loopO (m_spec_small_0)⟩

theorem lo_spec_small_0 : LOK Try.prog 33 0 false (l_spec_small_0) c_spec_small_0 := loop_ok (body := m_spec_small_0) (L := lookL []) (ck_spec_small) mixed (ls_ok (l := []) (by kernel_rfl) .nil) (by intro x; kernel_rfl) (fun x y h => loopO_iff.1 h)

noncomputable def e_spec_small : Ent := ⟨0, p_spec_small, q_spec_small, m_spec_small⟩
theorem ok_spec_small : FnOK Try.prog 68 e_spec_small := fn_ok (L := lookL [(0, l_spec_small_0)]) ck_spec_small mixed Try.func68 rfl (by kernel_rfl) (by kernel_rfl) (ls_ok (l := [(0, c_spec_small_0)]) (by kernel_rfl) (.cons rfl (lo_spec_small_0) .nil)) (by intro x; kernel_rfl)

/-! spec.SameList -/
abbrev p_spec_SameList : Pt := [(0, .lst .int), (1, .lst .int)]
abbrev q_spec_SameList : Pt := [(0, .bool)]

abbrev p_spec_SameList_0 : Pt := [(0, .lst .int), (1, .lst .int), (5, .int .i64)]
abbrev x_spec_SameList_0 : List (Xt × Pt) := [(.ex 0, []), (.rt, [(4, .bool)])]
noncomputable def m_spec_SameList_0 : Tup p_spec_SameList_0 → Option (Stp (Tup p_spec_SameList_0) (SumT (x_spec_SameList_0.map (·.2)))) := fun (x : List Int × List Int × Int) => bif Decidable.decide (Prod.snd (Prod.snd x) < (↑(List.length (Prod.fst x)) : Int)) then Option.bind (atI (Prod.fst x) (Prod.snd (Prod.snd x))) fun (v : Int) => Option.bind (atI (Prod.fst (Prod.snd x)) (Prod.snd (Prod.snd x))) fun (v_1 : Int) => bif Decidable.decide (v ≠ v_1) then Option.some (Stp.out (Sum.inr Bool.false)) else Option.some (Stp.nx (Prod.fst x, Prod.fst (Prod.snd x), Go.IntKind.wrap Go.IntKind.i64 (Prod.snd (Prod.snd x) + (1 : Int)))) else Option.some (Stp.out (Sum.inl PUnit.unit))

noncomputable def m_spec_SameList : Tup p_spec_SameList → Option (Tup q_spec_SameList) := fun (x : List Int × List Int) => bif Decidable.decide ((↑(List.length (Prod.fst x)) : Int) ≠ (↑(List.length (Prod.snd x)) : Int)) then Option.some Bool.false else Option.bind (loopO m_spec_SameList_0 (Prod.fst x, Prod.snd x, (0 : Int))) fun (y : PUnit ⊕ Bool) => selim (fun (y : PUnit) => Option.some Bool.true) (fun (y : Bool) => Option.some y) y

noncomputable def cx_spec_SameList : Cx := ⟨tb, lookE [], lookS []⟩

theorem ck_spec_SameList : CxOK Try.prog (cx_spec_SameList) := cx_ok tb_ok .nil

noncomputable def c_spec_SameList_0 : Code := loopAt (Go.Proofs.Try.f18.body.getD .skip) 0

noncomputable def l_spec_SameList_0 : LEnt := ⟨p_spec_SameList_0, x_spec_SameList_0, loopO (m_spec_SameList_0)⟩

theorem lo_spec_SameList_0 : LOK Try.prog 26 0 false (l_spec_SameList_0) c_spec_SameList_0 := loop_ok (body := m_spec_SameList_0) (L := lookL []) (ck_spec_SameList) mixed (ls_ok (l := []) (by kernel_rfl) .nil) (by intro x; kernel_rfl) (fun x y h => loopO_iff.1 h)

noncomputable def e_spec_SameList : Ent := ⟨0, p_spec_SameList, q_spec_SameList, m_spec_SameList⟩
theorem ok_spec_SameList : FnOK Try.prog 18 e_spec_SameList := fn_ok (L := lookL [(0, l_spec_SameList_0)]) ck_spec_SameList mixed Try.func18 rfl (by kernel_rfl) (by kernel_rfl) (ls_ok (l := [(0, c_spec_SameList_0)]) (by kernel_rfl) (.cons rfl (lo_spec_SameList_0) .nil)) (by intro x; kernel_rfl)

end Go.Proofs.Ytldldchdkcmojaa.V
