/-
  Models of functions, and that they are what the code does (written by a program).
-/
import Derived.Test.YtfmlpodcldhgdaaKTab
set_option linter.unusedVariables false
set_option linter.unusedSimpArgs false
namespace Go.Proofs.Ytfmlpodcldhgdaa.V
open Go Go.Proofs

/-! spec.Kids -/
abbrev p_spec_Kids : Pt := [(0, .lst .node), (1, .int .i64)]
abbrev q_spec_Kids : Pt := [(0, .own .int 3)]

abbrev p_spec_Kids_0 : Pt := [(0, .lst .node), (1, .int .i64), (5, .own .int 3), (6, .int .i64)]
abbrev x_spec_Kids_0 : List (Xt × Pt) := [(.ex 0, [(5, .own .int 3)])]
noncomputable def m_spec_Kids_0 : Tup p_spec_Kids_0 → Option (Stp (Tup p_spec_Kids_0) (SumT (x_spec_Kids_0.map (·.2)))) := fun (x : List Node × Int × List Int × Int) => Option.bind (atI (Prod.fst x) (Prod.fst (Prod.snd x))) fun (v : Node) => bif Decidable.decide (Prod.snd (Prod.snd (Prod.snd x)) < Go.IntKind.wrap Go.IntKind.i64 (Prod.fst (Prod.snd x) + Node.size v)) then Option.bind (appL (Prod.fst (Prod.snd (Prod.snd x))) [Prod.snd (Prod.snd (Prod.snd x))]) fun (r : List Int) => Option.bind (atI (Prod.fst x) (Prod.snd (Prod.snd (Prod.snd x)))) fun (v : Node) => Option.some (Stp.nx (Prod.fst x, Prod.fst (Prod.snd x), r, Go.IntKind.wrap Go.IntKind.i64 (Prod.snd (Prod.snd (Prod.snd x)) + Node.size v))) else Option.some (Stp.out (Prod.fst (Prod.snd (Prod.snd x))))

noncomputable def m_spec_Kids : Tup p_spec_Kids → Option (Tup q_spec_Kids) := fun (x : List Node × Int) => Option.bind (loopO m_spec_Kids_0 (Prod.fst x, Prod.snd x, [], Go.IntKind.wrap Go.IntKind.i64 (Prod.snd x + (1 : Int)))) fun (y : List Int) => Option.some y

noncomputable def cx_spec_Kids : Cx := ⟨tb, lookE [], lookS []⟩

theorem ck_spec_Kids : CxOK Try.prog (cx_spec_Kids) := cx_ok tb_ok .nil

noncomputable def c_spec_Kids_0 : Code := loopAt (Go.Proofs.Try.f25.body.getD .skip) 0

noncomputable def l_spec_Kids_0 : LEnt := ⟨p_spec_Kids_0, x_spec_Kids_0, loopO (m_spec_Kids_0)⟩

theorem lo_spec_Kids_0 : LOK Try.prog 30 0 false (l_spec_Kids_0) c_spec_Kids_0 := loop_ok (body := m_spec_Kids_0) (L := lookL []) (ck_spec_Kids) mixed (ls_ok (l := []) (by kernel_rfl) .nil) (by intro x; kernel_rfl) (fun x y h => loopO_iff.1 h)

noncomputable def e_spec_Kids : Ent := ⟨0, p_spec_Kids, q_spec_Kids, m_spec_Kids⟩
theorem ok_spec_Kids : FnOK Try.prog 25 e_spec_Kids := fn_ok (L := lookL [(0, l_spec_Kids_0)]) ck_spec_Kids mixed Try.func25 rfl (by kernel_rfl) (by kernel_rfl) (ls_ok (l := [(0, c_spec_Kids_0)]) (by kernel_rfl) (.cons rfl (lo_spec_Kids_0) .nil)) (by intro x; kernel_rfl)

/-! spec.Parent -/
abbrev p_spec_Parent : Pt := [(0, .lst .node), (1, .int .i64)]
abbrev q_spec_Parent : Pt := [(0, .int .i64)]

abbrev p_spec_Parent_0 : Pt := [(0, .lst .node), (1, .int .i64), (5, .int .i64)]
abbrev x_spec_Parent_0 : List (Xt × Pt) := [(.ex 0, []), (.rt, [(4, .int .i64)])]
noncomputable def m_spec_Parent_0 : Tup p_spec_Parent_0 → Option (Stp (Tup p_spec_Parent_0) (SumT (x_spec_Parent_0.map (·.2)))) := fun (x : List Node × Int × Int) => bif Decidable.decide ((0 : Int) ≤ Prod.snd (Prod.snd x)) then Option.bind (atI (Prod.fst x) (Prod.snd (Prod.snd x))) fun (v : Node) => bif Decidable.decide (Prod.fst (Prod.snd x) < Go.IntKind.wrap Go.IntKind.i64 (Prod.snd (Prod.snd x) + Node.size v)) then Option.some (Stp.out (Sum.inr (Prod.snd (Prod.snd x)))) else Option.some (Stp.nx (Prod.fst x, Prod.fst (Prod.snd x), Go.IntKind.wrap Go.IntKind.i64 (Prod.snd (Prod.snd x) - (1 : Int)))) else Option.some (Stp.out (Sum.inl PUnit.unit))

noncomputable def m_spec_Parent : Tup p_spec_Parent → Option (Tup q_spec_Parent) := fun (x : List Node × Int) => Option.bind (loopO m_spec_Parent_0 (Prod.fst x, Prod.snd x, Go.IntKind.wrap Go.IntKind.i64 (Prod.snd x - (1 : Int)))) fun (y : PUnit ⊕ Int) => selim (fun (y : PUnit) => Option.some (-1 : Int)) (fun (y : Int) => Option.some y) y

noncomputable def cx_spec_Parent : Cx := ⟨tb, lookE [], lookS []⟩

theorem ck_spec_Parent : CxOK Try.prog (cx_spec_Parent) := cx_ok tb_ok .nil

noncomputable def c_spec_Parent_0 : Code := loopAt (Go.Proofs.Try.f42.body.getD .skip) 0

noncomputable def l_spec_Parent_0 : LEnt := ⟨p_spec_Parent_0, x_spec_Parent_0, loopO (m_spec_Parent_0)⟩

theorem lo_spec_Parent_0 : LOK Try.prog 22 0 false (l_spec_Parent_0) c_spec_Parent_0 := loop_ok (body := m_spec_Parent_0) (L := lookL []) (ck_spec_Parent) mixed (ls_ok (l := []) (by kernel_rfl) .nil) (by intro x; kernel_rfl) (fun x y h => loopO_iff.1 h)

noncomputable def e_spec_Parent : Ent := ⟨0, p_spec_Parent, q_spec_Parent, m_spec_Parent⟩
theorem ok_spec_Parent : FnOK Try.prog 42 e_spec_Parent := fn_ok (L := lookL [(0, l_spec_Parent_0)]) ck_spec_Parent mixed Try.func42 rfl (by kernel_rfl) (by kernel_rfl) (ls_ok (l := [(0, c_spec_Parent_0)]) (by kernel_rfl) (.cons rfl (lo_spec_Parent_0) .nil)) (by intro x; kernel_rfl)

/-! spec.sized -/
abbrev p_spec_sized : Pt := [(0, .lst .node), (1, .int .i64), (2, .int .i64), (3, .int .i64)]
abbrev q_spec_sized : Pt := [(0, .bool)]

abbrev p_spec_sized_0 : Pt := [(0, .lst .node), (1, .int .i64), (3, .int .i64), (9, .int .i64), (10, .int .i64)]
abbrev x_spec_sized_0 : List (Xt × Pt) := [(.ex 0, []), (.rt, [(8, .bool)])]
noncomputable def m_spec_sized_0 (m_spec_sized : Tup p_spec_sized → Option (Tup q_spec_sized)) : Tup p_spec_sized_0 → Option (Stp (Tup p_spec_sized_0) (SumT (x_spec_sized_0.map (·.2)))) := fun (x : List Node × Int × Int × Int × Int) => bif Decidable.decide (Prod.snd (Prod.snd (Prod.snd (Prod.snd x))) < Go.IntKind.wrap Go.IntKind.i64 (Prod.fst (Prod.snd x) + Prod.fst (Prod.snd (Prod.snd (Prod.snd x))))) then Option.bind (m_spec_sized (Prod.fst x, Prod.snd (Prod.snd (Prod.snd (Prod.snd x))), Go.IntKind.wrap Go.IntKind.i64 (Prod.fst (Prod.snd x) + Prod.fst (Prod.snd (Prod.snd (Prod.snd x)))), Go.IntKind.wrap Go.IntKind.i64 (Prod.fst (Prod.snd (Prod.snd x)) - (1 : Int)))) fun (r : Bool) => bif !r then Option.some (Stp.out (Sum.inr Bool.false)) else Option.bind (atI (Prod.fst x) (Prod.snd (Prod.snd (Prod.snd (Prod.snd x))))) fun (v : Node) => Option.some (Stp.nx (Prod.fst x, Prod.fst (Prod.snd x), Prod.fst (Prod.snd (Prod.snd x)), Prod.fst (Prod.snd (Prod.snd (Prod.snd x))), Go.IntKind.wrap Go.IntKind.i64 (Prod.snd (Prod.snd (Prod.snd (Prod.snd x))) + Node.size v))) else Option.some (Stp.out (Sum.inl PUnit.unit))

noncomputable def b_spec_sized (m_spec_sized : Tup p_spec_sized → Option (Tup q_spec_sized)) : Tup p_spec_sized → Option (Tup q_spec_sized) := fun (x : List Node × Int × Int × Int) => Option.bind (atI (Prod.fst x) (Prod.fst (Prod.snd x))) fun (v : Node) => bif Decidable.decide (Prod.snd (Prod.snd (Prod.snd x)) = (0 : Int)) then Option.some Bool.false else bif Decidable.decide (Node.size v < (1 : Int)) then Option.some Bool.false else bif Decidable.decide (Go.IntKind.wrap Go.IntKind.i64 (Prod.fst (Prod.snd (Prod.snd x)) - Prod.fst (Prod.snd x)) < Node.size v) then Option.some Bool.false else Option.bind (loopO (m_spec_sized_0 m_spec_sized) (Prod.fst x, Prod.fst (Prod.snd x), Prod.snd (Prod.snd (Prod.snd x)), Node.size v, Go.IntKind.wrap Go.IntKind.i64 (Prod.fst (Prod.snd x) + (1 : Int)))) fun (y : PUnit ⊕ Bool) => selim (fun (y : PUnit) => Option.some Bool.true) (fun (y : Bool) => Option.some y) y

noncomputable def m_spec_sized : Nat → Tup p_spec_sized → Option (Tup q_spec_sized)
  | 0 => fun _ => none
  | n + 1 => b_spec_sized (m_spec_sized n)

noncomputable def cx_spec_sized (n : Nat) : Cx := ⟨tb, lookE [(39, ⟨0, p_spec_sized, q_spec_sized, m_spec_sized n⟩)], lookS []⟩

theorem ck_spec_sized (n : Nat) (ih0 : FnOK Try.prog 39 ⟨0, p_spec_sized, q_spec_sized, m_spec_sized n⟩) : CxOK Try.prog (cx_spec_sized n) := cx_ok tb_ok (.cons ih0 Try.call39 .nil)

noncomputable def c_spec_sized_0 : Code := loopAt (Go.Proofs.Try.f39.body.getD .skip) 0

noncomputable def l_spec_sized_0 (n : Nat) : LEnt := ⟨p_spec_sized_0, x_spec_sized_0, loopO (m_spec_sized_0 (m_spec_sized n))⟩

theorem lo_spec_sized_0 (n : Nat) (ih0 : FnOK Try.prog 39 ⟨0, p_spec_sized, q_spec_sized, m_spec_sized n⟩) : LOK Try.prog 52 0 false (l_spec_sized_0 n) c_spec_sized_0 := loop_ok (body := m_spec_sized_0 (m_spec_sized n)) (L := lookL []) (ck_spec_sized n ih0) mixed (ls_ok (l := []) (by kernel_rfl) .nil) (by intro x; kernel_rfl) (fun x y h => loopO_iff.1 h)

theorem st_spec_sized (n : Nat) (ih0 : FnOK Try.prog 39 ⟨0, p_spec_sized, q_spec_sized, m_spec_sized n⟩) : FnOK Try.prog 39 ⟨0, p_spec_sized, q_spec_sized, m_spec_sized (n + 1)⟩ := fn_ok (ent := ⟨0, p_spec_sized, q_spec_sized, m_spec_sized (n + 1)⟩) (L := lookL [(0, l_spec_sized_0 n)]) (ck_spec_sized n ih0) mixed Try.func39 rfl (by kernel_rfl) (by kernel_rfl) (ls_ok (l := [(0, c_spec_sized_0)]) (by kernel_rfl) (.cons rfl (lo_spec_sized_0 n ih0) .nil)) (by intro x; kernel_rfl)

theorem ok0_spec_sized : ∀ n, FnOK Try.prog 39 ⟨0, p_spec_sized, q_spec_sized, m_spec_sized n⟩
  | 0 => fun x r h => by cases h
  | n + 1 => (fun ih => st_spec_sized n ih) (ok0_spec_sized n)

noncomputable def e_spec_sized : Ent := ⟨0, p_spec_sized, q_spec_sized, m_spec_sized big⟩
theorem ok_spec_sized : FnOK Try.prog 39 e_spec_sized := (ok0_spec_sized big)

/-! laws.zzFits4 -/
abbrev p_laws_zzFits4 : Pt := [(0, .el .attr)]
abbrev q_laws_zzFits4 : Pt := [(0, .bool)]

noncomputable def m_laws_zzFits4 : Tup p_laws_zzFits4 → Option (Tup q_laws_zzFits4) := fun (x : Attr) => bif Decidable.decide ((2147483647 : Int) < (↑(List.length (Attr.key x)) : Int)) then Option.some Bool.false else bif Decidable.decide ((2147483647 : Int) < (↑(List.length (Attr.val x)) : Int)) then Option.some Bool.false else Option.some Bool.true

noncomputable def cx_laws_zzFits4 : Cx := ⟨tb, lookE [], lookS []⟩

theorem ck_laws_zzFits4 : CxOK Try.prog (cx_laws_zzFits4) := cx_ok tb_ok .nil

noncomputable def e_laws_zzFits4 : Ent := ⟨0, p_laws_zzFits4, q_laws_zzFits4, m_laws_zzFits4⟩
theorem ok_laws_zzFits4 : FnOK Try.prog 98 e_laws_zzFits4 := fn_ok (L := lookL []) ck_laws_zzFits4 mixed Try.func98 rfl (by kernel_rfl) (by kernel_rfl) (ls_ok (l := []) (by kernel_rfl) .nil) (by intro x; kernel_rfl)

/-! laws.zzFits3 -/
abbrev p_laws_zzFits3 : Pt := [(0, .lst .attr)]
abbrev q_laws_zzFits3 : Pt := [(0, .bool)]

abbrev p_laws_zzFits3_0 : Pt := [(8, .lst .attr), (9, .int .i64), (10, .int .i64)]
abbrev x_laws_zzFits3_0 : List (Xt × Pt) := [(.ex 0, []), (.rt, [(2, .bool)])]
noncomputable def m_laws_zzFits3_0 : Tup p_laws_zzFits3_0 → Option (Stp (Tup p_laws_zzFits3_0) (SumT (x_laws_zzFits3_0.map (·.2)))) := fun (x : List Attr × Int × Int) => bif Decidable.decide (Prod.snd (Prod.snd x) < Prod.fst (Prod.snd x)) then Option.bind (atI (Prod.fst x) (Prod.snd (Prod.snd x))) fun (v : Attr) => Option.bind (m_laws_zzFits4 { key := Attr.key v, val := Attr.val v }) fun (r : Bool) => bif !r then Option.some (Stp.out (Sum.inr Bool.false)) else Option.some (Stp.nx (Prod.fst x, Prod.fst (Prod.snd x), Go.IntKind.wrap Go.IntKind.i64 (Prod.snd (Prod.snd x) + (1 : Int)))) else Option.some (Stp.out (Sum.inl PUnit.unit))

noncomputable def m_laws_zzFits3 : Tup p_laws_zzFits3 → Option (Tup q_laws_zzFits3) := fun (x : List Attr) => bif Decidable.decide ((2147483647 : Int) < (↑(List.length x) : Int)) then Option.some Bool.false else Option.bind (loopO m_laws_zzFits3_0 (x, (↑(List.length x) : Int), (0 : Int))) fun (y : PUnit ⊕ Bool) => selim (fun (y : PUnit) => Option.some Bool.true) (fun (y : Bool) => Option.some y) y

noncomputable def cx_laws_zzFits3 : Cx := ⟨tb, lookE [(98, e_laws_zzFits4)], lookS []⟩

theorem ck_laws_zzFits3 : CxOK Try.prog (cx_laws_zzFits3) := cx_ok tb_ok (.cons ok_laws_zzFits4 Try.call98 .nil)

noncomputable def c_laws_zzFits3_0 : Code := loopAt (Go.Proofs.Try.f64.body.getD .skip) 0

noncomputable def l_laws_zzFits3_0 : LEnt := ⟨p_laws_zzFits3_0, x_laws_zzFits3_0, loopO (m_laws_zzFits3_0)⟩

theorem lo_laws_zzFits3_0 : LOK Try.prog 18 0 false (l_laws_zzFits3_0) c_laws_zzFits3_0 := loop_ok (body := m_laws_zzFits3_0) (L := lookL []) (ck_laws_zzFits3) mixed (ls_ok (l := []) (by kernel_rfl) .nil) (by intro x; kernel_rfl) (fun x y h => loopO_iff.1 h)

noncomputable def e_laws_zzFits3 : Ent := ⟨0, p_laws_zzFits3, q_laws_zzFits3, m_laws_zzFits3⟩
theorem ok_laws_zzFits3 : FnOK Try.prog 64 e_laws_zzFits3 := fn_ok (L := lookL [(0, l_laws_zzFits3_0)]) ck_laws_zzFits3 mixed Try.func64 rfl (by kernel_rfl) (by kernel_rfl) (ls_ok (l := [(0, c_laws_zzFits3_0)]) (by kernel_rfl) (.cons rfl (lo_laws_zzFits3_0) .nil)) (by intro x; kernel_rfl)

/-! laws.zzFits2 -/
abbrev p_laws_zzFits2 : Pt := [(0, .el .node)]
abbrev q_laws_zzFits2 : Pt := [(0, .bool)]

noncomputable def m_laws_zzFits2 : Tup p_laws_zzFits2 → Option (Tup q_laws_zzFits2) := fun (x : Node) => bif Decidable.decide ((2147483647 : Int) < (↑(List.length (Node.tag x)) : Int)) then Option.some Bool.false else bif Decidable.decide ((2147483647 : Int) < (↑(List.length (Node.text x)) : Int)) then Option.some Bool.false else Option.bind (m_laws_zzFits3 (Node.attrs x)) fun (r : Bool) => bif !r then Option.some Bool.false else Option.some Bool.true

noncomputable def cx_laws_zzFits2 : Cx := ⟨tb, lookE [(64, e_laws_zzFits3)], lookS []⟩

theorem ck_laws_zzFits2 : CxOK Try.prog (cx_laws_zzFits2) := cx_ok tb_ok (.cons ok_laws_zzFits3 Try.call64 .nil)

noncomputable def e_laws_zzFits2 : Ent := ⟨0, p_laws_zzFits2, q_laws_zzFits2, m_laws_zzFits2⟩
theorem ok_laws_zzFits2 : FnOK Try.prog 38 e_laws_zzFits2 := fn_ok (L := lookL []) ck_laws_zzFits2 mixed Try.func38 rfl (by kernel_rfl) (by kernel_rfl) (ls_ok (l := []) (by kernel_rfl) .nil) (by intro x; kernel_rfl)

/-! laws.zzFits1 -/
abbrev p_laws_zzFits1 : Pt := [(0, .lst .node)]
abbrev q_laws_zzFits1 : Pt := [(0, .bool)]

abbrev p_laws_zzFits1_0 : Pt := [(8, .lst .node), (9, .int .i64), (10, .int .i64)]
abbrev x_laws_zzFits1_0 : List (Xt × Pt) := [(.ex 0, []), (.rt, [(2, .bool)])]
noncomputable def m_laws_zzFits1_0 : Tup p_laws_zzFits1_0 → Option (Stp (Tup p_laws_zzFits1_0) (SumT (x_laws_zzFits1_0.map (·.2)))) := fun (x : List Node × Int × Int) => bif Decidable.decide (Prod.snd (Prod.snd x) < Prod.fst (Prod.snd x)) then Option.bind (atI (Prod.fst x) (Prod.snd (Prod.snd x))) fun (v : Node) => Option.bind (m_laws_zzFits2 { kind := Node.kind v, tag := Node.tag v, text := Node.text v, attrs := Node.attrs v, size := Node.size v }) fun (r : Bool) => bif !r then Option.some (Stp.out (Sum.inr Bool.false)) else Option.some (Stp.nx (Prod.fst x, Prod.fst (Prod.snd x), Go.IntKind.wrap Go.IntKind.i64 (Prod.snd (Prod.snd x) + (1 : Int)))) else Option.some (Stp.out (Sum.inl PUnit.unit))

noncomputable def m_laws_zzFits1 : Tup p_laws_zzFits1 → Option (Tup q_laws_zzFits1) := fun (x : List Node) => bif Decidable.decide ((2147483647 : Int) < (↑(List.length x) : Int)) then Option.some Bool.false else Option.bind (loopO m_laws_zzFits1_0 (x, (↑(List.length x) : Int), (0 : Int))) fun (y : PUnit ⊕ Bool) => selim (fun (y : PUnit) => Option.some Bool.true) (fun (y : Bool) => Option.some y) y

noncomputable def cx_laws_zzFits1 : Cx := ⟨tb, lookE [(38, e_laws_zzFits2)], lookS []⟩

theorem ck_laws_zzFits1 : CxOK Try.prog (cx_laws_zzFits1) := cx_ok tb_ok (.cons ok_laws_zzFits2 Try.call38 .nil)

noncomputable def c_laws_zzFits1_0 : Code := loopAt (Go.Proofs.Try.f13.body.getD .skip) 0

noncomputable def l_laws_zzFits1_0 : LEnt := ⟨p_laws_zzFits1_0, x_laws_zzFits1_0, loopO (m_laws_zzFits1_0)⟩

theorem lo_laws_zzFits1_0 : LOK Try.prog 18 0 false (l_laws_zzFits1_0) c_laws_zzFits1_0 := loop_ok (body := m_laws_zzFits1_0) (L := lookL []) (ck_laws_zzFits1) mixed (ls_ok (l := []) (by kernel_rfl) .nil) (by intro x; kernel_rfl) (fun x y h => loopO_iff.1 h)

noncomputable def e_laws_zzFits1 : Ent := ⟨0, p_laws_zzFits1, q_laws_zzFits1, m_laws_zzFits1⟩
theorem ok_laws_zzFits1 : FnOK Try.prog 13 e_laws_zzFits1 := fn_ok (L := lookL [(0, l_laws_zzFits1_0)]) ck_laws_zzFits1 mixed Try.func13 rfl (by kernel_rfl) (by kernel_rfl) (ls_ok (l := [(0, c_laws_zzFits1_0)]) (by kernel_rfl) (.cons rfl (lo_laws_zzFits1_0) .nil)) (by intro x; kernel_rfl)

/-! spec.Name -/
abbrev p_spec_Name : Pt := [(0, .str)]
abbrev q_spec_Name : Pt := [(0, .bool)]

abbrev p_spec_Name_0 : Pt := [(0, .str), (3, .int .i64)]
abbrev x_spec_Name_0 : List (Xt × Pt) := [(.ex 0, []), (.rt, [(2, .bool)])]
noncomputable def m_spec_Name_0 : Tup p_spec_Name_0 → Option (Stp (Tup p_spec_Name_0) (SumT (x_spec_Name_0.map (·.2)))) := fun (x : List UInt8 × Int) => bif Decidable.decide (Prod.snd x < (↑(List.length (Prod.fst x)) : Int)) then Option.bind (atI (Prod.fst x) (Prod.snd x)) fun (c : UInt8) => bif Decidable.decide ((97 : Int) ≤ (↑(UInt8.toNat c) : Int)) then Option.bind (atI (Prod.fst x) (Prod.snd x)) fun (c : UInt8) => bif Decidable.decide ((↑(UInt8.toNat c) : Int) ≤ (122 : Int)) then Option.some (Stp.nx (Prod.fst x, Go.IntKind.wrap Go.IntKind.i64 (Prod.snd x + (1 : Int)))) else Option.bind (atI (Prod.fst x) (Prod.snd x)) fun (c : UInt8) => bif Decidable.decide ((48 : Int) ≤ (↑(UInt8.toNat c) : Int)) then Option.bind (atI (Prod.fst x) (Prod.snd x)) fun (c : UInt8) => bif Decidable.decide ((↑(UInt8.toNat c) : Int) ≤ (57 : Int)) then Option.some (Stp.nx (Prod.fst x, Go.IntKind.wrap Go.IntKind.i64 (Prod.snd x + (1 : Int)))) else Option.bind (atI (Prod.fst x) (Prod.snd x)) fun (c : UInt8) => bif !Decidable.decide ((↑(UInt8.toNat c) : Int) = (45 : Int)) then Option.some (Stp.out (Sum.inr Bool.false)) else Option.some (Stp.nx (Prod.fst x, Go.IntKind.wrap Go.IntKind.i64 (Prod.snd x + (1 : Int)))) else Option.bind (atI (Prod.fst x) (Prod.snd x)) fun (c : UInt8) => bif !Decidable.decide ((↑(UInt8.toNat c) : Int) = (45 : Int)) then Option.some (Stp.out (Sum.inr Bool.false)) else Option.some (Stp.nx (Prod.fst x, Go.IntKind.wrap Go.IntKind.i64 (Prod.snd x + (1 : Int)))) else Option.bind (atI (Prod.fst x) (Prod.snd x)) fun (c : UInt8) => bif Decidable.decide ((48 : Int) ≤ (↑(UInt8.toNat c) : Int)) then Option.bind (atI (Prod.fst x) (Prod.snd x)) fun (c : UInt8) => bif Decidable.decide ((↑(UInt8.toNat c) : Int) ≤ (57 : Int)) then Option.some (Stp.nx (Prod.fst x, Go.IntKind.wrap Go.IntKind.i64 (Prod.snd x + (1 : Int)))) else Option.bind (atI (Prod.fst x) (Prod.snd x)) fun (c : UInt8) => bif !Decidable.decide ((↑(UInt8.toNat c) : Int) = (45 : Int)) then Option.some (Stp.out (Sum.inr Bool.false)) else Option.some (Stp.nx (Prod.fst x, Go.IntKind.wrap Go.IntKind.i64 (Prod.snd x + (1 : Int)))) else Option.bind (atI (Prod.fst x) (Prod.snd x)) fun (c : UInt8) => bif !Decidable.decide ((↑(UInt8.toNat c) : Int) = (45 : Int)) then Option.some (Stp.out (Sum.inr Bool.false)) else Option.some (Stp.nx (Prod.fst x, Go.IntKind.wrap Go.IntKind.i64 (Prod.snd x + (1 : Int)))) else Option.some (Stp.out (Sum.inl PUnit.unit))

noncomputable def m_spec_Name : Tup p_spec_Name → Option (Tup q_spec_Name) := fun (x : List UInt8) => bif Decidable.decide ((↑(List.length x) : Int) = (0 : Int)) then Option.some Bool.false else bif Decidable.decide ((40 : Int) < (↑(List.length x) : Int)) then Option.some Bool.false else Option.bind (atI x (0 : Int)) fun (c : UInt8) => bif Decidable.decide ((↑(UInt8.toNat c) : Int) < (97 : Int)) then Option.some Bool.false else Option.bind (atI x (0 : Int)) fun (c : UInt8) => bif Decidable.decide ((122 : Int) < (↑(UInt8.toNat c) : Int)) then Option.some Bool.false else Option.bind (loopO m_spec_Name_0 (x, (1 : Int))) fun (y : PUnit ⊕ Bool) => selim (fun (y : PUnit) => Option.some Bool.true) (fun (y : Bool) => Option.some y) y

noncomputable def cx_spec_Name : Cx := ⟨tb, lookE [], lookS []⟩

theorem ck_spec_Name : CxOK Try.prog (cx_spec_Name) := cx_ok tb_ok .nil

noncomputable def c_spec_Name_0 : Code := loopAt (Go.Proofs.Try.f67.body.getD .skip) 0

noncomputable def l_spec_Name_0 : LEnt := ⟨p_spec_Name_0, x_spec_Name_0, loopO (m_spec_Name_0)⟩

theorem lo_spec_Name_0 : LOK Try.prog 57 0 false (l_spec_Name_0) c_spec_Name_0 := loop_ok (body := m_spec_Name_0) (L := lookL []) (ck_spec_Name) mixed (ls_ok (l := []) (by kernel_rfl) .nil) (by intro x; kernel_rfl) (fun x y h => loopO_iff.1 h)

noncomputable def e_spec_Name : Ent := ⟨0, p_spec_Name, q_spec_Name, m_spec_Name⟩
theorem ok_spec_Name : FnOK Try.prog 67 e_spec_Name := fn_ok (L := lookL [(0, l_spec_Name_0)]) ck_spec_Name mixed Try.func67 rfl (by kernel_rfl) (by kernel_rfl) (ls_ok (l := [(0, c_spec_Name_0)]) (by kernel_rfl) (.cons rfl (lo_spec_Name_0) .nil)) (by intro x; kernel_rfl)

/-! spec.Point -/
abbrev p_spec_Point : Pt := [(0, .str), (1, .int .i64)]
abbrev q_spec_Point : Pt := [(0, .int .i64), (1, .int .i64)]

abbrev p_spec_Point_0 : Pt := [(0, .str), (1, .int .i64), (4, .int .i64), (7, .int .i64), (8, .int .i64), (9, .int .i64)]
abbrev x_spec_Point_0 : List (Xt × Pt) := [(.ex 1, [(4, .int .i64), (7, .int .i64), (8, .int .i64)]), (.rt, [(4, .int .i64), (5, .int .i64)])]
noncomputable def m_spec_Point_0 : Tup p_spec_Point_0 → Option (Stp (Tup p_spec_Point_0) (SumT (x_spec_Point_0.map (·.2)))) := fun (x : List UInt8 × Int × Int × Int × Int × Int) => bif Decidable.decide (Prod.snd (Prod.snd (Prod.snd (Prod.snd (Prod.snd x)))) ≤ Prod.fst (Prod.snd (Prod.snd (Prod.snd (Prod.snd x))))) then Option.bind (atI (Prod.fst x) (Go.IntKind.wrap Go.IntKind.i64 (Prod.fst (Prod.snd x) + Prod.snd (Prod.snd (Prod.snd (Prod.snd (Prod.snd x))))))) fun (c : UInt8) => bif Decidable.decide (Go.IntKind.wrap Go.IntKind.i64 (↑(UInt8.toNat c) : Int) < (128 : Int)) then Option.some (Stp.out (Sum.inr ((0 : Int), (0 : Int)))) else bif Decidable.decide ((192 : Int) ≤ Go.IntKind.wrap Go.IntKind.i64 (↑(UInt8.toNat c) : Int)) then Option.some (Stp.out (Sum.inr ((0 : Int), (0 : Int)))) else Option.bind (shlI Go.IntKind.i64 (Prod.fst (Prod.snd (Prod.snd x))) (6 : Int)) fun (n : Int) => Option.some (Stp.nx (Prod.fst x, Prod.fst (Prod.snd x), Go.IntKind.wrap Go.IntKind.i64 (Go.IntKind.wrap Go.IntKind.i64 (n + Go.IntKind.wrap Go.IntKind.i64 (↑(UInt8.toNat c) : Int)) - (128 : Int)), Prod.fst (Prod.snd (Prod.snd (Prod.snd x))), Prod.fst (Prod.snd (Prod.snd (Prod.snd (Prod.snd x)))), Go.IntKind.wrap Go.IntKind.i64 (Prod.snd (Prod.snd (Prod.snd (Prod.snd (Prod.snd x)))) + (1 : Int)))) else Option.some (Stp.out (Sum.inl (Prod.fst (Prod.snd (Prod.snd x)), Prod.fst (Prod.snd (Prod.snd (Prod.snd x))), Prod.fst (Prod.snd (Prod.snd (Prod.snd (Prod.snd x)))))))

noncomputable def m_spec_Point : Tup p_spec_Point → Option (Tup q_spec_Point) := fun (x : List UInt8 × Int) => Option.bind (atI (Prod.fst x) (Prod.snd x)) fun (c : UInt8) => bif Decidable.decide (Go.IntKind.wrap Go.IntKind.i64 (↑(UInt8.toNat c) : Int) < (128 : Int)) then Option.some (Go.IntKind.wrap Go.IntKind.i64 (↑(UInt8.toNat c) : Int), (1 : Int)) else bif Decidable.decide ((192 : Int) ≤ Go.IntKind.wrap Go.IntKind.i64 (↑(UInt8.toNat c) : Int)) then bif Decidable.decide (Go.IntKind.wrap Go.IntKind.i64 (↑(UInt8.toNat c) : Int) < (224 : Int)) then bif Decidable.decide (Go.IntKind.wrap Go.IntKind.i64 ((↑(List.length (Prod.fst x)) : Int) - Prod.snd x) ≤ (1 : Int)) then Option.some ((0 : Int), (0 : Int)) else Option.bind (loopO m_spec_Point_0 (Prod.fst x, Prod.snd x, Go.IntKind.wrap Go.IntKind.i64 (Go.IntKind.wrap Go.IntKind.i64 (↑(UInt8.toNat c) : Int) - (192 : Int)), (128 : Int), (1 : Int), (1 : Int))) fun (y : Int × Int × Int ⊕ Int × Int) => selim (fun (y : Int × Int × Int) => bif Decidable.decide (Prod.fst y < Prod.fst (Prod.snd y)) then Option.some ((0 : Int), (0 : Int)) else bif Decidable.decide ((1114111 : Int) < Prod.fst y) then Option.some ((0 : Int), (0 : Int)) else bif Decidable.decide ((55296 : Int) ≤ Prod.fst y) then bif Decidable.decide (Prod.fst y < (57344 : Int)) then Option.some ((0 : Int), (0 : Int)) else Option.some (Prod.fst y, Go.IntKind.wrap Go.IntKind.i64 (Prod.snd (Prod.snd y) + (1 : Int))) else Option.some (Prod.fst y, Go.IntKind.wrap Go.IntKind.i64 (Prod.snd (Prod.snd y) + (1 : Int)))) (fun (y : Int × Int) => Option.some (Prod.fst y, Prod.snd y)) y else bif Decidable.decide ((224 : Int) ≤ Go.IntKind.wrap Go.IntKind.i64 (↑(UInt8.toNat c) : Int)) then bif Decidable.decide (Go.IntKind.wrap Go.IntKind.i64 (↑(UInt8.toNat c) : Int) < (240 : Int)) then bif Decidable.decide (Go.IntKind.wrap Go.IntKind.i64 ((↑(List.length (Prod.fst x)) : Int) - Prod.snd x) ≤ (2 : Int)) then Option.some ((0 : Int), (0 : Int)) else Option.bind (loopO m_spec_Point_0 (Prod.fst x, Prod.snd x, Go.IntKind.wrap Go.IntKind.i64 (Go.IntKind.wrap Go.IntKind.i64 (↑(UInt8.toNat c) : Int) - (224 : Int)), (2048 : Int), (2 : Int), (1 : Int))) fun (y : Int × Int × Int ⊕ Int × Int) => selim (fun (y : Int × Int × Int) => bif Decidable.decide (Prod.fst y < Prod.fst (Prod.snd y)) then Option.some ((0 : Int), (0 : Int)) else bif Decidable.decide ((1114111 : Int) < Prod.fst y) then Option.some ((0 : Int), (0 : Int)) else bif Decidable.decide ((55296 : Int) ≤ Prod.fst y) then bif Decidable.decide (Prod.fst y < (57344 : Int)) then Option.some ((0 : Int), (0 : Int)) else Option.some (Prod.fst y, Go.IntKind.wrap Go.IntKind.i64 (Prod.snd (Prod.snd y) + (1 : Int))) else Option.some (Prod.fst y, Go.IntKind.wrap Go.IntKind.i64 (Prod.snd (Prod.snd y) + (1 : Int)))) (fun (y : Int × Int) => Option.some (Prod.fst y, Prod.snd y)) y else bif Decidable.decide ((240 : Int) ≤ Go.IntKind.wrap Go.IntKind.i64 (↑(UInt8.toNat c) : Int)) then bif Decidable.decide (Go.IntKind.wrap Go.IntKind.i64 (↑(UInt8.toNat c) : Int) < (248 : Int)) then bif Decidable.decide (Go.IntKind.wrap Go.IntKind.i64 ((↑(List.length (Prod.fst x)) : Int) - Prod.snd x) ≤ (3 : Int)) then Option.some ((0 : Int), (0 : Int)) else Option.bind (loopO m_spec_Point_0 (Prod.fst x, Prod.snd x, Go.IntKind.wrap Go.IntKind.i64 (Go.IntKind.wrap Go.IntKind.i64 (↑(UInt8.toNat c) : Int) - (240 : Int)), (65536 : Int), (3 : Int), (1 : Int))) fun (y : Int × Int × Int ⊕ Int × Int) => selim (fun (y : Int × Int × Int) => bif Decidable.decide (Prod.fst y < Prod.fst (Prod.snd y)) then Option.some ((0 : Int), (0 : Int)) else bif Decidable.decide ((1114111 : Int) < Prod.fst y) then Option.some ((0 : Int), (0 : Int)) else bif Decidable.decide ((55296 : Int) ≤ Prod.fst y) then bif Decidable.decide (Prod.fst y < (57344 : Int)) then Option.some ((0 : Int), (0 : Int)) else Option.some (Prod.fst y, Go.IntKind.wrap Go.IntKind.i64 (Prod.snd (Prod.snd y) + (1 : Int))) else Option.some (Prod.fst y, Go.IntKind.wrap Go.IntKind.i64 (Prod.snd (Prod.snd y) + (1 : Int)))) (fun (y : Int × Int) => Option.some (Prod.fst y, Prod.snd y)) y else Option.some ((0 : Int), (0 : Int)) else Option.some ((0 : Int), (0 : Int)) else bif Decidable.decide ((240 : Int) ≤ Go.IntKind.wrap Go.IntKind.i64 (↑(UInt8.toNat c) : Int)) then bif Decidable.decide (Go.IntKind.wrap Go.IntKind.i64 (↑(UInt8.toNat c) : Int) < (248 : Int)) then bif Decidable.decide (Go.IntKind.wrap Go.IntKind.i64 ((↑(List.length (Prod.fst x)) : Int) - Prod.snd x) ≤ (3 : Int)) then Option.some ((0 : Int), (0 : Int)) else Option.bind (loopO m_spec_Point_0 (Prod.fst x, Prod.snd x, Go.IntKind.wrap Go.IntKind.i64 (Go.IntKind.wrap Go.IntKind.i64 (↑(UInt8.toNat c) : Int) - (240 : Int)), (65536 : Int), (3 : Int), (1 : Int))) fun (y : Int × Int × Int ⊕ Int × Int) => selim (fun (y : Int × Int × Int) => bif Decidable.decide (Prod.fst y < Prod.fst (Prod.snd y)) then Option.some ((0 : Int), (0 : Int)) else bif Decidable.decide ((1114111 : Int) < Prod.fst y) then Option.some ((0 : Int), (0 : Int)) else bif Decidable.decide ((55296 : Int) ≤ Prod.fst y) then bif Decidable.decide (Prod.fst y < (57344 : Int)) then Option.some ((0 : Int), (0 : Int)) else Option.some (Prod.fst y, Go.IntKind.wrap Go.IntKind.i64 (Prod.snd (Prod.snd y) + (1 : Int))) else Option.some (Prod.fst y, Go.IntKind.wrap Go.IntKind.i64 (Prod.snd (Prod.snd y) + (1 : Int)))) (fun (y : Int × Int) => Option.some (Prod.fst y, Prod.snd y)) y else Option.some ((0 : Int), (0 : Int)) else Option.some ((0 : Int), (0 : Int)) else bif Decidable.decide ((224 : Int) ≤ Go.IntKind.wrap Go.IntKind.i64 (↑(UInt8.toNat c) : Int)) then bif Decidable.decide (Go.IntKind.wrap Go.IntKind.i64 (↑(UInt8.toNat c) : Int) < (240 : Int)) then bif Decidable.decide (Go.IntKind.wrap Go.IntKind.i64 ((↑(List.length (Prod.fst x)) : Int) - Prod.snd x) ≤ (2 : Int)) then Option.some ((0 : Int), (0 : Int)) else Option.bind (loopO m_spec_Point_0 (Prod.fst x, Prod.snd x, Go.IntKind.wrap Go.IntKind.i64 (Go.IntKind.wrap Go.IntKind.i64 (↑(UInt8.toNat c) : Int) - (224 : Int)), (2048 : Int), (2 : Int), (1 : Int))) fun (y : Int × Int × Int ⊕ Int × Int) => selim (fun (y : Int × Int × Int) => bif Decidable.decide (Prod.fst y < Prod.fst (Prod.snd y)) then Option.some ((0 : Int), (0 : Int)) else bif Decidable.decide ((1114111 : Int) < Prod.fst y) then Option.some ((0 : Int), (0 : Int)) else bif Decidable.decide ((55296 : Int) ≤ Prod.fst y) then bif Decidable.decide (Prod.fst y < (57344 : Int)) then Option.some ((0 : Int), (0 : Int)) else Option.some (Prod.fst y, Go.IntKind.wrap Go.IntKind.i64 (Prod.snd (Prod.snd y) + (1 : Int))) else Option.some (Prod.fst y, Go.IntKind.wrap Go.IntKind.i64 (Prod.snd (Prod.snd y) + (1 : Int)))) (fun (y : Int × Int) => Option.some (Prod.fst y, Prod.snd y)) y else bif Decidable.decide ((240 : Int) ≤ Go.IntKind.wrap Go.IntKind.i64 (↑(UInt8.toNat c) : Int)) then bif Decidable.decide (Go.IntKind.wrap Go.IntKind.i64 (↑(UInt8.toNat c) : Int) < (248 : Int)) then bif Decidable.decide (Go.IntKind.wrap Go.IntKind.i64 ((↑(List.length (Prod.fst x)) : Int) - Prod.snd x) ≤ (3 : Int)) then Option.some ((0 : Int), (0 : Int)) else Option.bind (loopO m_spec_Point_0 (Prod.fst x, Prod.snd x, Go.IntKind.wrap Go.IntKind.i64 (Go.IntKind.wrap Go.IntKind.i64 (↑(UInt8.toNat c) : Int) - (240 : Int)), (65536 : Int), (3 : Int), (1 : Int))) fun (y : Int × Int × Int ⊕ Int × Int) => selim (fun (y : Int × Int × Int) => bif Decidable.decide (Prod.fst y < Prod.fst (Prod.snd y)) then Option.some ((0 : Int), (0 : Int)) else bif Decidable.decide ((1114111 : Int) < Prod.fst y) then Option.some ((0 : Int), (0 : Int)) else bif Decidable.decide ((55296 : Int) ≤ Prod.fst y) then bif Decidable.decide (Prod.fst y < (57344 : Int)) then Option.some ((0 : Int), (0 : Int)) else Option.some (Prod.fst y, Go.IntKind.wrap Go.IntKind.i64 (Prod.snd (Prod.snd y) + (1 : Int))) else Option.some (Prod.fst y, Go.IntKind.wrap Go.IntKind.i64 (Prod.snd (Prod.snd y) + (1 : Int)))) (fun (y : Int × Int) => Option.some (Prod.fst y, Prod.snd y)) y else Option.some ((0 : Int), (0 : Int)) else Option.some ((0 : Int), (0 : Int)) else bif Decidable.decide ((240 : Int) ≤ Go.IntKind.wrap Go.IntKind.i64 (↑(UInt8.toNat c) : Int)) then bif Decidable.decide (Go.IntKind.wrap Go.IntKind.i64 (↑(UInt8.toNat c) : Int) < (248 : Int)) then bif Decidable.decide (Go.IntKind.wrap Go.IntKind.i64 ((↑(List.length (Prod.fst x)) : Int) - Prod.snd x) ≤ (3 : Int)) then Option.some ((0 : Int), (0 : Int)) else Option.bind (loopO m_spec_Point_0 (Prod.fst x, Prod.snd x, Go.IntKind.wrap Go.IntKind.i64 (Go.IntKind.wrap Go.IntKind.i64 (↑(UInt8.toNat c) : Int) - (240 : Int)), (65536 : Int), (3 : Int), (1 : Int))) fun (y : Int × Int × Int ⊕ Int × Int) => selim (fun (y : Int × Int × Int) => bif Decidable.decide (Prod.fst y < Prod.fst (Prod.snd y)) then Option.some ((0 : Int), (0 : Int)) else bif Decidable.decide ((1114111 : Int) < Prod.fst y) then Option.some ((0 : Int), (0 : Int)) else bif Decidable.decide ((55296 : Int) ≤ Prod.fst y) then bif Decidable.decide (Prod.fst y < (57344 : Int)) then Option.some ((0 : Int), (0 : Int)) else Option.some (Prod.fst y, Go.IntKind.wrap Go.IntKind.i64 (Prod.snd (Prod.snd y) + (1 : Int))) else Option.some (Prod.fst y, Go.IntKind.wrap Go.IntKind.i64 (Prod.snd (Prod.snd y) + (1 : Int)))) (fun (y : Int × Int) => Option.some (Prod.fst y, Prod.snd y)) y else Option.some ((0 : Int), (0 : Int)) else Option.some ((0 : Int), (0 : Int))

noncomputable def cx_spec_Point : Cx := ⟨tb, lookE [], lookS []⟩

theorem ck_spec_Point : CxOK Try.prog (cx_spec_Point) := cx_ok tb_ok .nil

noncomputable def c_spec_Point_0 : Code := loopAt (Go.Proofs.Try.f99.body.getD .skip) 0

noncomputable def l_spec_Point_0 : LEnt := ⟨p_spec_Point_0, x_spec_Point_0, loopO (m_spec_Point_0)⟩

theorem lo_spec_Point_0 : LOK Try.prog 92 0 false (l_spec_Point_0) c_spec_Point_0 := loop_ok (body := m_spec_Point_0) (L := lookL []) (ck_spec_Point) mixed (ls_ok (l := []) (by kernel_rfl) .nil) (by intro x; kernel_rfl) (fun x y h => loopO_iff.1 h)

noncomputable def e_spec_Point : Ent := ⟨0, p_spec_Point, q_spec_Point, m_spec_Point⟩
theorem ok_spec_Point : FnOK Try.prog 99 e_spec_Point := fn_ok (L := lookL [(1, l_spec_Point_0)]) ck_spec_Point mixed Try.func99 rfl (by kernel_rfl) (by kernel_rfl) (ls_ok (l := [(1, c_spec_Point_0)]) (by kernel_rfl) (.cons rfl (lo_spec_Point_0) .nil)) (by intro x; kernel_rfl)

/-! spec.Plain -/
abbrev p_spec_Plain : Pt := [(0, .str)]
abbrev q_spec_Plain : Pt := [(0, .bool)]

abbrev p_spec_Plain_0 : Pt := [(0, .str), (3, .int .i64)]
abbrev x_spec_Plain_0 : List (Xt × Pt) := [(.ex 0, []), (.rt, [(2, .bool)])]
noncomputable def m_spec_Plain_0 : Tup p_spec_Plain_0 → Option (Stp (Tup p_spec_Plain_0) (SumT (x_spec_Plain_0.map (·.2)))) := fun (x : List UInt8 × Int) => bif Decidable.decide (Prod.snd x < (↑(List.length (Prod.fst x)) : Int)) then Option.bind (m_spec_Point (Prod.fst x, Prod.snd x)) fun (r : Int × Int) => bif Decidable.decide (Prod.snd r = (0 : Int)) then Option.some (Stp.out (Sum.inr Bool.false)) else bif Decidable.decide (Prod.fst r = (0 : Int)) then Option.some (Stp.out (Sum.inr Bool.false)) else Option.some (Stp.nx (Prod.fst x, Go.IntKind.wrap Go.IntKind.i64 (Prod.snd x + Prod.snd r))) else Option.some (Stp.out (Sum.inl PUnit.unit))

noncomputable def m_spec_Plain : Tup p_spec_Plain → Option (Tup q_spec_Plain) := fun (x : List UInt8) => Option.bind (loopO m_spec_Plain_0 (x, (0 : Int))) fun (y : PUnit ⊕ Bool) => selim (fun (y : PUnit) => Option.some Bool.true) (fun (y : Bool) => Option.some y) y

noncomputable def cx_spec_Plain : Cx := ⟨tb, lookE [(99, e_spec_Point)], lookS []⟩

theorem ck_spec_Plain : CxOK Try.prog (cx_spec_Plain) := cx_ok tb_ok (.cons ok_spec_Point Try.call99 .nil)

noncomputable def c_spec_Plain_0 : Code := loopAt (Go.Proofs.Try.f65.body.getD .skip) 0

noncomputable def l_spec_Plain_0 : LEnt := ⟨p_spec_Plain_0, x_spec_Plain_0, loopO (m_spec_Plain_0)⟩

theorem lo_spec_Plain_0 : LOK Try.prog 25 0 false (l_spec_Plain_0) c_spec_Plain_0 := loop_ok (body := m_spec_Plain_0) (L := lookL []) (ck_spec_Plain) mixed (ls_ok (l := []) (by kernel_rfl) .nil) (by intro x; kernel_rfl) (fun x y h => loopO_iff.1 h)

noncomputable def e_spec_Plain : Ent := ⟨0, p_spec_Plain, q_spec_Plain, m_spec_Plain⟩
theorem ok_spec_Plain : FnOK Try.prog 65 e_spec_Plain := fn_ok (L := lookL [(0, l_spec_Plain_0)]) ck_spec_Plain mixed Try.func65 rfl (by kernel_rfl) (by kernel_rfl) (ls_ok (l := [(0, c_spec_Plain_0)]) (by kernel_rfl) (.cons rfl (lo_spec_Plain_0) .nil)) (by intro x; kernel_rfl)

/-! spec.rightRoot -/
abbrev p_spec_rightRoot : Pt := [(0, .lst .node)]
abbrev q_spec_rightRoot : Pt := [(0, .bool)]

abbrev p_spec_rightRoot_0 : Pt := [(0, .lst .node), (3, .own .int 3), (4, .bool), (5, .int .i64)]
abbrev x_spec_rightRoot_0 : List (Xt × Pt) := [(.ex 0, []), (.rt, [(2, .bool)])]
noncomputable def m_spec_rightRoot_0 : Tup p_spec_rightRoot_0 → Option (Stp (Tup p_spec_rightRoot_0) (SumT (x_spec_rightRoot_0.map (·.2)))) := fun (x : List Node × List Int × Bool × Int) => bif Decidable.decide (Prod.snd (Prod.snd (Prod.snd x)) < (↑(List.length (Prod.fst (Prod.snd x))) : Int)) then Option.bind (atI (Prod.fst (Prod.snd x)) (Prod.snd (Prod.snd (Prod.snd x)))) fun (x_1 : Int) => Option.bind (Prod.fst (Prod.snd x))[Int.toNat (Prod.snd (Prod.snd (Prod.snd x)))]? fun (v : Int) => Option.bind (atI (Prod.fst x) v) fun (v : Node) => bif Decidable.decide (Node.kind v = (4 : Int)) then Option.some (Stp.out (Sum.inr Bool.false)) else bif Decidable.decide (Node.kind v = (2 : Int)) then bif Prod.fst (Prod.snd (Prod.snd x)) then Option.bind (atI (Prod.fst (Prod.snd x)) (Prod.snd (Prod.snd (Prod.snd x)))) fun (x_2 : Int) => Option.bind (Prod.fst (Prod.snd x))[Int.toNat (Prod.snd (Prod.snd (Prod.snd x)))]? fun (v : Int) => Option.bind (atI (Prod.fst x) v) fun (v : Node) => bif Decidable.decide (Node.kind v = (2 : Int)) then Option.some (Stp.out (Sum.inr Bool.false)) else Option.some (Stp.nx (Prod.fst x, Prod.fst (Prod.snd x), Bool.true, Go.IntKind.wrap Go.IntKind.i64 (Prod.snd (Prod.snd (Prod.snd x)) + (1 : Int)))) else Option.some (Stp.nx (Prod.fst x, Prod.fst (Prod.snd x), Bool.true, Go.IntKind.wrap Go.IntKind.i64 (Prod.snd (Prod.snd (Prod.snd x)) + (1 : Int)))) else bif Decidable.decide (Node.kind v = (3 : Int)) then bif Prod.fst (Prod.snd (Prod.snd x)) then Option.bind (atI (Prod.fst (Prod.snd x)) (Prod.snd (Prod.snd (Prod.snd x)))) fun (x_2 : Int) => Option.bind (Prod.fst (Prod.snd x))[Int.toNat (Prod.snd (Prod.snd (Prod.snd x)))]? fun (v : Int) => Option.bind (atI (Prod.fst x) v) fun (v : Node) => bif Decidable.decide (Node.kind v = (2 : Int)) then Option.some (Stp.out (Sum.inr Bool.false)) else Option.some (Stp.nx (Prod.fst x, Prod.fst (Prod.snd x), Bool.true, Go.IntKind.wrap Go.IntKind.i64 (Prod.snd (Prod.snd (Prod.snd x)) + (1 : Int)))) else Option.some (Stp.nx (Prod.fst x, Prod.fst (Prod.snd x), Bool.true, Go.IntKind.wrap Go.IntKind.i64 (Prod.snd (Prod.snd (Prod.snd x)) + (1 : Int)))) else Option.some (Stp.nx (Prod.fst x, Prod.fst (Prod.snd x), Prod.fst (Prod.snd (Prod.snd x)), Go.IntKind.wrap Go.IntKind.i64 (Prod.snd (Prod.snd (Prod.snd x)) + (1 : Int)))) else Option.some (Stp.out (Sum.inl PUnit.unit))

noncomputable def m_spec_rightRoot : Tup p_spec_rightRoot → Option (Tup q_spec_rightRoot) := fun (x : List Node) => Option.bind (m_spec_Kids (x, (0 : Int))) fun (r : List Int) => Option.bind (loopO m_spec_rightRoot_0 (x, r, Bool.false, (0 : Int))) fun (y : PUnit ⊕ Bool) => selim (fun (y : PUnit) => Option.some Bool.true) (fun (y : Bool) => Option.some y) y

noncomputable def cx_spec_rightRoot : Cx := ⟨tb, lookE [(25, e_spec_Kids)], lookS []⟩

theorem ck_spec_rightRoot : CxOK Try.prog (cx_spec_rightRoot) := cx_ok tb_ok (.cons ok_spec_Kids Try.call25 .nil)

noncomputable def c_spec_rightRoot_0 : Code := loopAt (Go.Proofs.Try.f66.body.getD .skip) 0

noncomputable def l_spec_rightRoot_0 : LEnt := ⟨p_spec_rightRoot_0, x_spec_rightRoot_0, loopO (m_spec_rightRoot_0)⟩

theorem lo_spec_rightRoot_0 : LOK Try.prog 39 0 false (l_spec_rightRoot_0) c_spec_rightRoot_0 := loop_ok (body := m_spec_rightRoot_0) (L := lookL []) (ck_spec_rightRoot) mixed (ls_ok (l := []) (by kernel_rfl) .nil) (by intro x; kernel_rfl) (fun x y h => loopO_iff.1 h)

noncomputable def e_spec_rightRoot : Ent := ⟨0, p_spec_rightRoot, q_spec_rightRoot, m_spec_rightRoot⟩
theorem ok_spec_rightRoot : FnOK Try.prog 66 e_spec_rightRoot := fn_ok (L := lookL [(0, l_spec_rightRoot_0)]) ck_spec_rightRoot mixed Try.func66 rfl (by kernel_rfl) (by kernel_rfl) (ls_ok (l := [(0, c_spec_rightRoot_0)]) (by kernel_rfl) (.cons rfl (lo_spec_rightRoot_0) .nil)) (by intro x; kernel_rfl)

end Go.Proofs.Ytfmlpodcldhgdaa.V
