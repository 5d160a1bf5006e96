/-
  Models of functions, and that they are what the code does (written by a program).
-/
import Derived.Test.YtpedmnlpccngiaaDoorKTab
set_option linter.unusedVariables false
set_option linter.unusedSimpArgs false
namespace Go.Proofs.YtpedmnlpccngiaaDoor.V
open Go Go.Proofs

/-! spec.Kids -/
abbrev p_spec_Kids : Pt := [(0, .lst .node), (1, .int .i64)]
abbrev q_spec_Kids : Pt := [(0, .own .int 3)]

abbrev p_spec_Kids_0 : Pt := [(0, .lst .node), (1, .int .i64), (5, .own .int 3), (6, .int .i64)]
abbrev x_spec_Kids_0 : List (Xt × Pt) := [(.ex 0, [(5, .own .int 3)])]
noncomputable def m_spec_Kids_0 : Tup p_spec_Kids_0 → Option (Stp (Tup p_spec_Kids_0) (SumT (x_spec_Kids_0.map (·.2)))) := fun (x : List Node × Int × List Int × Int) => Option.bind (atI x.1 x.2.1) fun (v : Node) => bif decide (x.2.2.2 < IntKind.wrap .i64 (x.2.1 + Node.size v)) then Option.bind (appL x.2.2.1 [x.2.2.2]) fun (r : List Int) => Option.bind (atI x.1 x.2.2.2) fun (v : Node) => some (Stp.nx (x.1, x.2.1, r, IntKind.wrap .i64 (x.2.2.2 + Node.size v))) else some (Stp.out x.2.2.1)

noncomputable def m_spec_Kids : Tup p_spec_Kids → Option (Tup q_spec_Kids) := fun (x : List Node × Int) => Option.bind (loopO m_spec_Kids_0 (x.1, x.2, [], IntKind.wrap .i64 (x.2 + (1 : Int)))) fun (y : List Int) => some y

noncomputable def cx_spec_Kids : Cx := ⟨tb, lookE [], lookS [], mth, ast⟩

theorem ck_spec_Kids : CxOK Tryd.prog (cx_spec_Kids) := cx_ok tb_ok if_ok .nil

noncomputable def c_spec_Kids_0 : Code := loopAt (Go.Proofs.Tryd.f46.body.getD .skip) 0

noncomputable def l_spec_Kids_0 : LEnt := ⟨p_spec_Kids_0, x_spec_Kids_0, loopO (m_spec_Kids_0)⟩

theorem lo_spec_Kids_0 : LOK Tryd.prog 30 0 false (l_spec_Kids_0) c_spec_Kids_0 := loop_ok (body := m_spec_Kids_0) (L := lookL []) (ck_spec_Kids) mixed (ls_ok (l := []) (by kernel_rfl) .nil) (by intro x; kernel_rfl) (fun x y h => loopO_iff.1 h)

noncomputable def e_spec_Kids : Ent := ⟨0, p_spec_Kids, q_spec_Kids, m_spec_Kids⟩
theorem ok_spec_Kids : FnOK Tryd.prog 46 e_spec_Kids := fn_ok (L := lookL [(0, l_spec_Kids_0)]) ck_spec_Kids mixed Tryd.func46 rfl (by kernel_rfl) (by kernel_rfl) (ls_ok (l := [(0, c_spec_Kids_0)]) (by kernel_rfl) (.cons rfl (lo_spec_Kids_0) .nil)) (by intro x; kernel_rfl)

/-! spec.Parent -/
abbrev p_spec_Parent : Pt := [(0, .lst .node), (1, .int .i64)]
abbrev q_spec_Parent : Pt := [(0, .int .i64)]

abbrev p_spec_Parent_0 : Pt := [(0, .lst .node), (1, .int .i64), (5, .int .i64)]
abbrev x_spec_Parent_0 : List (Xt × Pt) := [(.ex 0, []), (.rt, [(4, .int .i64)])]
noncomputable def m_spec_Parent_0 : Tup p_spec_Parent_0 → Option (Stp (Tup p_spec_Parent_0) (SumT (x_spec_Parent_0.map (·.2)))) := fun (x : List Node × Int × Int) => bif decide ((0 : Int) ≤ x.2.2) then Option.bind (atI x.1 x.2.2) fun (v : Node) => bif decide (x.2.1 < IntKind.wrap .i64 (x.2.2 + Node.size v)) then some (Stp.out (Sum.inr x.2.2)) else some (Stp.nx (x.1, x.2.1, IntKind.wrap .i64 (x.2.2 - (1 : Int)))) else some (Stp.out (Sum.inl ()))

noncomputable def m_spec_Parent : Tup p_spec_Parent → Option (Tup q_spec_Parent) := fun (x : List Node × Int) => Option.bind (loopO m_spec_Parent_0 (x.1, x.2, IntKind.wrap .i64 (x.2 - (1 : Int)))) fun (y : PUnit ⊕ Int) => selim (fun (y : PUnit) => some (-1 : Int)) (fun (y : Int) => some y) y

noncomputable def cx_spec_Parent : Cx := ⟨tb, lookE [], lookS [], mth, ast⟩

theorem ck_spec_Parent : CxOK Tryd.prog (cx_spec_Parent) := cx_ok tb_ok if_ok .nil

noncomputable def c_spec_Parent_0 : Code := loopAt (Go.Proofs.Tryd.f33.body.getD .skip) 0

noncomputable def l_spec_Parent_0 : LEnt := ⟨p_spec_Parent_0, x_spec_Parent_0, loopO (m_spec_Parent_0)⟩

theorem lo_spec_Parent_0 : LOK Tryd.prog 22 0 false (l_spec_Parent_0) c_spec_Parent_0 := loop_ok (body := m_spec_Parent_0) (L := lookL []) (ck_spec_Parent) mixed (ls_ok (l := []) (by kernel_rfl) .nil) (by intro x; kernel_rfl) (fun x y h => loopO_iff.1 h)

noncomputable def e_spec_Parent : Ent := ⟨0, p_spec_Parent, q_spec_Parent, m_spec_Parent⟩
theorem ok_spec_Parent : FnOK Tryd.prog 33 e_spec_Parent := fn_ok (L := lookL [(0, l_spec_Parent_0)]) ck_spec_Parent mixed Tryd.func33 rfl (by kernel_rfl) (by kernel_rfl) (ls_ok (l := [(0, c_spec_Parent_0)]) (by kernel_rfl) (.cons rfl (lo_spec_Parent_0) .nil)) (by intro x; kernel_rfl)

/-! spec.sized -/
abbrev p_spec_sized : Pt := [(0, .lst .node), (1, .int .i64), (2, .int .i64), (3, .int .i64)]
abbrev q_spec_sized : Pt := [(0, .bool)]

abbrev p_spec_sized_0 : Pt := [(0, .lst .node), (1, .int .i64), (3, .int .i64), (9, .int .i64), (10, .int .i64)]
abbrev x_spec_sized_0 : List (Xt × Pt) := [(.ex 0, []), (.rt, [(8, .bool)])]
noncomputable def m_spec_sized_0 (m_spec_sized : Tup p_spec_sized → Option (Tup q_spec_sized)) : Tup p_spec_sized_0 → Option (Stp (Tup p_spec_sized_0) (SumT (x_spec_sized_0.map (·.2)))) := fun (x : List Node × Int × Int × Int × Int) => bif decide (x.2.2.2.2 < IntKind.wrap .i64 (x.2.1 + x.2.2.2.1)) then Option.bind (m_spec_sized (x.1, x.2.2.2.2, IntKind.wrap .i64 (x.2.1 + x.2.2.2.1), IntKind.wrap .i64 (x.2.2.1 - (1 : Int)))) fun (r : Bool) => bif !r then some (Stp.out (Sum.inr false)) else Option.bind (atI x.1 x.2.2.2.2) fun (v : Node) => some (Stp.nx (x.1, x.2.1, x.2.2.1, x.2.2.2.1, IntKind.wrap .i64 (x.2.2.2.2 + Node.size v))) else some (Stp.out (Sum.inl ()))

noncomputable def b_spec_sized (m_spec_sized : Tup p_spec_sized → Option (Tup q_spec_sized)) : Tup p_spec_sized → Option (Tup q_spec_sized) := fun (x : List Node × Int × Int × Int) => Option.bind (atI x.1 x.2.1) fun (v : Node) => bif decide (x.2.2.2 = (0 : Int)) then some false else bif decide (Node.size v < (1 : Int)) then some false else bif decide (IntKind.wrap .i64 (x.2.2.1 - x.2.1) < Node.size v) then some false else Option.bind (loopO (m_spec_sized_0 m_spec_sized) (x.1, x.2.1, x.2.2.2, Node.size v, IntKind.wrap .i64 (x.2.1 + (1 : Int)))) fun (y : PUnit ⊕ Bool) => selim (fun (y : PUnit) => some true) (fun (y : Bool) => some y) y

noncomputable def m_spec_sized : Nat → Tup p_spec_sized → Option (Tup q_spec_sized)
  | 0 => fun _ => none
  | n + 1 => b_spec_sized (m_spec_sized n)

noncomputable def cx_spec_sized (n : Nat) : Cx := ⟨tb, lookE [(20, ⟨0, p_spec_sized, q_spec_sized, m_spec_sized n⟩)], lookS [], mth, ast⟩

theorem ck_spec_sized (n : Nat) (ih0 : FnOK Tryd.prog 20 ⟨0, p_spec_sized, q_spec_sized, m_spec_sized n⟩) : CxOK Tryd.prog (cx_spec_sized n) := cx_ok tb_ok if_ok (.cons ih0 Tryd.call20 .nil)

noncomputable def c_spec_sized_0 : Code := loopAt (Go.Proofs.Tryd.f20.body.getD .skip) 0

noncomputable def l_spec_sized_0 (n : Nat) : LEnt := ⟨p_spec_sized_0, x_spec_sized_0, loopO (m_spec_sized_0 (m_spec_sized n))⟩

theorem lo_spec_sized_0 (n : Nat) (ih0 : FnOK Tryd.prog 20 ⟨0, p_spec_sized, q_spec_sized, m_spec_sized n⟩) : LOK Tryd.prog 52 0 false (l_spec_sized_0 n) c_spec_sized_0 := loop_ok (body := m_spec_sized_0 (m_spec_sized n)) (L := lookL []) (ck_spec_sized n ih0) mixed (ls_ok (l := []) (by kernel_rfl) .nil) (by intro x; kernel_rfl) (fun x y h => loopO_iff.1 h)

theorem st_spec_sized (n : Nat) (ih0 : FnOK Tryd.prog 20 ⟨0, p_spec_sized, q_spec_sized, m_spec_sized n⟩) : FnOK Tryd.prog 20 ⟨0, p_spec_sized, q_spec_sized, m_spec_sized (n + 1)⟩ := fn_ok (ent := ⟨0, p_spec_sized, q_spec_sized, m_spec_sized (n + 1)⟩) (L := lookL [(0, l_spec_sized_0 n)]) (ck_spec_sized n ih0) mixed Tryd.func20 rfl (by kernel_rfl) (by kernel_rfl) (ls_ok (l := [(0, c_spec_sized_0)]) (by kernel_rfl) (.cons rfl (lo_spec_sized_0 n ih0) .nil)) (by intro x; kernel_rfl)

theorem ok0_spec_sized : ∀ n, FnOK Tryd.prog 20 ⟨0, p_spec_sized, q_spec_sized, m_spec_sized n⟩
  | 0 => fun x r h => by cases h
  | n + 1 => (fun ih => st_spec_sized n ih) (ok0_spec_sized n)

noncomputable def e_spec_sized : Ent := ⟨0, p_spec_sized, q_spec_sized, m_spec_sized big⟩
theorem ok_spec_sized : FnOK Tryd.prog 20 e_spec_sized := (ok0_spec_sized big)

/-! laws.zzFits4 -/
abbrev p_laws_zzFits4 : Pt := [(0, .el .attr)]
abbrev q_laws_zzFits4 : Pt := [(0, .bool)]

noncomputable def m_laws_zzFits4 : Tup p_laws_zzFits4 → Option (Tup q_laws_zzFits4) := fun (x : Attr) => bif decide ((2147483647 : Int) < (↑(List.length (Attr.key x)) : Int)) then some false else bif decide ((2147483647 : Int) < (↑(List.length (Attr.val x)) : Int)) then some false else some true

noncomputable def cx_laws_zzFits4 : Cx := ⟨tb, lookE [], lookS [], mth, ast⟩

theorem ck_laws_zzFits4 : CxOK Tryd.prog (cx_laws_zzFits4) := cx_ok tb_ok if_ok .nil

noncomputable def e_laws_zzFits4 : Ent := ⟨0, p_laws_zzFits4, q_laws_zzFits4, m_laws_zzFits4⟩
theorem ok_laws_zzFits4 : FnOK Tryd.prog 29 e_laws_zzFits4 := fn_ok (L := lookL []) ck_laws_zzFits4 mixed Tryd.func29 rfl (by kernel_rfl) (by kernel_rfl) (ls_ok (l := []) (by kernel_rfl) .nil) (by intro x; kernel_rfl)

/-! laws.zzFits3 -/
abbrev p_laws_zzFits3 : Pt := [(0, .lst .attr)]
abbrev q_laws_zzFits3 : Pt := [(0, .bool)]

abbrev p_laws_zzFits3_0 : Pt := [(8, .lst .attr), (9, .int .i64), (10, .int .i64)]
abbrev x_laws_zzFits3_0 : List (Xt × Pt) := [(.ex 0, []), (.rt, [(2, .bool)])]
noncomputable def m_laws_zzFits3_0 : Tup p_laws_zzFits3_0 → Option (Stp (Tup p_laws_zzFits3_0) (SumT (x_laws_zzFits3_0.map (·.2)))) := fun (x : List Attr × Int × Int) => bif decide (x.2.2 < x.2.1) then Option.bind (atI x.1 x.2.2) fun (v : Attr) => Option.bind (m_laws_zzFits4 { key := Attr.key v, val := Attr.val v }) fun (r : Bool) => bif !r then some (Stp.out (Sum.inr false)) else some (Stp.nx (x.1, x.2.1, IntKind.wrap .i64 (x.2.2 + (1 : Int)))) else some (Stp.out (Sum.inl ()))

noncomputable def m_laws_zzFits3 : Tup p_laws_zzFits3 → Option (Tup q_laws_zzFits3) := fun (x : List Attr) => bif decide ((2147483647 : Int) < (↑(List.length x) : Int)) then some false else Option.bind (loopO m_laws_zzFits3_0 (x, (↑(List.length x) : Int), (0 : Int))) fun (y : PUnit ⊕ Bool) => selim (fun (y : PUnit) => some true) (fun (y : Bool) => some y) y

noncomputable def cx_laws_zzFits3 : Cx := ⟨tb, lookE [(29, e_laws_zzFits4)], lookS [], mth, ast⟩

theorem ck_laws_zzFits3 : CxOK Tryd.prog (cx_laws_zzFits3) := cx_ok tb_ok if_ok (.cons ok_laws_zzFits4 Tryd.call29 .nil)

noncomputable def c_laws_zzFits3_0 : Code := loopAt (Go.Proofs.Tryd.f19.body.getD .skip) 0

noncomputable def l_laws_zzFits3_0 : LEnt := ⟨p_laws_zzFits3_0, x_laws_zzFits3_0, loopO (m_laws_zzFits3_0)⟩

theorem lo_laws_zzFits3_0 : LOK Tryd.prog 18 0 false (l_laws_zzFits3_0) c_laws_zzFits3_0 := loop_ok (body := m_laws_zzFits3_0) (L := lookL []) (ck_laws_zzFits3) mixed (ls_ok (l := []) (by kernel_rfl) .nil) (by intro x; kernel_rfl) (fun x y h => loopO_iff.1 h)

noncomputable def e_laws_zzFits3 : Ent := ⟨0, p_laws_zzFits3, q_laws_zzFits3, m_laws_zzFits3⟩
theorem ok_laws_zzFits3 : FnOK Tryd.prog 19 e_laws_zzFits3 := fn_ok (L := lookL [(0, l_laws_zzFits3_0)]) ck_laws_zzFits3 mixed Tryd.func19 rfl (by kernel_rfl) (by kernel_rfl) (ls_ok (l := [(0, c_laws_zzFits3_0)]) (by kernel_rfl) (.cons rfl (lo_laws_zzFits3_0) .nil)) (by intro x; kernel_rfl)

/-! laws.zzFits2 -/
abbrev p_laws_zzFits2 : Pt := [(0, .el .node)]
abbrev q_laws_zzFits2 : Pt := [(0, .bool)]

noncomputable def m_laws_zzFits2 : Tup p_laws_zzFits2 → Option (Tup q_laws_zzFits2) := fun (x : Node) => bif decide ((2147483647 : Int) < (↑(List.length (Node.tag x)) : Int)) then some false else bif decide ((2147483647 : Int) < (↑(List.length (Node.text x)) : Int)) then some false else Option.bind (m_laws_zzFits3 (Node.attrs x)) fun (r : Bool) => bif !r then some false else some true

noncomputable def cx_laws_zzFits2 : Cx := ⟨tb, lookE [(19, e_laws_zzFits3)], lookS [], mth, ast⟩

theorem ck_laws_zzFits2 : CxOK Tryd.prog (cx_laws_zzFits2) := cx_ok tb_ok if_ok (.cons ok_laws_zzFits3 Tryd.call19 .nil)

noncomputable def e_laws_zzFits2 : Ent := ⟨0, p_laws_zzFits2, q_laws_zzFits2, m_laws_zzFits2⟩
theorem ok_laws_zzFits2 : FnOK Tryd.prog 11 e_laws_zzFits2 := fn_ok (L := lookL []) ck_laws_zzFits2 mixed Tryd.func11 rfl (by kernel_rfl) (by kernel_rfl) (ls_ok (l := []) (by kernel_rfl) .nil) (by intro x; kernel_rfl)

/-! laws.zzFits1 -/
abbrev p_laws_zzFits1 : Pt := [(0, .lst .node)]
abbrev q_laws_zzFits1 : Pt := [(0, .bool)]

abbrev p_laws_zzFits1_0 : Pt := [(8, .lst .node), (9, .int .i64), (10, .int .i64)]
abbrev x_laws_zzFits1_0 : List (Xt × Pt) := [(.ex 0, []), (.rt, [(2, .bool)])]
noncomputable def m_laws_zzFits1_0 : Tup p_laws_zzFits1_0 → Option (Stp (Tup p_laws_zzFits1_0) (SumT (x_laws_zzFits1_0.map (·.2)))) := fun (x : List Node × Int × Int) => bif decide (x.2.2 < x.2.1) then Option.bind (atI x.1 x.2.2) fun (v : Node) => Option.bind (m_laws_zzFits2 { kind := Node.kind v, tag := Node.tag v, text := Node.text v, attrs := Node.attrs v, size := Node.size v }) fun (r : Bool) => bif !r then some (Stp.out (Sum.inr false)) else some (Stp.nx (x.1, x.2.1, IntKind.wrap .i64 (x.2.2 + (1 : Int)))) else some (Stp.out (Sum.inl ()))

noncomputable def m_laws_zzFits1 : Tup p_laws_zzFits1 → Option (Tup q_laws_zzFits1) := fun (x : List Node) => bif decide ((2147483647 : Int) < (↑(List.length x) : Int)) then some false else Option.bind (loopO m_laws_zzFits1_0 (x, (↑(List.length x) : Int), (0 : Int))) fun (y : PUnit ⊕ Bool) => selim (fun (y : PUnit) => some true) (fun (y : Bool) => some y) y

noncomputable def cx_laws_zzFits1 : Cx := ⟨tb, lookE [(11, e_laws_zzFits2)], lookS [], mth, ast⟩

theorem ck_laws_zzFits1 : CxOK Tryd.prog (cx_laws_zzFits1) := cx_ok tb_ok if_ok (.cons ok_laws_zzFits2 Tryd.call11 .nil)

noncomputable def c_laws_zzFits1_0 : Code := loopAt (Go.Proofs.Tryd.f5.body.getD .skip) 0

noncomputable def l_laws_zzFits1_0 : LEnt := ⟨p_laws_zzFits1_0, x_laws_zzFits1_0, loopO (m_laws_zzFits1_0)⟩

theorem lo_laws_zzFits1_0 : LOK Tryd.prog 18 0 false (l_laws_zzFits1_0) c_laws_zzFits1_0 := loop_ok (body := m_laws_zzFits1_0) (L := lookL []) (ck_laws_zzFits1) mixed (ls_ok (l := []) (by kernel_rfl) .nil) (by intro x; kernel_rfl) (fun x y h => loopO_iff.1 h)

noncomputable def e_laws_zzFits1 : Ent := ⟨0, p_laws_zzFits1, q_laws_zzFits1, m_laws_zzFits1⟩
theorem ok_laws_zzFits1 : FnOK Tryd.prog 5 e_laws_zzFits1 := fn_ok (L := lookL [(0, l_laws_zzFits1_0)]) ck_laws_zzFits1 mixed Tryd.func5 rfl (by kernel_rfl) (by kernel_rfl) (ls_ok (l := [(0, c_laws_zzFits1_0)]) (by kernel_rfl) (.cons rfl (lo_laws_zzFits1_0) .nil)) (by intro x; kernel_rfl)

/-! spec.Name -/
abbrev p_spec_Name : Pt := [(0, .str)]
abbrev q_spec_Name : Pt := [(0, .bool)]

abbrev p_spec_Name_0 : Pt := [(0, .str), (3, .int .i64)]
abbrev x_spec_Name_0 : List (Xt × Pt) := [(.ex 0, []), (.rt, [(2, .bool)])]
noncomputable def m_spec_Name_0 : Tup p_spec_Name_0 → Option (Stp (Tup p_spec_Name_0) (SumT (x_spec_Name_0.map (·.2)))) := fun (x : List UInt8 × Int) => bif decide (x.2 < (↑(List.length x.1) : Int)) then Option.bind (atI x.1 x.2) fun (c : UInt8) => bif decide ((97 : Int) ≤ (↑(UInt8.toNat c) : Int)) then Option.bind (atI x.1 x.2) fun (c : UInt8) => bif decide ((↑(UInt8.toNat c) : Int) ≤ (122 : Int)) then some (Stp.nx (x.1, IntKind.wrap .i64 (x.2 + (1 : Int)))) else Option.bind (atI x.1 x.2) fun (c : UInt8) => bif decide ((48 : Int) ≤ (↑(UInt8.toNat c) : Int)) then Option.bind (atI x.1 x.2) fun (c : UInt8) => bif decide ((↑(UInt8.toNat c) : Int) ≤ (57 : Int)) then some (Stp.nx (x.1, IntKind.wrap .i64 (x.2 + (1 : Int)))) else Option.bind (atI x.1 x.2) fun (c : UInt8) => bif !decide ((↑(UInt8.toNat c) : Int) = (45 : Int)) then some (Stp.out (Sum.inr false)) else some (Stp.nx (x.1, IntKind.wrap .i64 (x.2 + (1 : Int)))) else Option.bind (atI x.1 x.2) fun (c : UInt8) => bif !decide ((↑(UInt8.toNat c) : Int) = (45 : Int)) then some (Stp.out (Sum.inr false)) else some (Stp.nx (x.1, IntKind.wrap .i64 (x.2 + (1 : Int)))) else Option.bind (atI x.1 x.2) fun (c : UInt8) => bif decide ((48 : Int) ≤ (↑(UInt8.toNat c) : Int)) then Option.bind (atI x.1 x.2) fun (c : UInt8) => bif decide ((↑(UInt8.toNat c) : Int) ≤ (57 : Int)) then some (Stp.nx (x.1, IntKind.wrap .i64 (x.2 + (1 : Int)))) else Option.bind (atI x.1 x.2) fun (c : UInt8) => bif !decide ((↑(UInt8.toNat c) : Int) = (45 : Int)) then some (Stp.out (Sum.inr false)) else some (Stp.nx (x.1, IntKind.wrap .i64 (x.2 + (1 : Int)))) else Option.bind (atI x.1 x.2) fun (c : UInt8) => bif !decide ((↑(UInt8.toNat c) : Int) = (45 : Int)) then some (Stp.out (Sum.inr false)) else some (Stp.nx (x.1, IntKind.wrap .i64 (x.2 + (1 : Int)))) else some (Stp.out (Sum.inl ()))

noncomputable def m_spec_Name : Tup p_spec_Name → Option (Tup q_spec_Name) := fun (x : List UInt8) => bif decide ((↑(List.length x) : Int) = (0 : Int)) then some false else bif decide ((40 : Int) < (↑(List.length x) : Int)) then some false else Option.bind (atI x (0 : Int)) fun (c : UInt8) => bif decide ((↑(UInt8.toNat c) : Int) < (97 : Int)) then some false else Option.bind (atI x (0 : Int)) fun (c : UInt8) => bif decide ((122 : Int) < (↑(UInt8.toNat c) : Int)) then some false else Option.bind (loopO m_spec_Name_0 (x, (1 : Int))) fun (y : PUnit ⊕ Bool) => selim (fun (y : PUnit) => some true) (fun (y : Bool) => some y) y

noncomputable def cx_spec_Name : Cx := ⟨tb, lookE [], lookS [], mth, ast⟩

theorem ck_spec_Name : CxOK Tryd.prog (cx_spec_Name) := cx_ok tb_ok if_ok .nil

noncomputable def c_spec_Name_0 : Code := loopAt (Go.Proofs.Tryd.f32.body.getD .skip) 0

noncomputable def l_spec_Name_0 : LEnt := ⟨p_spec_Name_0, x_spec_Name_0, loopO (m_spec_Name_0)⟩

theorem lo_spec_Name_0 : LOK Tryd.prog 57 0 false (l_spec_Name_0) c_spec_Name_0 := loop_ok (body := m_spec_Name_0) (L := lookL []) (ck_spec_Name) mixed (ls_ok (l := []) (by kernel_rfl) .nil) (by intro x; kernel_rfl) (fun x y h => loopO_iff.1 h)

noncomputable def e_spec_Name : Ent := ⟨0, p_spec_Name, q_spec_Name, m_spec_Name⟩
theorem ok_spec_Name : FnOK Tryd.prog 32 e_spec_Name := fn_ok (L := lookL [(0, l_spec_Name_0)]) ck_spec_Name mixed Tryd.func32 rfl (by kernel_rfl) (by kernel_rfl) (ls_ok (l := [(0, c_spec_Name_0)]) (by kernel_rfl) (.cons rfl (lo_spec_Name_0) .nil)) (by intro x; kernel_rfl)

/-! spec.Point -/
abbrev p_spec_Point : Pt := [(0, .str), (1, .int .i64)]
abbrev q_spec_Point : Pt := [(0, .int .i64), (1, .int .i64)]

abbrev p_spec_Point_0 : Pt := [(0, .str), (1, .int .i64), (4, .int .i64), (7, .int .i64), (8, .int .i64), (9, .int .i64)]
abbrev x_spec_Point_0 : List (Xt × Pt) := [(.ex 1, [(4, .int .i64), (7, .int .i64), (8, .int .i64)]), (.rt, [(4, .int .i64), (5, .int .i64)])]
noncomputable def m_spec_Point_0 : Tup p_spec_Point_0 → Option (Stp (Tup p_spec_Point_0) (SumT (x_spec_Point_0.map (·.2)))) := fun (x : List UInt8 × Int × Int × Int × Int × Int) => bif decide (x.2.2.2.2.2 ≤ x.2.2.2.2.1) then Option.bind (atI x.1 (IntKind.wrap .i64 (x.2.1 + x.2.2.2.2.2))) fun (c : UInt8) => bif decide (IntKind.wrap .i64 (↑(UInt8.toNat c) : Int) < (128 : Int)) then some (Stp.out (Sum.inr ((0 : Int), (0 : Int)))) else bif decide ((192 : Int) ≤ IntKind.wrap .i64 (↑(UInt8.toNat c) : Int)) then some (Stp.out (Sum.inr ((0 : Int), (0 : Int)))) else Option.bind (shlI Go.IntKind.i64 x.2.2.1 (6 : Int)) fun (n : Int) => some (Stp.nx (x.1, x.2.1, IntKind.wrap .i64 (IntKind.wrap .i64 (n + IntKind.wrap .i64 (↑(UInt8.toNat c) : Int)) - (128 : Int)), x.2.2.2.1, x.2.2.2.2.1, IntKind.wrap .i64 (x.2.2.2.2.2 + (1 : Int)))) else some (Stp.out (Sum.inl (x.2.2.1, x.2.2.2.1, x.2.2.2.2.1)))

noncomputable def m_spec_Point : Tup p_spec_Point → Option (Tup q_spec_Point) := fun (x : List UInt8 × Int) => Option.bind (atI x.1 x.2) fun (c : UInt8) => bif decide (IntKind.wrap .i64 (↑(UInt8.toNat c) : Int) < (128 : Int)) then some (IntKind.wrap .i64 (↑(UInt8.toNat c) : Int), (1 : Int)) else bif decide ((192 : Int) ≤ IntKind.wrap .i64 (↑(UInt8.toNat c) : Int)) then bif decide (IntKind.wrap .i64 (↑(UInt8.toNat c) : Int) < (224 : Int)) then bif decide (IntKind.wrap .i64 ((↑(List.length x.1) : Int) - x.2) ≤ (1 : Int)) then some ((0 : Int), (0 : Int)) else Option.bind (loopO m_spec_Point_0 (x.1, x.2, IntKind.wrap .i64 (IntKind.wrap .i64 (↑(UInt8.toNat c) : Int) - (192 : Int)), (128 : Int), (1 : Int), (1 : Int))) fun (y : Int × Int × Int ⊕ Int × Int) => selim (fun (y : Int × Int × Int) => bif decide (y.1 < y.2.1) then some ((0 : Int), (0 : Int)) else bif decide ((1114111 : Int) < y.1) then some ((0 : Int), (0 : Int)) else bif decide ((55296 : Int) ≤ y.1) then bif decide (y.1 < (57344 : Int)) then some ((0 : Int), (0 : Int)) else some (y.1, IntKind.wrap .i64 (y.2.2 + (1 : Int))) else some (y.1, IntKind.wrap .i64 (y.2.2 + (1 : Int)))) (fun (y : Int × Int) => some (y.1, y.2)) y else bif decide ((224 : Int) ≤ IntKind.wrap .i64 (↑(UInt8.toNat c) : Int)) then bif decide (IntKind.wrap .i64 (↑(UInt8.toNat c) : Int) < (240 : Int)) then bif decide (IntKind.wrap .i64 ((↑(List.length x.1) : Int) - x.2) ≤ (2 : Int)) then some ((0 : Int), (0 : Int)) else Option.bind (loopO m_spec_Point_0 (x.1, x.2, IntKind.wrap .i64 (IntKind.wrap .i64 (↑(UInt8.toNat c) : Int) - (224 : Int)), (2048 : Int), (2 : Int), (1 : Int))) fun (y : Int × Int × Int ⊕ Int × Int) => selim (fun (y : Int × Int × Int) => bif decide (y.1 < y.2.1) then some ((0 : Int), (0 : Int)) else bif decide ((1114111 : Int) < y.1) then some ((0 : Int), (0 : Int)) else bif decide ((55296 : Int) ≤ y.1) then bif decide (y.1 < (57344 : Int)) then some ((0 : Int), (0 : Int)) else some (y.1, IntKind.wrap .i64 (y.2.2 + (1 : Int))) else some (y.1, IntKind.wrap .i64 (y.2.2 + (1 : Int)))) (fun (y : Int × Int) => some (y.1, y.2)) y else bif decide ((240 : Int) ≤ IntKind.wrap .i64 (↑(UInt8.toNat c) : Int)) then bif decide (IntKind.wrap .i64 (↑(UInt8.toNat c) : Int) < (248 : Int)) then bif decide (IntKind.wrap .i64 ((↑(List.length x.1) : Int) - x.2) ≤ (3 : Int)) then some ((0 : Int), (0 : Int)) else Option.bind (loopO m_spec_Point_0 (x.1, x.2, IntKind.wrap .i64 (IntKind.wrap .i64 (↑(UInt8.toNat c) : Int) - (240 : Int)), (65536 : Int), (3 : Int), (1 : Int))) fun (y : Int × Int × Int ⊕ Int × Int) => selim (fun (y : Int × Int × Int) => bif decide (y.1 < y.2.1) then some ((0 : Int), (0 : Int)) else bif decide ((1114111 : Int) < y.1) then some ((0 : Int), (0 : Int)) else bif decide ((55296 : Int) ≤ y.1) then bif decide (y.1 < (57344 : Int)) then some ((0 : Int), (0 : Int)) else some (y.1, IntKind.wrap .i64 (y.2.2 + (1 : Int))) else some (y.1, IntKind.wrap .i64 (y.2.2 + (1 : Int)))) (fun (y : Int × Int) => some (y.1, y.2)) y else some ((0 : Int), (0 : Int)) else some ((0 : Int), (0 : Int)) else bif decide ((240 : Int) ≤ IntKind.wrap .i64 (↑(UInt8.toNat c) : Int)) then bif decide (IntKind.wrap .i64 (↑(UInt8.toNat c) : Int) < (248 : Int)) then bif decide (IntKind.wrap .i64 ((↑(List.length x.1) : Int) - x.2) ≤ (3 : Int)) then some ((0 : Int), (0 : Int)) else Option.bind (loopO m_spec_Point_0 (x.1, x.2, IntKind.wrap .i64 (IntKind.wrap .i64 (↑(UInt8.toNat c) : Int) - (240 : Int)), (65536 : Int), (3 : Int), (1 : Int))) fun (y : Int × Int × Int ⊕ Int × Int) => selim (fun (y : Int × Int × Int) => bif decide (y.1 < y.2.1) then some ((0 : Int), (0 : Int)) else bif decide ((1114111 : Int) < y.1) then some ((0 : Int), (0 : Int)) else bif decide ((55296 : Int) ≤ y.1) then bif decide (y.1 < (57344 : Int)) then some ((0 : Int), (0 : Int)) else some (y.1, IntKind.wrap .i64 (y.2.2 + (1 : Int))) else some (y.1, IntKind.wrap .i64 (y.2.2 + (1 : Int)))) (fun (y : Int × Int) => some (y.1, y.2)) y else some ((0 : Int), (0 : Int)) else some ((0 : Int), (0 : Int)) else bif decide ((224 : Int) ≤ IntKind.wrap .i64 (↑(UInt8.toNat c) : Int)) then bif decide (IntKind.wrap .i64 (↑(UInt8.toNat c) : Int) < (240 : Int)) then bif decide (IntKind.wrap .i64 ((↑(List.length x.1) : Int) - x.2) ≤ (2 : Int)) then some ((0 : Int), (0 : Int)) else Option.bind (loopO m_spec_Point_0 (x.1, x.2, IntKind.wrap .i64 (IntKind.wrap .i64 (↑(UInt8.toNat c) : Int) - (224 : Int)), (2048 : Int), (2 : Int), (1 : Int))) fun (y : Int × Int × Int ⊕ Int × Int) => selim (fun (y : Int × Int × Int) => bif decide (y.1 < y.2.1) then some ((0 : Int), (0 : Int)) else bif decide ((1114111 : Int) < y.1) then some ((0 : Int), (0 : Int)) else bif decide ((55296 : Int) ≤ y.1) then bif decide (y.1 < (57344 : Int)) then some ((0 : Int), (0 : Int)) else some (y.1, IntKind.wrap .i64 (y.2.2 + (1 : Int))) else some (y.1, IntKind.wrap .i64 (y.2.2 + (1 : Int)))) (fun (y : Int × Int) => some (y.1, y.2)) y else bif decide ((240 : Int) ≤ IntKind.wrap .i64 (↑(UInt8.toNat c) : Int)) then bif decide (IntKind.wrap .i64 (↑(UInt8.toNat c) : Int) < (248 : Int)) then bif decide (IntKind.wrap .i64 ((↑(List.length x.1) : Int) - x.2) ≤ (3 : Int)) then some ((0 : Int), (0 : Int)) else Option.bind (loopO m_spec_Point_0 (x.1, x.2, IntKind.wrap .i64 (IntKind.wrap .i64 (↑(UInt8.toNat c) : Int) - (240 : Int)), (65536 : Int), (3 : Int), (1 : Int))) fun (y : Int × Int × Int ⊕ Int × Int) => selim (fun (y : Int × Int × Int) => bif decide (y.1 < y.2.1) then some ((0 : Int), (0 : Int)) else bif decide ((1114111 : Int) < y.1) then some ((0 : Int), (0 : Int)) else bif decide ((55296 : Int) ≤ y.1) then bif decide (y.1 < (57344 : Int)) then some ((0 : Int), (0 : Int)) else some (y.1, IntKind.wrap .i64 (y.2.2 + (1 : Int))) else some (y.1, IntKind.wrap .i64 (y.2.2 + (1 : Int)))) (fun (y : Int × Int) => some (y.1, y.2)) y else some ((0 : Int), (0 : Int)) else some ((0 : Int), (0 : Int)) else bif decide ((240 : Int) ≤ IntKind.wrap .i64 (↑(UInt8.toNat c) : Int)) then bif decide (IntKind.wrap .i64 (↑(UInt8.toNat c) : Int) < (248 : Int)) then bif decide (IntKind.wrap .i64 ((↑(List.length x.1) : Int) - x.2) ≤ (3 : Int)) then some ((0 : Int), (0 : Int)) else Option.bind (loopO m_spec_Point_0 (x.1, x.2, IntKind.wrap .i64 (IntKind.wrap .i64 (↑(UInt8.toNat c) : Int) - (240 : Int)), (65536 : Int), (3 : Int), (1 : Int))) fun (y : Int × Int × Int ⊕ Int × Int) => selim (fun (y : Int × Int × Int) => bif decide (y.1 < y.2.1) then some ((0 : Int), (0 : Int)) else bif decide ((1114111 : Int) < y.1) then some ((0 : Int), (0 : Int)) else bif decide ((55296 : Int) ≤ y.1) then bif decide (y.1 < (57344 : Int)) then some ((0 : Int), (0 : Int)) else some (y.1, IntKind.wrap .i64 (y.2.2 + (1 : Int))) else some (y.1, IntKind.wrap .i64 (y.2.2 + (1 : Int)))) (fun (y : Int × Int) => some (y.1, y.2)) y else some ((0 : Int), (0 : Int)) else some ((0 : Int), (0 : Int))

noncomputable def cx_spec_Point : Cx := ⟨tb, lookE [], lookS [], mth, ast⟩

theorem ck_spec_Point : CxOK Tryd.prog (cx_spec_Point) := cx_ok tb_ok if_ok .nil

noncomputable def c_spec_Point_0 : Code := loopAt (Go.Proofs.Tryd.f45.body.getD .skip) 0

noncomputable def l_spec_Point_0 : LEnt := ⟨p_spec_Point_0, x_spec_Point_0, loopO (m_spec_Point_0)⟩

theorem lo_spec_Point_0 : LOK Tryd.prog 92 0 false (l_spec_Point_0) c_spec_Point_0 := loop_ok (body := m_spec_Point_0) (L := lookL []) (ck_spec_Point) mixed (ls_ok (l := []) (by kernel_rfl) .nil) (by intro x; kernel_rfl) (fun x y h => loopO_iff.1 h)

noncomputable def e_spec_Point : Ent := ⟨0, p_spec_Point, q_spec_Point, m_spec_Point⟩
theorem ok_spec_Point : FnOK Tryd.prog 45 e_spec_Point := fn_ok (L := lookL [(1, l_spec_Point_0)]) ck_spec_Point mixed Tryd.func45 rfl (by kernel_rfl) (by kernel_rfl) (ls_ok (l := [(1, c_spec_Point_0)]) (by kernel_rfl) (.cons rfl (lo_spec_Point_0) .nil)) (by intro x; kernel_rfl)

/-! spec.Plain -/
abbrev p_spec_Plain : Pt := [(0, .str)]
abbrev q_spec_Plain : Pt := [(0, .bool)]

abbrev p_spec_Plain_0 : Pt := [(0, .str), (3, .int .i64)]
abbrev x_spec_Plain_0 : List (Xt × Pt) := [(.ex 0, []), (.rt, [(2, .bool)])]
noncomputable def m_spec_Plain_0 : Tup p_spec_Plain_0 → Option (Stp (Tup p_spec_Plain_0) (SumT (x_spec_Plain_0.map (·.2)))) := fun (x : List UInt8 × Int) => bif decide (x.2 < (↑(List.length x.1) : Int)) then Option.bind (m_spec_Point (x.1, x.2)) fun (r : Int × Int) => bif decide (r.2 = (0 : Int)) then some (Stp.out (Sum.inr false)) else bif decide (r.1 = (0 : Int)) then some (Stp.out (Sum.inr false)) else some (Stp.nx (x.1, IntKind.wrap .i64 (x.2 + r.2))) else some (Stp.out (Sum.inl ()))

noncomputable def m_spec_Plain : Tup p_spec_Plain → Option (Tup q_spec_Plain) := fun (x : List UInt8) => Option.bind (loopO m_spec_Plain_0 (x, (0 : Int))) fun (y : PUnit ⊕ Bool) => selim (fun (y : PUnit) => some true) (fun (y : Bool) => some y) y

noncomputable def cx_spec_Plain : Cx := ⟨tb, lookE [(45, e_spec_Point)], lookS [], mth, ast⟩

theorem ck_spec_Plain : CxOK Tryd.prog (cx_spec_Plain) := cx_ok tb_ok if_ok (.cons ok_spec_Point Tryd.call45 .nil)

noncomputable def c_spec_Plain_0 : Code := loopAt (Go.Proofs.Tryd.f30.body.getD .skip) 0

noncomputable def l_spec_Plain_0 : LEnt := ⟨p_spec_Plain_0, x_spec_Plain_0, loopO (m_spec_Plain_0)⟩

theorem lo_spec_Plain_0 : LOK Tryd.prog 25 0 false (l_spec_Plain_0) c_spec_Plain_0 := loop_ok (body := m_spec_Plain_0) (L := lookL []) (ck_spec_Plain) mixed (ls_ok (l := []) (by kernel_rfl) .nil) (by intro x; kernel_rfl) (fun x y h => loopO_iff.1 h)

noncomputable def e_spec_Plain : Ent := ⟨0, p_spec_Plain, q_spec_Plain, m_spec_Plain⟩
theorem ok_spec_Plain : FnOK Tryd.prog 30 e_spec_Plain := fn_ok (L := lookL [(0, l_spec_Plain_0)]) ck_spec_Plain mixed Tryd.func30 rfl (by kernel_rfl) (by kernel_rfl) (ls_ok (l := [(0, c_spec_Plain_0)]) (by kernel_rfl) (.cons rfl (lo_spec_Plain_0) .nil)) (by intro x; kernel_rfl)

/-! spec.rightRoot -/
abbrev p_spec_rightRoot : Pt := [(0, .lst .node)]
abbrev q_spec_rightRoot : Pt := [(0, .bool)]

abbrev p_spec_rightRoot_0 : Pt := [(0, .lst .node), (3, .own .int 3), (4, .bool), (5, .int .i64)]
abbrev x_spec_rightRoot_0 : List (Xt × Pt) := [(.ex 0, []), (.rt, [(2, .bool)])]
noncomputable def m_spec_rightRoot_0 : Tup p_spec_rightRoot_0 → Option (Stp (Tup p_spec_rightRoot_0) (SumT (x_spec_rightRoot_0.map (·.2)))) := fun (x : List Node × List Int × Bool × Int) => bif decide (x.2.2.2 < (↑(List.length x.2.1) : Int)) then Option.bind (atI x.2.1 x.2.2.2) fun (x_1 : Int) => Option.bind x.2.1[Int.toNat x.2.2.2]? fun (v : Int) => Option.bind (atI x.1 v) fun (v : Node) => bif decide (Node.kind v = (4 : Int)) then some (Stp.out (Sum.inr false)) else bif decide (Node.kind v = (2 : Int)) then bif x.2.2.1 then Option.bind (atI x.2.1 x.2.2.2) fun (x_2 : Int) => Option.bind x.2.1[Int.toNat x.2.2.2]? fun (v : Int) => Option.bind (atI x.1 v) fun (v : Node) => bif decide (Node.kind v = (2 : Int)) then some (Stp.out (Sum.inr false)) else some (Stp.nx (x.1, x.2.1, true, IntKind.wrap .i64 (x.2.2.2 + (1 : Int)))) else some (Stp.nx (x.1, x.2.1, true, IntKind.wrap .i64 (x.2.2.2 + (1 : Int)))) else bif decide (Node.kind v = (3 : Int)) then bif x.2.2.1 then Option.bind (atI x.2.1 x.2.2.2) fun (x_2 : Int) => Option.bind x.2.1[Int.toNat x.2.2.2]? fun (v : Int) => Option.bind (atI x.1 v) fun (v : Node) => bif decide (Node.kind v = (2 : Int)) then some (Stp.out (Sum.inr false)) else some (Stp.nx (x.1, x.2.1, true, IntKind.wrap .i64 (x.2.2.2 + (1 : Int)))) else some (Stp.nx (x.1, x.2.1, true, IntKind.wrap .i64 (x.2.2.2 + (1 : Int)))) else some (Stp.nx (x.1, x.2.1, x.2.2.1, IntKind.wrap .i64 (x.2.2.2 + (1 : Int)))) else some (Stp.out (Sum.inl ()))

noncomputable def m_spec_rightRoot : Tup p_spec_rightRoot → Option (Tup q_spec_rightRoot) := fun (x : List Node) => Option.bind (m_spec_Kids (x, (0 : Int))) fun (r : List Int) => Option.bind (loopO m_spec_rightRoot_0 (x, r, false, (0 : Int))) fun (y : PUnit ⊕ Bool) => selim (fun (y : PUnit) => some true) (fun (y : Bool) => some y) y

noncomputable def cx_spec_rightRoot : Cx := ⟨tb, lookE [(46, e_spec_Kids)], lookS [], mth, ast⟩

theorem ck_spec_rightRoot : CxOK Tryd.prog (cx_spec_rightRoot) := cx_ok tb_ok if_ok (.cons ok_spec_Kids Tryd.call46 .nil)

noncomputable def c_spec_rightRoot_0 : Code := loopAt (Go.Proofs.Tryd.f31.body.getD .skip) 0

noncomputable def l_spec_rightRoot_0 : LEnt := ⟨p_spec_rightRoot_0, x_spec_rightRoot_0, loopO (m_spec_rightRoot_0)⟩

theorem lo_spec_rightRoot_0 : LOK Tryd.prog 39 0 false (l_spec_rightRoot_0) c_spec_rightRoot_0 := loop_ok (body := m_spec_rightRoot_0) (L := lookL []) (ck_spec_rightRoot) mixed (ls_ok (l := []) (by kernel_rfl) .nil) (by intro x; kernel_rfl) (fun x y h => loopO_iff.1 h)

noncomputable def e_spec_rightRoot : Ent := ⟨0, p_spec_rightRoot, q_spec_rightRoot, m_spec_rightRoot⟩
theorem ok_spec_rightRoot : FnOK Tryd.prog 31 e_spec_rightRoot := fn_ok (L := lookL [(0, l_spec_rightRoot_0)]) ck_spec_rightRoot mixed Tryd.func31 rfl (by kernel_rfl) (by kernel_rfl) (ls_ok (l := [(0, c_spec_rightRoot_0)]) (by kernel_rfl) (.cons rfl (lo_spec_rightRoot_0) .nil)) (by intro x; kernel_rfl)

end Go.Proofs.YtpedmnlpccngiaaDoor.V
