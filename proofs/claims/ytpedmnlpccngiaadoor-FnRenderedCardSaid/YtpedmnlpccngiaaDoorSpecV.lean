/-
  Models of functions, and that they are what the code does (written by a program).
-/
import Derived.Test.YtpedmnlpccngiaaDoorKTab
import Derived.Test.YtpedmnlpccngiaaDoorSpecA
import Derived.Test.YtpedmnlpccngiaaDoorSpecB
import Derived.Test.YtpedmnlpccngiaaDoorKVal
set_option linter.unusedVariables false
set_option linter.unusedSimpArgs false
namespace Go.Proofs.YtpedmnlpccngiaaDoor.V
open Go Go.Proofs

/-! spec.ReadText -/
abbrev p_spec_ReadText : Pt := [(0, .str)]
abbrev q_spec_ReadText : Pt := [(0, .bool)]

abbrev p_spec_ReadText_0 : Pt := [(0, .str), (3, .int .i64)]
abbrev x_spec_ReadText_0 : List (Xt × Pt) := [(.ex 0, [(0, .str)]), (.rt, [(2, .bool)])]
noncomputable def m_spec_ReadText_0 : Tup p_spec_ReadText_0 → Option (Stp (Tup p_spec_ReadText_0) (SumT (x_spec_ReadText_0.map (·.2)))) := fun (x : List UInt8 × Int) => bif decide (x.2 < (↑(List.length x.1) : Int)) then Option.bind (atI x.1 x.2) fun (c : UInt8) => bif decide ((↑(UInt8.toNat c) : Int) = (0 : Int)) then some (Stp.out (Sum.inr false)) else Option.bind (atI x.1 x.2) fun (c : UInt8) => bif decide ((↑(UInt8.toNat c) : Int) = (13 : Int)) then some (Stp.out (Sum.inr false)) else some (Stp.nx (x.1, IntKind.wrap .i64 (x.2 + (1 : Int)))) else some (Stp.out (Sum.inl x.1))

noncomputable def m_spec_ReadText : Tup p_spec_ReadText → Option (Tup q_spec_ReadText) := fun (x : List UInt8) => Option.bind (loopO m_spec_ReadText_0 (x, (0 : Int))) fun (y : List UInt8 ⊕ Bool) => selim (fun (y : List UInt8) => Option.bind (m_utf8_ValidString y) fun (r : Bool) => some r) (fun (y : Bool) => some y) y

noncomputable def cx_spec_ReadText : Cx := ⟨tb, lookE [(35, e_utf8_ValidString)], lookS [], mth, ast⟩

theorem ck_spec_ReadText : CxOK Tryd.prog (cx_spec_ReadText) := cx_ok tb_ok if_ok (.cons ok_utf8_ValidString Tryd.call35 .nil)

noncomputable def c_spec_ReadText_0 : Code := loopAt (Go.Proofs.Tryd.f22.body.getD .skip) 0

noncomputable def l_spec_ReadText_0 : LEnt := ⟨p_spec_ReadText_0, x_spec_ReadText_0, loopO (m_spec_ReadText_0)⟩

theorem lo_spec_ReadText_0 : LOK Tryd.prog 22 0 false (l_spec_ReadText_0) c_spec_ReadText_0 := loop_ok (body := m_spec_ReadText_0) (L := lookL []) (ck_spec_ReadText) mixed (ls_ok (l := []) (by kernel_rfl) .nil) (by intro x; kernel_rfl) (fun x y h => loopO_iff.1 h)

noncomputable def e_spec_ReadText : Ent := ⟨0, p_spec_ReadText, q_spec_ReadText, m_spec_ReadText⟩
theorem ok_spec_ReadText : FnOK Tryd.prog 22 e_spec_ReadText := fn_ok (L := lookL [(0, l_spec_ReadText_0)]) ck_spec_ReadText mixed Tryd.func22 rfl (by kernel_rfl) (by kernel_rfl) (ls_ok (l := [(0, c_spec_ReadText_0)]) (by kernel_rfl) (.cons rfl (lo_spec_ReadText_0) .nil)) (by intro x; kernel_rfl)

/-! spec.plainAttrs -/
abbrev p_spec_plainAttrs : Pt := [(0, .lst .attr)]
abbrev q_spec_plainAttrs : Pt := [(0, .bool)]

abbrev p_spec_plainAttrs_0 : Pt := [(0, .lst .attr), (3, .int .i64)]
abbrev x_spec_plainAttrs_0 : List (Xt × Pt) := [(.ex 0, []), (.rt, [(2, .bool)])]
noncomputable def m_spec_plainAttrs_0 : Tup p_spec_plainAttrs_0 → Option (Stp (Tup p_spec_plainAttrs_0) (SumT (x_spec_plainAttrs_0.map (·.2)))) := fun (x : List Attr × Int) => bif decide (x.2 < (↑(List.length x.1) : Int)) then Option.bind (atI x.1 x.2) fun (v : Attr) => Option.bind (m_spec_ReadText (Attr.val v)) fun (r : Bool) => bif !r then some (Stp.out (Sum.inr false)) else some (Stp.nx (x.1, IntKind.wrap .i64 (x.2 + (1 : Int)))) else some (Stp.out (Sum.inl ()))

noncomputable def m_spec_plainAttrs : Tup p_spec_plainAttrs → Option (Tup q_spec_plainAttrs) := fun (x : List Attr) => Option.bind (loopO m_spec_plainAttrs_0 (x, (0 : Int))) fun (y : PUnit ⊕ Bool) => selim (fun (y : PUnit) => some true) (fun (y : Bool) => some y) y

noncomputable def cx_spec_plainAttrs : Cx := ⟨tb, lookE [(22, e_spec_ReadText)], lookS [], mth, ast⟩

theorem ck_spec_plainAttrs : CxOK Tryd.prog (cx_spec_plainAttrs) := cx_ok tb_ok if_ok (.cons ok_spec_ReadText Tryd.call22 .nil)

noncomputable def c_spec_plainAttrs_0 : Code := loopAt (Go.Proofs.Tryd.f13.body.getD .skip) 0

noncomputable def l_spec_plainAttrs_0 : LEnt := ⟨p_spec_plainAttrs_0, x_spec_plainAttrs_0, loopO (m_spec_plainAttrs_0)⟩

theorem lo_spec_plainAttrs_0 : LOK Tryd.prog 17 0 false (l_spec_plainAttrs_0) c_spec_plainAttrs_0 := loop_ok (body := m_spec_plainAttrs_0) (L := lookL []) (ck_spec_plainAttrs) mixed (ls_ok (l := []) (by kernel_rfl) .nil) (by intro x; kernel_rfl) (fun x y h => loopO_iff.1 h)

noncomputable def e_spec_plainAttrs : Ent := ⟨0, p_spec_plainAttrs, q_spec_plainAttrs, m_spec_plainAttrs⟩
theorem ok_spec_plainAttrs : FnOK Tryd.prog 13 e_spec_plainAttrs := fn_ok (L := lookL [(0, l_spec_plainAttrs_0)]) ck_spec_plainAttrs mixed Tryd.func13 rfl (by kernel_rfl) (by kernel_rfl) (ls_ok (l := [(0, c_spec_plainAttrs_0)]) (by kernel_rfl) (.cons rfl (lo_spec_plainAttrs_0) .nil)) (by intro x; kernel_rfl)

/-! spec.PlainTag -/
abbrev p_spec_PlainTag : Pt := [(0, .str)]
abbrev q_spec_PlainTag : Pt := [(0, .bool)]

noncomputable def m_spec_PlainTag : Tup p_spec_PlainTag → Option (Tup q_spec_PlainTag) := fun (x : List UInt8) => bif decide (x = Array.toList (ByteArray.data { data := #[(100 : UInt8), (105 : UInt8), (118 : UInt8)] })) then some true else bif decide (x = Array.toList (ByteArray.data { data := #[(115 : UInt8), (101 : UInt8), (99 : UInt8), (116 : UInt8), (105 : UInt8), (111 : UInt8), (110 : UInt8)] })) then some true else bif decide (x = Array.toList (ByteArray.data { data := #[(97 : UInt8), (114 : UInt8), (116 : UInt8), (105 : UInt8), (99 : UInt8), (108 : UInt8), (101 : UInt8)] })) then some true else bif decide (x = Array.toList (ByteArray.data { data := #[(97 : UInt8), (115 : UInt8), (105 : UInt8), (100 : UInt8), (101 : UInt8)] })) then some true else bif decide (x = Array.toList (ByteArray.data { data := #[(110 : UInt8), (97 : UInt8), (118 : UInt8)] })) then some true else bif decide (x = Array.toList (ByteArray.data { data := #[(104 : UInt8), (101 : UInt8), (97 : UInt8), (100 : UInt8), (101 : UInt8), (114 : UInt8)] })) then some true else bif decide (x = Array.toList (ByteArray.data { data := #[(102 : UInt8), (111 : UInt8), (111 : UInt8), (116 : UInt8), (101 : UInt8), (114 : UInt8)] })) then some true else bif decide (x = Array.toList (ByteArray.data { data := #[(109 : UInt8), (97 : UInt8), (105 : UInt8), (110 : UInt8)] })) then some true else bif decide (x = Array.toList (ByteArray.data { data := #[(115 : UInt8), (112 : UInt8), (97 : UInt8), (110 : UInt8)] })) then some true else bif decide (x = Array.toList (ByteArray.data { data := #[(97 : UInt8), (98 : UInt8), (98 : UInt8), (114 : UInt8)] })) then some true else bif decide (x = Array.toList (ByteArray.data { data := #[(115 : UInt8), (117 : UInt8), (98 : UInt8)] })) then some true else bif decide (x = Array.toList (ByteArray.data { data := #[(115 : UInt8), (117 : UInt8), (112 : UInt8)] })) then some true else bif decide (x = Array.toList (ByteArray.data { data := #[(113 : UInt8)] })) then some true else bif decide (x = Array.toList (ByteArray.data { data := #[(120 : UInt8), (45 : UInt8), (97 : UInt8)] })) then some true else bif decide (x = Array.toList (ByteArray.data { data := #[(120 : UInt8), (45 : UInt8), (98 : UInt8)] })) then some true else some false

noncomputable def cx_spec_PlainTag : Cx := ⟨tb, lookE [], lookS [], mth, ast⟩

theorem ck_spec_PlainTag : CxOK Tryd.prog (cx_spec_PlainTag) := cx_ok tb_ok if_ok .nil

noncomputable def e_spec_PlainTag : Ent := ⟨0, p_spec_PlainTag, q_spec_PlainTag, m_spec_PlainTag⟩
theorem ok_spec_PlainTag : FnOK Tryd.prog 23 e_spec_PlainTag := fn_ok (L := lookL []) ck_spec_PlainTag mixed Tryd.func23 rfl (by kernel_rfl) (by kernel_rfl) (ls_ok (l := []) (by kernel_rfl) .nil) (by intro x; kernel_rfl)

/-! spec.letters -/
abbrev p_spec_letters : Pt := [(0, .str)]
abbrev q_spec_letters : Pt := [(0, .bool)]

abbrev p_spec_letters_0 : Pt := [(0, .str), (3, .int .i64)]
abbrev x_spec_letters_0 : List (Xt × Pt) := [(.ex 0, []), (.rt, [(2, .bool)])]
noncomputable def m_spec_letters_0 : Tup p_spec_letters_0 → Option (Stp (Tup p_spec_letters_0) (SumT (x_spec_letters_0.map (·.2)))) := fun (x : List UInt8 × Int) => bif decide (x.2 < (↑(List.length x.1) : Int)) then Option.bind (atI x.1 x.2) fun (c : UInt8) => bif decide ((↑(UInt8.toNat c) : Int) < (97 : Int)) then bif decide ((↑(UInt8.toNat c) : Int) < (65 : Int)) then bif decide ((↑(UInt8.toNat c) : Int) ≠ (32 : Int)) then some (Stp.out (Sum.inr false)) else some (Stp.nx (x.1, IntKind.wrap .i64 (x.2 + (1 : Int)))) else bif decide ((90 : Int) < (↑(UInt8.toNat c) : Int)) then bif decide ((↑(UInt8.toNat c) : Int) ≠ (32 : Int)) then some (Stp.out (Sum.inr false)) else some (Stp.nx (x.1, IntKind.wrap .i64 (x.2 + (1 : Int)))) else some (Stp.nx (x.1, IntKind.wrap .i64 (x.2 + (1 : Int)))) else bif decide ((122 : Int) < (↑(UInt8.toNat c) : Int)) then bif decide ((↑(UInt8.toNat c) : Int) < (65 : Int)) then bif decide ((↑(UInt8.toNat c) : Int) ≠ (32 : Int)) then some (Stp.out (Sum.inr false)) else some (Stp.nx (x.1, IntKind.wrap .i64 (x.2 + (1 : Int)))) else bif decide ((90 : Int) < (↑(UInt8.toNat c) : Int)) then bif decide ((↑(UInt8.toNat c) : Int) ≠ (32 : Int)) then some (Stp.out (Sum.inr false)) else some (Stp.nx (x.1, IntKind.wrap .i64 (x.2 + (1 : Int)))) else some (Stp.nx (x.1, IntKind.wrap .i64 (x.2 + (1 : Int)))) else some (Stp.nx (x.1, IntKind.wrap .i64 (x.2 + (1 : Int)))) else some (Stp.out (Sum.inl ()))

noncomputable def m_spec_letters : Tup p_spec_letters → Option (Tup q_spec_letters) := fun (x : List UInt8) => Option.bind (loopO m_spec_letters_0 (x, (0 : Int))) fun (y : PUnit ⊕ Bool) => selim (fun (y : PUnit) => some true) (fun (y : Bool) => some y) y

noncomputable def cx_spec_letters : Cx := ⟨tb, lookE [], lookS [], mth, ast⟩

theorem ck_spec_letters : CxOK Tryd.prog (cx_spec_letters) := cx_ok tb_ok if_ok .nil

noncomputable def c_spec_letters_0 : Code := loopAt (Go.Proofs.Tryd.f24.body.getD .skip) 0

noncomputable def l_spec_letters_0 : LEnt := ⟨p_spec_letters_0, x_spec_letters_0, loopO (m_spec_letters_0)⟩

theorem lo_spec_letters_0 : LOK Tryd.prog 32 0 false (l_spec_letters_0) c_spec_letters_0 := loop_ok (body := m_spec_letters_0) (L := lookL []) (ck_spec_letters) mixed (ls_ok (l := []) (by kernel_rfl) .nil) (by intro x; kernel_rfl) (fun x y h => loopO_iff.1 h)

noncomputable def e_spec_letters : Ent := ⟨0, p_spec_letters, q_spec_letters, m_spec_letters⟩
theorem ok_spec_letters : FnOK Tryd.prog 24 e_spec_letters := fn_ok (L := lookL [(0, l_spec_letters_0)]) ck_spec_letters mixed Tryd.func24 rfl (by kernel_rfl) (by kernel_rfl) (ls_ok (l := [(0, c_spec_letters_0)]) (by kernel_rfl) (.cons rfl (lo_spec_letters_0) .nil)) (by intro x; kernel_rfl)

/-! spec.PlainKids -/
abbrev p_spec_PlainKids : Pt := [(0, .lst .node), (1, .int .i64)]
abbrev q_spec_PlainKids : Pt := [(0, .bool)]

abbrev p_spec_PlainKids_0 : Pt := [(0, .lst .node), (1, .int .i64), (5, .bool), (6, .int .i64)]
abbrev x_spec_PlainKids_0 : List (Xt × Pt) := [(.ex 0, []), (.rt, [(4, .bool)])]
noncomputable def m_spec_PlainKids_0 (m_spec_PlainKids : Tup p_spec_PlainKids → Option (Tup q_spec_PlainKids)) : Tup p_spec_PlainKids_0 → Option (Stp (Tup p_spec_PlainKids_0) (SumT (x_spec_PlainKids_0.map (·.2)))) := fun (x : List Node × Int × Bool × Int) => Option.bind (atI x.1 x.2.1) fun (v : Node) => bif decide (x.2.2.2 < IntKind.wrap .i64 (x.2.1 + Node.size v)) then Option.bind (atI x.1 x.2.2.2) fun (v : Node) => bif decide (Node.kind v = (3 : Int)) then Option.bind (m_spec_PlainTag (Node.tag v)) fun (r : Bool) => bif !r then some (Stp.out (Sum.inr false)) else Option.bind (m_spec_plainAttrs (Node.attrs v)) fun (r : Bool) => bif !r then some (Stp.out (Sum.inr false)) else Option.bind (m_spec_PlainKids (x.1, x.2.2.2)) fun (r : Bool) => bif !r then some (Stp.out (Sum.inr false)) else Option.bind (atI x.1 x.2.2.2) fun (v_1 : Node) => some (Stp.nx (x.1, x.2.1, decide (Node.kind v = (4 : Int)), IntKind.wrap .i64 (x.2.2.2 + Node.size v_1))) else bif decide (Node.kind v = (5 : Int)) then Option.bind (m_spec_letters (Node.text v)) fun (r : Bool) => bif !r then some (Stp.out (Sum.inr false)) else Option.bind (atI x.1 x.2.2.2) fun (v_1 : Node) => some (Stp.nx (x.1, x.2.1, decide (Node.kind v = (4 : Int)), IntKind.wrap .i64 (x.2.2.2 + Node.size v_1))) else bif decide (Node.kind v = (4 : Int)) then bif decide (Node.text v = Array.toList (ByteArray.data { data := #[] })) then some (Stp.out (Sum.inr false)) else Option.bind (m_spec_ReadText (Node.text v)) fun (r : Bool) => bif !r then some (Stp.out (Sum.inr false)) else bif x.2.2.1 then some (Stp.out (Sum.inr false)) else Option.bind (atI x.1 x.2.2.2) fun (v_1 : Node) => some (Stp.nx (x.1, x.2.1, decide (Node.kind v = (4 : Int)), IntKind.wrap .i64 (x.2.2.2 + Node.size v_1))) else some (Stp.out (Sum.inr false)) else some (Stp.out (Sum.inl ()))

noncomputable def b_spec_PlainKids (m_spec_PlainKids : Tup p_spec_PlainKids → Option (Tup q_spec_PlainKids)) : Tup p_spec_PlainKids → Option (Tup q_spec_PlainKids) := fun (x : List Node × Int) => Option.bind (loopO (m_spec_PlainKids_0 m_spec_PlainKids) (x.1, x.2, false, IntKind.wrap .i64 (x.2 + (1 : Int)))) fun (y : PUnit ⊕ Bool) => selim (fun (y : PUnit) => some true) (fun (y : Bool) => some y) y

noncomputable def m_spec_PlainKids : Nat → Tup p_spec_PlainKids → Option (Tup q_spec_PlainKids)
  | 0 => fun _ => none
  | n + 1 => b_spec_PlainKids (m_spec_PlainKids n)

noncomputable def cx_spec_PlainKids (n : Nat) : Cx := ⟨tb, lookE [(23, e_spec_PlainTag), (13, e_spec_plainAttrs), (14, ⟨0, p_spec_PlainKids, q_spec_PlainKids, m_spec_PlainKids n⟩), (24, e_spec_letters), (22, e_spec_ReadText)], lookS [], mth, ast⟩

theorem ck_spec_PlainKids (n : Nat) (ih0 : FnOK Tryd.prog 14 ⟨0, p_spec_PlainKids, q_spec_PlainKids, m_spec_PlainKids n⟩) : CxOK Tryd.prog (cx_spec_PlainKids n) := cx_ok tb_ok if_ok (.cons ok_spec_PlainTag Tryd.call23 (.cons ok_spec_plainAttrs Tryd.call13 (.cons ih0 Tryd.call14 (.cons ok_spec_letters Tryd.call24 (.cons ok_spec_ReadText Tryd.call22 .nil)))))

noncomputable def c_spec_PlainKids_0 : Code := loopAt (Go.Proofs.Tryd.f14.body.getD .skip) 0

noncomputable def l_spec_PlainKids_0 (n : Nat) : LEnt := ⟨p_spec_PlainKids_0, x_spec_PlainKids_0, loopO (m_spec_PlainKids_0 (m_spec_PlainKids n))⟩

theorem lo_spec_PlainKids_0 (n : Nat) (ih0 : FnOK Tryd.prog 14 ⟨0, p_spec_PlainKids, q_spec_PlainKids, m_spec_PlainKids n⟩) : LOK Tryd.prog 73 0 false (l_spec_PlainKids_0 n) c_spec_PlainKids_0 := loop_ok (body := m_spec_PlainKids_0 (m_spec_PlainKids n)) (L := lookL []) (ck_spec_PlainKids n ih0) mixed (ls_ok (l := []) (by kernel_rfl) .nil) (by intro x; kernel_rfl) (fun x y h => loopO_iff.1 h)

theorem st_spec_PlainKids (n : Nat) (ih0 : FnOK Tryd.prog 14 ⟨0, p_spec_PlainKids, q_spec_PlainKids, m_spec_PlainKids n⟩) : FnOK Tryd.prog 14 ⟨0, p_spec_PlainKids, q_spec_PlainKids, m_spec_PlainKids (n + 1)⟩ := fn_ok (ent := ⟨0, p_spec_PlainKids, q_spec_PlainKids, m_spec_PlainKids (n + 1)⟩) (L := lookL [(0, l_spec_PlainKids_0 n)]) (ck_spec_PlainKids n ih0) mixed Tryd.func14 rfl (by kernel_rfl) (by kernel_rfl) (ls_ok (l := [(0, c_spec_PlainKids_0)]) (by kernel_rfl) (.cons rfl (lo_spec_PlainKids_0 n ih0) .nil)) (by intro x; kernel_rfl)

theorem ok0_spec_PlainKids : ∀ n, FnOK Tryd.prog 14 ⟨0, p_spec_PlainKids, q_spec_PlainKids, m_spec_PlainKids n⟩
  | 0 => fun x r h => by cases h
  | n + 1 => (fun ih => st_spec_PlainKids n ih) (ok0_spec_PlainKids n)

noncomputable def e_spec_PlainKids : Ent := ⟨0, p_spec_PlainKids, q_spec_PlainKids, m_spec_PlainKids big⟩
theorem ok_spec_PlainKids : FnOK Tryd.prog 14 e_spec_PlainKids := (ok0_spec_PlainKids big)

/-! spec.PlainDocument -/
abbrev p_spec_PlainDocument : Pt := [(0, .lst .node)]
abbrev q_spec_PlainDocument : Pt := [(0, .bool)]

noncomputable def m_spec_PlainDocument : Tup p_spec_PlainDocument → Option (Tup q_spec_PlainDocument) := fun (x : List Node) => Option.bind (m_spec_Right x) fun (r : Bool) => bif !r then some false else bif decide ((↑(List.length x) : Int) < (5 : Int)) then some false else Option.bind (atI x (1 : Int)) fun (v : Node) => bif decide (Node.kind v ≠ (2 : Int)) then some false else Option.bind (atI x (1 : Int)) fun (v : Node) => bif decide (Node.text v ≠ Array.toList (ByteArray.data { data := #[(104 : UInt8), (116 : UInt8), (109 : UInt8), (108 : UInt8)] })) then some false else Option.bind (atI x (2 : Int)) fun (v : Node) => Option.bind (atI x (3 : Int)) fun (v_1 : Node) => Option.bind (atI x (4 : Int)) fun (v_2 : Node) => bif decide (Node.tag v ≠ Array.toList (ByteArray.data { data := #[(104 : UInt8), (116 : UInt8), (109 : UInt8), (108 : UInt8)] })) then some false else bif decide (Node.size v ≠ IntKind.wrap .i64 ((↑(List.length x) : Int) - (2 : Int))) then some false else bif decide (Node.tag v_1 ≠ Array.toList (ByteArray.data { data := #[(104 : UInt8), (101 : UInt8), (97 : UInt8), (100 : UInt8)] })) then some false else bif decide (Node.size v_1 ≠ (1 : Int)) then some false else bif decide ((0 : Int) < (↑(List.length (Node.attrs v_1)) : Int)) then some false else bif decide (Node.tag v_2 ≠ Array.toList (ByteArray.data { data := #[(98 : UInt8), (111 : UInt8), (100 : UInt8), (121 : UInt8)] })) then some false else bif decide (Node.size v_2 ≠ IntKind.wrap .i64 ((↑(List.length x) : Int) - (4 : Int))) then some false else Option.bind (m_spec_plainAttrs (Node.attrs v)) fun (r : Bool) => bif r then Option.bind (m_spec_plainAttrs (Node.attrs v_2)) fun (r : Bool) => bif r then Option.bind (m_spec_PlainKids big (x, (4 : Int))) fun (r : Bool) => some r else some false else some false

noncomputable def cx_spec_PlainDocument : Cx := ⟨tb, lookE [(12, e_spec_Right), (13, e_spec_plainAttrs), (14, e_spec_PlainKids)], lookS [(3, [(true, 0), (true, 1), (true, 2), (true, 3), (true, 4), (true, 5), (true, 6), (true, 7), (true, 8), (false, 1000000), (true, 9), (true, 12), (true, 10), (true, 13), (true, 11), (true, 14)])], mth, ast⟩

theorem ck_spec_PlainDocument : CxOK Tryd.prog (cx_spec_PlainDocument) := cx_ok tb_ok if_ok (.cons ok_spec_Right Tryd.call12 (.cons ok_spec_plainAttrs Tryd.call13 (.cons ok_spec_PlainKids Tryd.call14 .nil)))

noncomputable def e_spec_PlainDocument : Ent := ⟨0, p_spec_PlainDocument, q_spec_PlainDocument, m_spec_PlainDocument⟩
theorem ok_spec_PlainDocument : FnOK Tryd.prog 6 e_spec_PlainDocument := fn_ok (L := lookL []) ck_spec_PlainDocument mixed Tryd.func6 rfl (by kernel_rfl) (by kernel_rfl) (ls_ok (l := []) (by kernel_rfl) .nil) (by intro x; kernel_rfl)

/-! spec.Escaped -/
abbrev p_spec_Escaped : Pt := [(0, .str)]
abbrev q_spec_Escaped : Pt := [(0, .str)]

abbrev p_spec_Escaped_0 : Pt := [(0, .str), (3, .str), (4, .int .i64)]
abbrev x_spec_Escaped_0 : List (Xt × Pt) := [(.ex 0, [(3, .str)])]
noncomputable def m_spec_Escaped_0 : Tup p_spec_Escaped_0 → Option (Stp (Tup p_spec_Escaped_0) (SumT (x_spec_Escaped_0.map (·.2)))) := fun (x : List UInt8 × List UInt8 × Int) => bif decide (x.2.2 < (↑(List.length x.1) : Int)) then Option.bind (atI x.1 x.2.2) fun (c : UInt8) => bif decide ((↑(UInt8.toNat c) : Int) = (38 : Int)) then Option.bind (catS x.2.1 [(38 : UInt8), (97 : UInt8), (109 : UInt8), (112 : UInt8), (59 : UInt8)]) fun (r : List UInt8) => some (Stp.nx (x.1, r, IntKind.wrap .i64 (x.2.2 + (1 : Int)))) else bif decide ((↑(UInt8.toNat c) : Int) = (60 : Int)) then Option.bind (catS x.2.1 [(38 : UInt8), (108 : UInt8), (116 : UInt8), (59 : UInt8)]) fun (r : List UInt8) => some (Stp.nx (x.1, r, IntKind.wrap .i64 (x.2.2 + (1 : Int)))) else bif decide ((↑(UInt8.toNat c) : Int) = (62 : Int)) then Option.bind (catS x.2.1 [(38 : UInt8), (103 : UInt8), (116 : UInt8), (59 : UInt8)]) fun (r : List UInt8) => some (Stp.nx (x.1, r, IntKind.wrap .i64 (x.2.2 + (1 : Int)))) else bif decide ((↑(UInt8.toNat c) : Int) = (34 : Int)) then Option.bind (catS x.2.1 [(38 : UInt8), (35 : UInt8), (51 : UInt8), (52 : UInt8), (59 : UInt8)]) fun (r : List UInt8) => some (Stp.nx (x.1, r, IntKind.wrap .i64 (x.2.2 + (1 : Int)))) else bif decide ((↑(UInt8.toNat c) : Int) = (39 : Int)) then Option.bind (catS x.2.1 [(38 : UInt8), (35 : UInt8), (51 : UInt8), (57 : UInt8), (59 : UInt8)]) fun (r : List UInt8) => some (Stp.nx (x.1, r, IntKind.wrap .i64 (x.2.2 + (1 : Int)))) else Option.bind (subL x.1 x.2.2 (IntKind.wrap .i64 (x.2.2 + (1 : Int)))) fun (m : List UInt8) => Option.bind (catS x.2.1 m) fun (r : List UInt8) => some (Stp.nx (x.1, r, IntKind.wrap .i64 (x.2.2 + (1 : Int)))) else some (Stp.out x.2.1)

noncomputable def m_spec_Escaped : Tup p_spec_Escaped → Option (Tup q_spec_Escaped) := fun (x : List UInt8) => Option.bind (loopO m_spec_Escaped_0 (x, [], (0 : Int))) fun (y : List UInt8) => some y

noncomputable def cx_spec_Escaped : Cx := ⟨tb, lookE [], lookS [], mth, ast⟩

theorem ck_spec_Escaped : CxOK Tryd.prog (cx_spec_Escaped) := cx_ok tb_ok if_ok .nil

noncomputable def c_spec_Escaped_0 : Code := loopAt (Go.Proofs.Tryd.f17.body.getD .skip) 0

noncomputable def l_spec_Escaped_0 : LEnt := ⟨p_spec_Escaped_0, x_spec_Escaped_0, loopO (m_spec_Escaped_0)⟩

theorem lo_spec_Escaped_0 : LOK Tryd.prog 42 0 false (l_spec_Escaped_0) c_spec_Escaped_0 := loop_ok (body := m_spec_Escaped_0) (L := lookL []) (ck_spec_Escaped) mixed (ls_ok (l := []) (by kernel_rfl) .nil) (by intro x; kernel_rfl) (fun x y h => loopO_iff.1 h)

noncomputable def e_spec_Escaped : Ent := ⟨0, p_spec_Escaped, q_spec_Escaped, m_spec_Escaped⟩
theorem ok_spec_Escaped : FnOK Tryd.prog 17 e_spec_Escaped := fn_ok (L := lookL [(0, l_spec_Escaped_0)]) ck_spec_Escaped mixed Tryd.func17 rfl (by kernel_rfl) (by kernel_rfl) (ls_ok (l := [(0, c_spec_Escaped_0)]) (by kernel_rfl) (.cons rfl (lo_spec_Escaped_0) .nil)) (by intro x; kernel_rfl)

/-! spec.Opening -/
abbrev p_spec_Opening : Pt := [(0, .el .node)]
abbrev q_spec_Opening : Pt := [(0, .str)]

abbrev p_spec_Opening_0 : Pt := [(1, .blk .node 33), (3, .str), (4, .int .i64)]
abbrev x_spec_Opening_0 : List (Xt × Pt) := [(.ex 0, [(3, .str)])]
noncomputable def m_spec_Opening_0 : Tup p_spec_Opening_0 → Option (Stp (Tup p_spec_Opening_0) (SumT (x_spec_Opening_0.map (·.2)))) := fun (x : Node × List UInt8 × Int) => bif decide (x.2.2 < (↑(List.length (Node.attrs x.1)) : Int)) then Option.bind (atI (Node.attrs x.1) x.2.2) fun (v : Attr) => Option.bind (catS [(32 : UInt8)] (Attr.key v)) fun (r : List UInt8) => Option.bind (catS r [(61 : UInt8), (34 : UInt8)]) fun (r : List UInt8) => Option.bind (atI (Node.attrs x.1) x.2.2) fun (v : Attr) => Option.bind (m_spec_Escaped (Attr.val v)) fun (r_1 : List UInt8) => Option.bind (catS r r_1) fun (r : List UInt8) => Option.bind (catS r [(34 : UInt8)]) fun (r : List UInt8) => Option.bind (catS x.2.1 r) fun (r : List UInt8) => some (Stp.nx ({ kind := Node.kind x.1, tag := Node.tag x.1, text := Node.text x.1, attrs := Node.attrs x.1, size := Node.size x.1 }, r, IntKind.wrap .i64 (x.2.2 + (1 : Int)))) else some (Stp.out x.2.1)

noncomputable def m_spec_Opening : Tup p_spec_Opening → Option (Tup q_spec_Opening) := fun (x : Node) => Option.bind (catS [(60 : UInt8)] (Node.tag x)) fun (r : List UInt8) => Option.bind (loopO m_spec_Opening_0 ({ kind := Node.kind x, tag := Node.tag x, text := Node.text x, attrs := Node.attrs x, size := Node.size x }, r, (0 : Int))) fun (y : List UInt8) => Option.bind (catS y [(62 : UInt8)]) fun (r : List UInt8) => some r

noncomputable def cx_spec_Opening : Cx := ⟨tb, lookE [(17, e_spec_Escaped)], lookS [(5, [(true, 0), (true, 1), (true, 2), (true, 3), (true, 4), (true, 5), (true, 6), (true, 7), (true, 8), (true, 9), (true, 10), (true, 11), (true, 12), (true, 13), (true, 14), (false, 15), (true, 16), (true, 17), (true, 18), (true, 19)])], mth, ast⟩

theorem ck_spec_Opening : CxOK Tryd.prog (cx_spec_Opening) := cx_ok tb_ok if_ok (.cons ok_spec_Escaped Tryd.call17 .nil)

noncomputable def c_spec_Opening_0 : Code := loopAt (Go.Proofs.Tryd.f18.body.getD .skip) 0

noncomputable def l_spec_Opening_0 : LEnt := ⟨p_spec_Opening_0, x_spec_Opening_0, loopO (m_spec_Opening_0)⟩

theorem lo_spec_Opening_0 : LOK Tryd.prog 36 0 false (l_spec_Opening_0) c_spec_Opening_0 := loop_ok (body := m_spec_Opening_0) (L := lookL []) (ck_spec_Opening) mixed (ls_ok (l := []) (by kernel_rfl) .nil) (by intro x; kernel_rfl) (fun x y h => loopO_iff.1 h)

noncomputable def e_spec_Opening : Ent := ⟨0, p_spec_Opening, q_spec_Opening, m_spec_Opening⟩
theorem ok_spec_Opening : FnOK Tryd.prog 18 e_spec_Opening := fn_ok (L := lookL [(0, l_spec_Opening_0)]) ck_spec_Opening mixed Tryd.func18 rfl (by kernel_rfl) (by kernel_rfl) (ls_ok (l := [(0, c_spec_Opening_0)]) (by kernel_rfl) (.cons rfl (lo_spec_Opening_0) .nil)) (by intro x; kernel_rfl)

/-! spec.Rendered -/
abbrev p_spec_Rendered : Pt := [(0, .lst .node), (1, .int .i64)]
abbrev q_spec_Rendered : Pt := [(0, .str)]

abbrev p_spec_Rendered_0 : Pt := [(0, .lst .node), (1, .int .i64), (5, .blk .node 33), (6, .str), (7, .int .i64)]
abbrev x_spec_Rendered_0 : List (Xt × Pt) := [(.ex 1, [(5, .blk .node 33), (6, .str)])]
noncomputable def m_spec_Rendered_0 (m_spec_Rendered : Tup p_spec_Rendered → Option (Tup q_spec_Rendered)) : Tup p_spec_Rendered_0 → Option (Stp (Tup p_spec_Rendered_0) (SumT (x_spec_Rendered_0.map (·.2)))) := fun (x : List Node × Int × Node × List UInt8 × Int) => bif decide (x.2.2.2.2 < IntKind.wrap .i64 (x.2.1 + Node.size x.2.2.1)) then Option.bind (m_spec_Rendered (x.1, x.2.2.2.2)) fun (r : List UInt8) => Option.bind (catS x.2.2.2.1 r) fun (r : List UInt8) => Option.bind (atI x.1 x.2.2.2.2) fun (v : Node) => some (Stp.nx (x.1, x.2.1, { kind := Node.kind x.2.2.1, tag := Node.tag x.2.2.1, text := Node.text x.2.2.1, attrs := Node.attrs x.2.2.1, size := Node.size x.2.2.1 }, r, IntKind.wrap .i64 (x.2.2.2.2 + Node.size v))) else some (Stp.out ({ kind := Node.kind x.2.2.1, tag := Node.tag x.2.2.1, text := Node.text x.2.2.1, attrs := Node.attrs x.2.2.1, size := Node.size x.2.2.1 }, x.2.2.2.1))

noncomputable def b_spec_Rendered (m_spec_Rendered : Tup p_spec_Rendered → Option (Tup q_spec_Rendered)) : Tup p_spec_Rendered → Option (Tup q_spec_Rendered) := fun (x : List Node × Int) => Option.bind (atI x.1 x.2) fun (v : Node) => bif decide (Node.kind v = (4 : Int)) then Option.bind (m_spec_Escaped (Node.text v)) fun (r : List UInt8) => some r else bif decide (Node.kind v = (5 : Int)) then Option.bind (catS [(60 : UInt8), (33 : UInt8), (45 : UInt8), (45 : UInt8)] (Node.text v)) fun (r : List UInt8) => Option.bind (catS r [(45 : UInt8), (45 : UInt8), (62 : UInt8)]) fun (r : List UInt8) => some r else Option.bind (loopO (m_spec_Rendered_0 m_spec_Rendered) (x.1, x.2, { kind := Node.kind v, tag := Node.tag v, text := Node.text v, attrs := Node.attrs v, size := Node.size v }, [], IntKind.wrap .i64 (x.2 + (1 : Int)))) fun (y : Node × List UInt8) => Option.bind (m_spec_Opening { kind := Node.kind y.1, tag := Node.tag y.1, text := Node.text y.1, attrs := Node.attrs y.1, size := Node.size y.1 }) fun (r : List UInt8) => Option.bind (catS r y.2) fun (r : List UInt8) => Option.bind (catS r [(60 : UInt8), (47 : UInt8)]) fun (r : List UInt8) => Option.bind (catS r (Node.tag y.1)) fun (r : List UInt8) => Option.bind (catS r [(62 : UInt8)]) fun (r : List UInt8) => some r

noncomputable def m_spec_Rendered : Nat → Tup p_spec_Rendered → Option (Tup q_spec_Rendered)
  | 0 => fun _ => none
  | n + 1 => b_spec_Rendered (m_spec_Rendered n)

noncomputable def cx_spec_Rendered (n : Nat) : Cx := ⟨tb, lookE [(17, e_spec_Escaped), (9, ⟨0, p_spec_Rendered, q_spec_Rendered, m_spec_Rendered n⟩), (18, e_spec_Opening)], lookS [(12, [(true, 0), (true, 2), (true, 5), (true, 6), (false, 1), (true, 3), (true, 4), (true, 7), (true, 8), (true, 9)])], mth, ast⟩

theorem ck_spec_Rendered (n : Nat) (ih0 : FnOK Tryd.prog 9 ⟨0, p_spec_Rendered, q_spec_Rendered, m_spec_Rendered n⟩) : CxOK Tryd.prog (cx_spec_Rendered n) := cx_ok tb_ok if_ok (.cons ok_spec_Escaped Tryd.call17 (.cons ih0 Tryd.call9 (.cons ok_spec_Opening Tryd.call18 .nil)))

noncomputable def c_spec_Rendered_0 : Code := loopAt (Go.Proofs.Tryd.f9.body.getD .skip) 0

noncomputable def l_spec_Rendered_0 (n : Nat) : LEnt := ⟨p_spec_Rendered_0, x_spec_Rendered_0, loopO (m_spec_Rendered_0 (m_spec_Rendered n))⟩

theorem lo_spec_Rendered_0 (n : Nat) (ih0 : FnOK Tryd.prog 9 ⟨0, p_spec_Rendered, q_spec_Rendered, m_spec_Rendered n⟩) : LOK Tryd.prog 54 0 false (l_spec_Rendered_0 n) c_spec_Rendered_0 := loop_ok (body := m_spec_Rendered_0 (m_spec_Rendered n)) (L := lookL []) (ck_spec_Rendered n ih0) mixed (ls_ok (l := []) (by kernel_rfl) .nil) (by intro x; kernel_rfl) (fun x y h => loopO_iff.1 h)

theorem st_spec_Rendered (n : Nat) (ih0 : FnOK Tryd.prog 9 ⟨0, p_spec_Rendered, q_spec_Rendered, m_spec_Rendered n⟩) : FnOK Tryd.prog 9 ⟨0, p_spec_Rendered, q_spec_Rendered, m_spec_Rendered (n + 1)⟩ := fn_ok (ent := ⟨0, p_spec_Rendered, q_spec_Rendered, m_spec_Rendered (n + 1)⟩) (L := lookL [(1, l_spec_Rendered_0 n)]) (ck_spec_Rendered n ih0) mixed Tryd.func9 rfl (by kernel_rfl) (by kernel_rfl) (ls_ok (l := [(1, c_spec_Rendered_0)]) (by kernel_rfl) (.cons rfl (lo_spec_Rendered_0 n ih0) .nil)) (by intro x; kernel_rfl)

theorem ok0_spec_Rendered : ∀ n, FnOK Tryd.prog 9 ⟨0, p_spec_Rendered, q_spec_Rendered, m_spec_Rendered n⟩
  | 0 => fun x r h => by cases h
  | n + 1 => (fun ih => st_spec_Rendered n ih) (ok0_spec_Rendered n)

noncomputable def e_spec_Rendered : Ent := ⟨0, p_spec_Rendered, q_spec_Rendered, m_spec_Rendered big⟩
theorem ok_spec_Rendered : FnOK Tryd.prog 9 e_spec_Rendered := (ok0_spec_Rendered big)

end Go.Proofs.YtpedmnlpccngiaaDoor.V
