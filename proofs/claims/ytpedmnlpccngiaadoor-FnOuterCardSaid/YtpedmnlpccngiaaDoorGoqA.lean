/-
  Models of functions, and that they are what the code does (written by a program).
-/
import Derived.Test.YtpedmnlpccngiaaDoorKTab
import Derived.Test.YtpedmnlpccngiaaDoorSpecA
import Derived.Test.YtpedmnlpccngiaaDoorImplA
set_option linter.unusedVariables false
set_option linter.unusedSimpArgs false
namespace Go.Proofs.YtpedmnlpccngiaaDoor.V
open Go Go.Proofs

/-! goquery.newSingleSelection -/
abbrev p_goquery_newSingleSelection : Pt := [(0, .np), (1, .any)]
abbrev q_goquery_newSingleSelection : Pt := [(0, .fp (.rc .nps [] 2))]

noncomputable def m_goquery_newSingleSelection : Tup p_goquery_newSingleSelection → Option (Tup q_goquery_newSingleSelection) := fun (x : Option Nat × PUnit) => some [x.1]

noncomputable def cx_goquery_newSingleSelection : Cx := ⟨tb, lookE [], lookS [], mth, ast⟩

theorem ck_goquery_newSingleSelection : CxOK Tryd.prog (cx_goquery_newSingleSelection) := cx_ok tb_ok if_ok .nil

noncomputable def e_goquery_newSingleSelection : Ent := ⟨0, p_goquery_newSingleSelection, q_goquery_newSingleSelection, m_goquery_newSingleSelection⟩
theorem ok_goquery_newSingleSelection : FnOK Tryd.prog 58 e_goquery_newSingleSelection := fn_ok (L := lookL []) ck_goquery_newSingleSelection mixed Tryd.func58 rfl (by kernel_rfl) (by kernel_rfl) (ls_ok (l := []) (by kernel_rfl) .nil) (by intro x; kernel_rfl)

/-! goquery.newDocument -/
abbrev p_goquery_newDocument : Pt := [(0, .np)]
abbrev q_goquery_newDocument : Pt := [(0, .fp (.rc .fsel [.np] 0))]

noncomputable def m_goquery_newDocument : Tup p_goquery_newDocument → Option (Tup q_goquery_newDocument) := fun (x : Option Nat) => Option.bind (m_goquery_newSingleSelection (x, ())) fun (r : List (Option Nat)) => some (r, x)

noncomputable def cx_goquery_newDocument : Cx := ⟨tb, lookE [(58, e_goquery_newSingleSelection)], lookS [], mth, ast⟩

theorem ck_goquery_newDocument : CxOK Tryd.prog (cx_goquery_newDocument) := cx_ok tb_ok if_ok (.cons ok_goquery_newSingleSelection Tryd.call58 .nil)

noncomputable def e_goquery_newDocument : Ent := ⟨0, p_goquery_newDocument, q_goquery_newDocument, m_goquery_newDocument⟩
theorem ok_goquery_newDocument : FnOK Tryd.prog 51 e_goquery_newDocument := fn_ok (L := lookL []) ck_goquery_newDocument mixed Tryd.func51 rfl (by kernel_rfl) (by kernel_rfl) (ls_ok (l := []) (by kernel_rfl) .nil) (by intro x; kernel_rfl)

/-! goquery.NewDocumentFromNode -/
abbrev p_goquery_NewDocumentFromNode : Pt := [(0, .np)]
abbrev q_goquery_NewDocumentFromNode : Pt := [(0, .fp (.rc .fsel [.np] 0))]

noncomputable def m_goquery_NewDocumentFromNode : Tup p_goquery_NewDocumentFromNode → Option (Tup q_goquery_NewDocumentFromNode) := fun (x : Option Nat) => Option.bind (m_goquery_newDocument x) fun (r : List (Option Nat) × Option Nat) => some (r.1, r.2)

noncomputable def cx_goquery_NewDocumentFromNode : Cx := ⟨tb, lookE [(51, e_goquery_newDocument)], lookS [], mth, ast⟩

theorem ck_goquery_NewDocumentFromNode : CxOK Tryd.prog (cx_goquery_NewDocumentFromNode) := cx_ok tb_ok if_ok (.cons ok_goquery_newDocument Tryd.call51 .nil)

noncomputable def e_goquery_NewDocumentFromNode : Ent := ⟨0, p_goquery_NewDocumentFromNode, q_goquery_NewDocumentFromNode, m_goquery_NewDocumentFromNode⟩
theorem ok_goquery_NewDocumentFromNode : FnOK Tryd.prog 39 e_goquery_NewDocumentFromNode := fn_ok (L := lookL []) ck_goquery_NewDocumentFromNode mixed Tryd.func39 rfl (by kernel_rfl) (by kernel_rfl) (ls_ok (l := []) (by kernel_rfl) .nil) (by intro x; kernel_rfl)

/-! goquery.newEmptySelection -/
abbrev p_goquery_newEmptySelection : Pt := [(0, .any)]
abbrev q_goquery_newEmptySelection : Pt := [(0, .fp (.rc .nil [] 2))]

noncomputable def m_goquery_newEmptySelection : Tup p_goquery_newEmptySelection → Option (Tup q_goquery_newEmptySelection) := fun (x : PUnit) => some ()

noncomputable def cx_goquery_newEmptySelection : Cx := ⟨tb, lookE [], lookS [], mth, ast⟩

theorem ck_goquery_newEmptySelection : CxOK Tryd.prog (cx_goquery_newEmptySelection) := cx_ok tb_ok if_ok .nil

noncomputable def e_goquery_newEmptySelection : Ent := ⟨0, p_goquery_newEmptySelection, q_goquery_newEmptySelection, m_goquery_newEmptySelection⟩
theorem ok_goquery_newEmptySelection : FnOK Tryd.prog 52 e_goquery_newEmptySelection := fn_ok (L := lookL []) ck_goquery_newEmptySelection mixed Tryd.func52 rfl (by kernel_rfl) (by kernel_rfl) (ls_ok (l := []) (by kernel_rfl) .nil) (by intro x; kernel_rfl)

/-! goquery.pushStack -/
abbrev p_goquery_pushStack : Pt := [(0, .fp (.rc .nps [] 2)), (1, .lst .np)]
abbrev q_goquery_pushStack : Pt := [(0, .fp (.rc .nps [] 2))]

noncomputable def m_goquery_pushStack : Tup p_goquery_pushStack → Option (Tup q_goquery_pushStack) := fun (x : List (Option Nat) × List (Option Nat)) => some x.2

noncomputable def cx_goquery_pushStack : Cx := ⟨tb, lookE [], lookS [], mth, ast⟩

theorem ck_goquery_pushStack : CxOK Tryd.prog (cx_goquery_pushStack) := cx_ok tb_ok if_ok .nil

noncomputable def e_goquery_pushStack : Ent := ⟨0, p_goquery_pushStack, q_goquery_pushStack, m_goquery_pushStack⟩
theorem ok_goquery_pushStack : FnOK Tryd.prog 54 e_goquery_pushStack := fn_ok (L := lookL []) ck_goquery_pushStack mixed Tryd.func54 rfl (by kernel_rfl) (by kernel_rfl) (ls_ok (l := []) (by kernel_rfl) .nil) (by intro x; kernel_rfl)

/-! (*goquery.Selection).Slice -/
abbrev p_goquery_Selection_Slice : Pt := [(0, .fp (.rc .nps [] 2)), (1, .int .i64), (2, .int .i64)]
abbrev q_goquery_Selection_Slice : Pt := [(0, .fp (.rc .nps [] 2))]

noncomputable def m_goquery_Selection_Slice : Tup p_goquery_Selection_Slice → Option (Tup q_goquery_Selection_Slice) := fun (x : List (Option Nat) × Int × Int) => bif decide (x.2.1 < (0 : Int)) then bif decide (x.2.2 = (9223372036854775807 : Int)) then Option.bind (subL x.1 (IntKind.wrap .i64 (x.2.1 + (↑(List.length x.1) : Int))) (↑(List.length x.1) : Int)) fun (m : List (Option Nat)) => Option.bind (m_goquery_pushStack (x.1, m)) fun (r : List (Option Nat)) => some r else bif decide (x.2.2 < (0 : Int)) then Option.bind (subL x.1 (IntKind.wrap .i64 (x.2.1 + (↑(List.length x.1) : Int))) (IntKind.wrap .i64 (x.2.2 + (↑(List.length x.1) : Int)))) fun (m : List (Option Nat)) => Option.bind (m_goquery_pushStack (x.1, m)) fun (r : List (Option Nat)) => some r else Option.bind (subL x.1 (IntKind.wrap .i64 (x.2.1 + (↑(List.length x.1) : Int))) x.2.2) fun (m : List (Option Nat)) => Option.bind (m_goquery_pushStack (x.1, m)) fun (r : List (Option Nat)) => some r else bif decide (x.2.2 = (9223372036854775807 : Int)) then Option.bind (subL x.1 x.2.1 (↑(List.length x.1) : Int)) fun (m : List (Option Nat)) => Option.bind (m_goquery_pushStack (x.1, m)) fun (r : List (Option Nat)) => some r else bif decide (x.2.2 < (0 : Int)) then Option.bind (subL x.1 x.2.1 (IntKind.wrap .i64 (x.2.2 + (↑(List.length x.1) : Int)))) fun (m : List (Option Nat)) => Option.bind (m_goquery_pushStack (x.1, m)) fun (r : List (Option Nat)) => some r else Option.bind (subL x.1 x.2.1 x.2.2) fun (m : List (Option Nat)) => Option.bind (m_goquery_pushStack (x.1, m)) fun (r : List (Option Nat)) => some r

noncomputable def cx_goquery_Selection_Slice : Cx := ⟨tb, lookE [(54, e_goquery_pushStack)], lookS [], mth, ast⟩

theorem ck_goquery_Selection_Slice : CxOK Tryd.prog (cx_goquery_Selection_Slice) := cx_ok tb_ok if_ok (.cons ok_goquery_pushStack Tryd.call54 .nil)

noncomputable def e_goquery_Selection_Slice : Ent := ⟨0, p_goquery_Selection_Slice, q_goquery_Selection_Slice, m_goquery_Selection_Slice⟩
theorem ok_goquery_Selection_Slice : FnOK Tryd.prog 53 e_goquery_Selection_Slice := fn_ok (L := lookL []) ck_goquery_Selection_Slice mixed Tryd.func53 rfl (by kernel_rfl) (by kernel_rfl) (ls_ok (l := []) (by kernel_rfl) .nil) (by intro x; kernel_rfl)

/-! (*goquery.Selection).Eq@nil -/
abbrev p_goquery_Selection_Eq_nil : Pt := [(0, .fp (.rc .nps [] 2)), (1, .int .i64)]
abbrev q_goquery_Selection_Eq_nil : Pt := [(0, .fp (.rc .nil [] 2))]

noncomputable def m_goquery_Selection_Eq_nil : Tup p_goquery_Selection_Eq_nil → Option (Tup q_goquery_Selection_Eq_nil) := fun (x : List (Option Nat) × Int) => bif decide (x.2 < (0 : Int)) then bif decide ((↑(List.length x.1) : Int) ≤ IntKind.wrap .i64 (x.2 + (↑(List.length x.1) : Int))) then Option.bind (m_goquery_newEmptySelection ()) fun (r : PUnit) => some () else bif decide (IntKind.wrap .i64 (x.2 + (↑(List.length x.1) : Int)) < (0 : Int)) then Option.bind (m_goquery_newEmptySelection ()) fun (r : PUnit) => some () else Option.bind (m_goquery_Selection_Slice (x.1, IntKind.wrap .i64 (x.2 + (↑(List.length x.1) : Int)), IntKind.wrap .i64 (IntKind.wrap .i64 (x.2 + (↑(List.length x.1) : Int)) + (1 : Int)))) fun (r : List (Option Nat)) => none else bif decide ((↑(List.length x.1) : Int) ≤ x.2) then Option.bind (m_goquery_newEmptySelection ()) fun (r : PUnit) => some () else bif decide (x.2 < (0 : Int)) then Option.bind (m_goquery_newEmptySelection ()) fun (r : PUnit) => some () else Option.bind (m_goquery_Selection_Slice (x.1, x.2, IntKind.wrap .i64 (x.2 + (1 : Int)))) fun (r : List (Option Nat)) => none

noncomputable def cx_goquery_Selection_Eq_nil : Cx := ⟨tb, lookE [(52, e_goquery_newEmptySelection), (53, e_goquery_Selection_Slice)], lookS [], mth, ast⟩

theorem ck_goquery_Selection_Eq_nil : CxOK Tryd.prog (cx_goquery_Selection_Eq_nil) := cx_ok tb_ok if_ok (.cons ok_goquery_newEmptySelection Tryd.call52 (.cons ok_goquery_Selection_Slice Tryd.call53 .nil))

noncomputable def e_goquery_Selection_Eq_nil : Ent := ⟨0, p_goquery_Selection_Eq_nil, q_goquery_Selection_Eq_nil, m_goquery_Selection_Eq_nil⟩
theorem ok_goquery_Selection_Eq_nil : FnOK Tryd.prog 40 e_goquery_Selection_Eq_nil := fn_ok (L := lookL []) ck_goquery_Selection_Eq_nil mixed Tryd.func40 rfl (by kernel_rfl) (by kernel_rfl) (ls_ok (l := []) (by kernel_rfl) .nil) (by intro x; kernel_rfl)

/-! goquery.indexInSlice -/
abbrev p_goquery_indexInSlice : Pt := [(0, .lst .np), (1, .np)]
abbrev q_goquery_indexInSlice : Pt := [(0, .int .i64)]

abbrev p_goquery_indexInSlice_0 : Pt := [(1, .np), (9, .lst .np), (10, .int .i64), (11, .int .i64)]
abbrev x_goquery_indexInSlice_0 : List (Xt × Pt) := [(.ex 0, []), (.rt, [(4, .int .i64)])]
noncomputable def m_goquery_indexInSlice_0 : Tup p_goquery_indexInSlice_0 → Option (Stp (Tup p_goquery_indexInSlice_0) (SumT (x_goquery_indexInSlice_0.map (·.2)))) := fun (x : Option Nat × List (Option Nat) × Int × Int) => bif decide (x.2.2.2 < x.2.2.1) then Option.bind (atI x.2.1 x.2.2.2) fun (v : Option Nat) => bif decide (v = x.1) then some (Stp.out (Sum.inr x.2.2.2)) else some (Stp.nx (x.1, x.2.1, x.2.2.1, IntKind.wrap .i64 (x.2.2.2 + (1 : Int)))) else some (Stp.out (Sum.inl ()))

noncomputable def m_goquery_indexInSlice : Tup p_goquery_indexInSlice → Option (Tup q_goquery_indexInSlice) := fun (x : List (Option Nat) × Option Nat) => bif !Option.isNone x.2 then Option.bind (loopO m_goquery_indexInSlice_0 (x.2, x.1, (↑(List.length x.1) : Int), (0 : Int))) fun (y : PUnit ⊕ Int) => selim (fun (y : PUnit) => some (-1 : Int)) (fun (y : Int) => some y) y else some (-1 : Int)

noncomputable def cx_goquery_indexInSlice : Cx := ⟨tb, lookE [], lookS [], mth, ast⟩

theorem ck_goquery_indexInSlice : CxOK Tryd.prog (cx_goquery_indexInSlice) := cx_ok tb_ok if_ok .nil

noncomputable def c_goquery_indexInSlice_0 : Code := loopAt (Go.Proofs.Tryd.f61.body.getD .skip) 0

noncomputable def l_goquery_indexInSlice_0 : LEnt := ⟨p_goquery_indexInSlice_0, x_goquery_indexInSlice_0, loopO (m_goquery_indexInSlice_0)⟩

theorem lo_goquery_indexInSlice_0 : LOK Tryd.prog 21 0 false (l_goquery_indexInSlice_0) c_goquery_indexInSlice_0 := loop_ok (body := m_goquery_indexInSlice_0) (L := lookL []) (ck_goquery_indexInSlice) mixed (ls_ok (l := []) (by kernel_rfl) .nil) (by intro x; kernel_rfl) (fun x y h => loopO_iff.1 h)

noncomputable def e_goquery_indexInSlice : Ent := ⟨0, p_goquery_indexInSlice, q_goquery_indexInSlice, m_goquery_indexInSlice⟩
theorem ok_goquery_indexInSlice : FnOK Tryd.prog 61 e_goquery_indexInSlice := fn_ok (L := lookL [(0, l_goquery_indexInSlice_0)]) ck_goquery_indexInSlice mixed Tryd.func61 rfl (by kernel_rfl) (by kernel_rfl) (ls_ok (l := [(0, c_goquery_indexInSlice_0)]) (by kernel_rfl) (.cons rfl (lo_goquery_indexInSlice_0) .nil)) (by intro x; kernel_rfl)

/-! goquery.isInSlice -/
abbrev p_goquery_isInSlice : Pt := [(0, .lst .np), (1, .np)]
abbrev q_goquery_isInSlice : Pt := [(0, .bool)]

noncomputable def m_goquery_isInSlice : Tup p_goquery_isInSlice → Option (Tup q_goquery_isInSlice) := fun (x : List (Option Nat) × Option Nat) => Option.bind (m_goquery_indexInSlice (x.1, x.2)) fun (r : Int) => some (decide ((-1 : Int) < r))

noncomputable def cx_goquery_isInSlice : Cx := ⟨tb, lookE [(61, e_goquery_indexInSlice)], lookS [], mth, ast⟩

theorem ck_goquery_isInSlice : CxOK Tryd.prog (cx_goquery_isInSlice) := cx_ok tb_ok if_ok (.cons ok_goquery_indexInSlice Tryd.call61 .nil)

noncomputable def e_goquery_isInSlice : Ent := ⟨0, p_goquery_isInSlice, q_goquery_isInSlice, m_goquery_isInSlice⟩
theorem ok_goquery_isInSlice : FnOK Tryd.prog 59 e_goquery_isInSlice := fn_ok (L := lookL []) ck_goquery_isInSlice mixed Tryd.func59 rfl (by kernel_rfl) (by kernel_rfl) (ls_ok (l := []) (by kernel_rfl) .nil) (by intro x; kernel_rfl)

/-! goquery.appendWithoutDuplicates@small -/
abbrev p_goquery_appendWithoutDuplicates_small : Pt := [(0, .own .np 65), (1, .lst .np), (2, .mnil)]
abbrev q_goquery_appendWithoutDuplicates_small : Pt := [(0, .own .np 65)]

abbrev p_goquery_appendWithoutDuplicates_small_0 : Pt := [(0, .own .np 65), (23, .lst .np), (24, .int .i64), (25, .int .i64)]
abbrev x_goquery_appendWithoutDuplicates_small_0 : List (Xt × Pt) := [(.ex 0, [(0, .own .np 65)])]
noncomputable def m_goquery_appendWithoutDuplicates_small_0 : Tup p_goquery_appendWithoutDuplicates_small_0 → Option (Stp (Tup p_goquery_appendWithoutDuplicates_small_0) (SumT (x_goquery_appendWithoutDuplicates_small_0.map (·.2)))) := fun (x : List (Option Nat) × List (Option Nat) × Int × Int) => bif decide (x.2.2.2 < x.2.2.1) then Option.bind (atI x.2.1 x.2.2.2) fun (v : Option Nat) => Option.bind (m_goquery_isInSlice (x.1, v)) fun (r : Bool) => bif !r then Option.bind (appL x.1 [v]) fun (r : List (Option Nat)) => some (Stp.nx (r, x.2.1, x.2.2.1, IntKind.wrap .i64 (x.2.2.2 + (1 : Int)))) else some (Stp.nx (x.1, x.2.1, x.2.2.1, IntKind.wrap .i64 (x.2.2.2 + (1 : Int)))) else some (Stp.out x.1)

abbrev p_goquery_appendWithoutDuplicates_small_1 : Pt := [(0, .own .np 65), (1, .lst .np), (2, .mnil), (47, .al 0), (48, .int .i64), (49, .int .i64)]
abbrev x_goquery_appendWithoutDuplicates_small_1 : List (Xt × Pt) := [(.ex 2, [(0, .own .np 65), (1, .lst .np), (2, .mnil)])]
noncomputable def m_goquery_appendWithoutDuplicates_small_1 : Tup p_goquery_appendWithoutDuplicates_small_1 → Option (Stp (Tup p_goquery_appendWithoutDuplicates_small_1) (SumT (x_goquery_appendWithoutDuplicates_small_1.map (·.2)))) := fun (x : List (Option Nat) × List (Option Nat) × PUnit × PUnit × Int × Int) => bif decide (x.2.2.2.2.2 < x.2.2.2.2.1) then Option.bind (atI x.1 x.2.2.2.2.2) fun (x_1 : Option Nat) => Option.bind x.1[Int.toNat x.2.2.2.2.2]? fun (v : Option Nat) => none else some (Stp.out (x.1, x.2.1, ()))

abbrev p_goquery_appendWithoutDuplicates_small_2 : Pt := [(0, .own .np 65), (2, .mnil), (56, .lst .np), (57, .int .i64), (58, .int .i64)]
abbrev x_goquery_appendWithoutDuplicates_small_2 : List (Xt × Pt) := [(.ex 4, [(0, .own .np 65)])]
noncomputable def m_goquery_appendWithoutDuplicates_small_2 : Tup p_goquery_appendWithoutDuplicates_small_2 → Option (Stp (Tup p_goquery_appendWithoutDuplicates_small_2) (SumT (x_goquery_appendWithoutDuplicates_small_2.map (·.2)))) := fun (x : List (Option Nat) × PUnit × List (Option Nat) × Int × Int) => bif decide (x.2.2.2.2 < x.2.2.2.1) then Option.bind (atI x.2.2.1 x.2.2.2.2) fun (v : Option Nat) => Option.bind (appL x.1 [v]) fun (r : List (Option Nat)) => none else some (Stp.out x.1)

noncomputable def m_goquery_appendWithoutDuplicates_small : Tup p_goquery_appendWithoutDuplicates_small → Option (Tup q_goquery_appendWithoutDuplicates_small) := fun (x : List (Option Nat) × List (Option Nat) × PUnit) => bif decide (IntKind.wrap .i64 ((↑(List.length x.1) : Int) + (↑(List.length x.2.1) : Int)) < (1000 : Int)) then Option.bind (loopO m_goquery_appendWithoutDuplicates_small_0 (x.1, x.2.1, (↑(List.length x.2.1) : Int), (0 : Int))) fun (y : List (Option Nat)) => some y else none

noncomputable def cx_goquery_appendWithoutDuplicates_small : Cx := ⟨tb, lookE [(59, e_goquery_isInSlice)], lookS [], mth, ast⟩

theorem ck_goquery_appendWithoutDuplicates_small : CxOK Tryd.prog (cx_goquery_appendWithoutDuplicates_small) := cx_ok tb_ok if_ok (.cons ok_goquery_isInSlice Tryd.call59 .nil)

noncomputable def c_goquery_appendWithoutDuplicates_small_0 : Code := loopAt (Go.Proofs.Tryd.f55.body.getD .skip) 0

noncomputable def l_goquery_appendWithoutDuplicates_small_0 : LEnt := ⟨p_goquery_appendWithoutDuplicates_small_0, x_goquery_appendWithoutDuplicates_small_0, loopO (m_goquery_appendWithoutDuplicates_small_0)⟩

theorem lo_goquery_appendWithoutDuplicates_small_0 : LOK Tryd.prog 74 0 false (l_goquery_appendWithoutDuplicates_small_0) c_goquery_appendWithoutDuplicates_small_0 := loop_ok (body := m_goquery_appendWithoutDuplicates_small_0) (L := lookL []) (ck_goquery_appendWithoutDuplicates_small) mixed (ls_ok (l := []) (by kernel_rfl) .nil) (by intro x; kernel_rfl) (fun x y h => loopO_iff.1 h)

noncomputable def c_goquery_appendWithoutDuplicates_small_1 : Code := loopAt (Go.Proofs.Tryd.f55.body.getD .skip) 1

noncomputable def l_goquery_appendWithoutDuplicates_small_1 : LEnt := ⟨p_goquery_appendWithoutDuplicates_small_1, x_goquery_appendWithoutDuplicates_small_1, loopO (m_goquery_appendWithoutDuplicates_small_1)⟩

theorem lo_goquery_appendWithoutDuplicates_small_1 : LOK Tryd.prog 74 0 false (l_goquery_appendWithoutDuplicates_small_1) c_goquery_appendWithoutDuplicates_small_1 := loop_ok (body := m_goquery_appendWithoutDuplicates_small_1) (L := lookL []) (ck_goquery_appendWithoutDuplicates_small) mixed (ls_ok (l := []) (by kernel_rfl) .nil) (by intro x; kernel_rfl) (fun x y h => loopO_iff.1 h)

noncomputable def c_goquery_appendWithoutDuplicates_small_2 : Code := loopAt (Go.Proofs.Tryd.f55.body.getD .skip) 2

noncomputable def l_goquery_appendWithoutDuplicates_small_2 : LEnt := ⟨p_goquery_appendWithoutDuplicates_small_2, x_goquery_appendWithoutDuplicates_small_2, loopO (m_goquery_appendWithoutDuplicates_small_2)⟩

theorem lo_goquery_appendWithoutDuplicates_small_2 : LOK Tryd.prog 74 0 false (l_goquery_appendWithoutDuplicates_small_2) c_goquery_appendWithoutDuplicates_small_2 := loop_ok (body := m_goquery_appendWithoutDuplicates_small_2) (L := lookL []) (ck_goquery_appendWithoutDuplicates_small) mixed (ls_ok (l := []) (by kernel_rfl) .nil) (by intro x; kernel_rfl) (fun x y h => loopO_iff.1 h)

noncomputable def e_goquery_appendWithoutDuplicates_small : Ent := ⟨0, p_goquery_appendWithoutDuplicates_small, q_goquery_appendWithoutDuplicates_small, m_goquery_appendWithoutDuplicates_small⟩
theorem ok_goquery_appendWithoutDuplicates_small : FnOK Tryd.prog 55 e_goquery_appendWithoutDuplicates_small := fn_ok (L := lookL [(0, l_goquery_appendWithoutDuplicates_small_0), (2, l_goquery_appendWithoutDuplicates_small_1), (4, l_goquery_appendWithoutDuplicates_small_2)]) ck_goquery_appendWithoutDuplicates_small mixed Tryd.func55 rfl (by kernel_rfl) (by kernel_rfl) (ls_ok (l := [(0, c_goquery_appendWithoutDuplicates_small_0), (2, c_goquery_appendWithoutDuplicates_small_1), (4, c_goquery_appendWithoutDuplicates_small_2)]) (by kernel_rfl) (.cons rfl (lo_goquery_appendWithoutDuplicates_small_0) (.cons rfl (lo_goquery_appendWithoutDuplicates_small_1) (.cons rfl (lo_goquery_appendWithoutDuplicates_small_2) .nil)))) (by intro x; kernel_rfl)

/-! (*goquery.Selection).AddNodes@nil -/
abbrev p_goquery_Selection_AddNodes_nil : Pt := [(0, .fp (.rc .nil [] 2)), (1, .lst .np)]
abbrev q_goquery_Selection_AddNodes_nil : Pt := [(0, .fp (.rc .nps [] 2))]

noncomputable def m_goquery_Selection_AddNodes_nil : Tup p_goquery_Selection_AddNodes_nil → Option (Tup q_goquery_Selection_AddNodes_nil) := fun (x : PUnit × List (Option Nat)) => Option.bind (m_goquery_appendWithoutDuplicates_small ([], x.2, ())) fun (r : List (Option Nat)) => Option.bind (m_goquery_pushStack ([], r)) fun (r : List (Option Nat)) => some r

noncomputable def cx_goquery_Selection_AddNodes_nil : Cx := ⟨tb, lookE [(55, e_goquery_appendWithoutDuplicates_small), (54, e_goquery_pushStack)], lookS [], mth, ast⟩

theorem ck_goquery_Selection_AddNodes_nil : CxOK Tryd.prog (cx_goquery_Selection_AddNodes_nil) := cx_ok tb_ok if_ok (.cons ok_goquery_appendWithoutDuplicates_small Tryd.call55 (.cons ok_goquery_pushStack Tryd.call54 .nil))

noncomputable def e_goquery_Selection_AddNodes_nil : Ent := ⟨0, p_goquery_Selection_AddNodes_nil, q_goquery_Selection_AddNodes_nil, m_goquery_Selection_AddNodes_nil⟩
theorem ok_goquery_Selection_AddNodes_nil : FnOK Tryd.prog 41 e_goquery_Selection_AddNodes_nil := fn_ok (L := lookL []) ck_goquery_Selection_AddNodes_nil mixed Tryd.func41 rfl (by kernel_rfl) (by kernel_rfl) (ls_ok (l := []) (by kernel_rfl) .nil) (by intro x; kernel_rfl)

/-! impl.among -/
abbrev p_impl_among : Pt := [(0, .lst .np), (1, .lst .int), (2, .bool)]
abbrev q_impl_among : Pt := [(0, .fp (.rc .nps [] 2)), (1, .lst .np), (2, .bool)]

noncomputable def m_impl_among : Tup p_impl_among → Option (Tup q_impl_among) := fun (x : List (Option Nat) × List Int × Bool) => Option.bind (m_impl_these (x.1, x.2.1)) fun (r : List (Option Nat) × Bool) => bif !x.2.2 then none else bif !r.2 then none else Option.bind (atI x.1 (0 : Int)) fun (v : Option Nat) => Option.bind (m_goquery_NewDocumentFromNode v) fun (r_1 : List (Option Nat) × Option Nat) => Option.bind (m_goquery_Selection_Eq_nil (r_1.1, (1 : Int))) fun (r_2 : PUnit) => Option.bind (m_goquery_Selection_AddNodes_nil ((), r.1)) fun (r : List (Option Nat)) => some (r, x.1, true)

noncomputable def cx_impl_among : Cx := ⟨tb, lookE [(38, e_impl_these), (39, e_goquery_NewDocumentFromNode), (40, e_goquery_Selection_Eq_nil), (41, e_goquery_Selection_AddNodes_nil)], lookS [], mth, ast⟩

theorem ck_impl_among : CxOK Tryd.prog (cx_impl_among) := cx_ok tb_ok if_ok (.cons ok_impl_these Tryd.call38 (.cons ok_goquery_NewDocumentFromNode Tryd.call39 (.cons ok_goquery_Selection_Eq_nil Tryd.call40 (.cons ok_goquery_Selection_AddNodes_nil Tryd.call41 .nil))))

noncomputable def e_impl_among : Ent := ⟨0, p_impl_among, q_impl_among, m_impl_among⟩
theorem ok_impl_among : FnOK Tryd.prog 26 e_impl_among := fn_ok (L := lookL []) ck_impl_among mixed Tryd.func26 rfl (by kernel_rfl) (by kernel_rfl) (ls_ok (l := []) (by kernel_rfl) .nil) (by intro x; kernel_rfl)

/-! impl.chosen -/
abbrev p_impl_chosen : Pt := [(0, .lst .node), (1, .lst .int), (NT, .ns .h 105 107)]
abbrev q_impl_chosen : Pt := [(0, .fp (.rc .nps [] 2)), (1, .lst .np), (2, .bool), (NT, .ns .h 105 107)]

noncomputable def m_impl_chosen : Tup p_impl_chosen → Option (Tup q_impl_chosen) := fun (x : List Node × List Int × List HN) => Option.bind (m_impl_grown (x.1, x.2.2)) fun (r : List (Option Nat) × Bool × List HN) => Option.bind (m_impl_among (r.1, x.2.1, r.2.1)) fun (r_1 : List (Option Nat) × List (Option Nat) × Bool) => some (r_1.1, r_1.2.1, r_1.2.2, r.2.2)

noncomputable def cx_impl_chosen : Cx := ⟨tb, lookE [(25, e_impl_grown), (26, e_impl_among)], lookS [], mth, ast⟩

theorem ck_impl_chosen : CxOK Tryd.prog (cx_impl_chosen) := cx_ok tb_ok if_ok (.cons ok_impl_grown Tryd.call25 (.cons ok_impl_among Tryd.call26 .nil))

noncomputable def e_impl_chosen : Ent := ⟨0, p_impl_chosen, q_impl_chosen, m_impl_chosen⟩
theorem ok_impl_chosen : FnOK Tryd.prog 15 e_impl_chosen := fn_ok (L := lookL []) ck_impl_chosen mixed Tryd.func15 rfl (by kernel_rfl) (by kernel_rfl) (ls_ok (l := []) (by kernel_rfl) .nil) (by intro x; kernel_rfl)

end Go.Proofs.YtpedmnlpccngiaaDoor.V
