/-
  Models of functions, and that they are what the code does (written by a program).
-/
import Derived.Test.YtnggneccdekofaaKTab
import Derived.Test.YtnggneccdekofaaSpecA
import Derived.Test.YtnggneccdekofaaImplA
namespace Go.Proofs.Ytnggneccdekofaa.V
open Go Go.Proofs

/-! goquery.newSingleSelection -/
abbrev p_goquery_newSingleSelection : Pt := [(0, .np), (1, .any)]
abbrev q_goquery_newSingleSelection : Pt := [(0, .fp (.rc .nps [] 2))]

noncomputable def m_goquery_newSingleSelection : Tup p_goquery_newSingleSelection → Option (Tup q_goquery_newSingleSelection) := fun (x : Option Nat × PUnit) => Option.some [Prod.fst x]

noncomputable def cx_goquery_newSingleSelection : Cx := ⟨tb, lookE []⟩

theorem ck_goquery_newSingleSelection : CxOK Try.prog (cx_goquery_newSingleSelection) := cx_ok tb_ok .nil

noncomputable def e_goquery_newSingleSelection : Ent := ⟨0, p_goquery_newSingleSelection, q_goquery_newSingleSelection, m_goquery_newSingleSelection⟩
theorem ok_goquery_newSingleSelection : FnOK Try.prog 111 e_goquery_newSingleSelection := fn_ok (L := lookL []) ck_goquery_newSingleSelection mixed Try.func111 rfl (by kernel_rfl) (by kernel_rfl) (ls_ok (l := []) (by kernel_rfl) .nil) (by intro x; kernel_rfl)

/-! goquery.newDocument -/
abbrev p_goquery_newDocument : Pt := [(0, .np)]
abbrev q_goquery_newDocument : Pt := [(0, .fp (.rc .fsel [.np] 0))]

noncomputable def m_goquery_newDocument : Tup p_goquery_newDocument → Option (Tup q_goquery_newDocument) := fun (x : Option Nat) => Option.bind (m_goquery_newSingleSelection (x, ())) fun (r : List (Option Nat)) => Option.some (r, x)

noncomputable def cx_goquery_newDocument : Cx := ⟨tb, lookE [(111, e_goquery_newSingleSelection)]⟩

theorem ck_goquery_newDocument : CxOK Try.prog (cx_goquery_newDocument) := cx_ok tb_ok (.cons ok_goquery_newSingleSelection Try.call111 .nil)

noncomputable def e_goquery_newDocument : Ent := ⟨0, p_goquery_newDocument, q_goquery_newDocument, m_goquery_newDocument⟩
theorem ok_goquery_newDocument : FnOK Try.prog 156 e_goquery_newDocument := fn_ok (L := lookL []) ck_goquery_newDocument mixed Try.func156 rfl (by kernel_rfl) (by kernel_rfl) (ls_ok (l := []) (by kernel_rfl) .nil) (by intro x; kernel_rfl)

/-! goquery.NewDocumentFromNode -/
abbrev p_goquery_NewDocumentFromNode : Pt := [(0, .np)]
abbrev q_goquery_NewDocumentFromNode : Pt := [(0, .fp (.rc .fsel [.np] 0))]

noncomputable def m_goquery_NewDocumentFromNode : Tup p_goquery_NewDocumentFromNode → Option (Tup q_goquery_NewDocumentFromNode) := fun (x : Option Nat) => Option.bind (m_goquery_newDocument x) fun (r : List (Option Nat) × Option Nat) => Option.some (Prod.fst r, Prod.snd r)

noncomputable def cx_goquery_NewDocumentFromNode : Cx := ⟨tb, lookE [(156, e_goquery_newDocument)]⟩

theorem ck_goquery_NewDocumentFromNode : CxOK Try.prog (cx_goquery_NewDocumentFromNode) := cx_ok tb_ok (.cons ok_goquery_newDocument Try.call156 .nil)

noncomputable def e_goquery_NewDocumentFromNode : Ent := ⟨0, p_goquery_NewDocumentFromNode, q_goquery_NewDocumentFromNode, m_goquery_NewDocumentFromNode⟩
theorem ok_goquery_NewDocumentFromNode : FnOK Try.prog 137 e_goquery_NewDocumentFromNode := fn_ok (L := lookL []) ck_goquery_NewDocumentFromNode mixed Try.func137 rfl (by kernel_rfl) (by kernel_rfl) (ls_ok (l := []) (by kernel_rfl) .nil) (by intro x; kernel_rfl)

/-! goquery.newEmptySelection -/
abbrev p_goquery_newEmptySelection : Pt := [(0, .any)]
abbrev q_goquery_newEmptySelection : Pt := [(0, .fp (.rc .nil [] 2))]

noncomputable def m_goquery_newEmptySelection : Tup p_goquery_newEmptySelection → Option (Tup q_goquery_newEmptySelection) := fun (x : PUnit) => Option.some PUnit.unit

noncomputable def cx_goquery_newEmptySelection : Cx := ⟨tb, lookE []⟩

theorem ck_goquery_newEmptySelection : CxOK Try.prog (cx_goquery_newEmptySelection) := cx_ok tb_ok .nil

noncomputable def e_goquery_newEmptySelection : Ent := ⟨0, p_goquery_newEmptySelection, q_goquery_newEmptySelection, m_goquery_newEmptySelection⟩
theorem ok_goquery_newEmptySelection : FnOK Try.prog 157 e_goquery_newEmptySelection := fn_ok (L := lookL []) ck_goquery_newEmptySelection mixed Try.func157 rfl (by kernel_rfl) (by kernel_rfl) (ls_ok (l := []) (by kernel_rfl) .nil) (by intro x; kernel_rfl)

/-! goquery.pushStack -/
abbrev p_goquery_pushStack : Pt := [(0, .fp (.rc .nps [] 2)), (1, .lst .np)]
abbrev q_goquery_pushStack : Pt := [(0, .fp (.rc .nps [] 2))]

noncomputable def m_goquery_pushStack : Tup p_goquery_pushStack → Option (Tup q_goquery_pushStack) := fun (x : List (Option Nat) × List (Option Nat)) => Option.some (Prod.snd x)

noncomputable def cx_goquery_pushStack : Cx := ⟨tb, lookE []⟩

theorem ck_goquery_pushStack : CxOK Try.prog (cx_goquery_pushStack) := cx_ok tb_ok .nil

noncomputable def e_goquery_pushStack : Ent := ⟨0, p_goquery_pushStack, q_goquery_pushStack, m_goquery_pushStack⟩
theorem ok_goquery_pushStack : FnOK Try.prog 113 e_goquery_pushStack := fn_ok (L := lookL []) ck_goquery_pushStack mixed Try.func113 rfl (by kernel_rfl) (by kernel_rfl) (ls_ok (l := []) (by kernel_rfl) .nil) (by intro x; kernel_rfl)

/-! (*goquery.Selection).Slice -/
abbrev p_goquery_Selection_Slice : Pt := [(0, .fp (.rc .nps [] 2)), (1, .int .i64), (2, .int .i64)]
abbrev q_goquery_Selection_Slice : Pt := [(0, .fp (.rc .nps [] 2))]

noncomputable def m_goquery_Selection_Slice : Tup p_goquery_Selection_Slice → Option (Tup q_goquery_Selection_Slice) := fun (x : List (Option Nat) × Int × Int) => bif Decidable.decide (Prod.fst (Prod.snd x) < (0 : Int)) then bif Decidable.decide (Prod.snd (Prod.snd x) = (9223372036854775807 : Int)) then Option.bind (subL (Prod.fst x) (Go.IntKind.wrap Go.IntKind.i64 (Prod.fst (Prod.snd x) + (↑(List.length (Prod.fst x)) : Int))) (↑(List.length (Prod.fst x)) : Int)) fun (m : List (Option Nat)) => Option.bind (m_goquery_pushStack (Prod.fst x, m)) fun (r : List (Option Nat)) => Option.some r else bif Decidable.decide (Prod.snd (Prod.snd x) < (0 : Int)) then Option.bind (subL (Prod.fst x) (Go.IntKind.wrap Go.IntKind.i64 (Prod.fst (Prod.snd x) + (↑(List.length (Prod.fst x)) : Int))) (Go.IntKind.wrap Go.IntKind.i64 (Prod.snd (Prod.snd x) + (↑(List.length (Prod.fst x)) : Int)))) fun (m : List (Option Nat)) => Option.bind (m_goquery_pushStack (Prod.fst x, m)) fun (r : List (Option Nat)) => Option.some r else Option.bind (subL (Prod.fst x) (Go.IntKind.wrap Go.IntKind.i64 (Prod.fst (Prod.snd x) + (↑(List.length (Prod.fst x)) : Int))) (Prod.snd (Prod.snd x))) fun (m : List (Option Nat)) => Option.bind (m_goquery_pushStack (Prod.fst x, m)) fun (r : List (Option Nat)) => Option.some r else bif Decidable.decide (Prod.snd (Prod.snd x) = (9223372036854775807 : Int)) then Option.bind (subL (Prod.fst x) (Prod.fst (Prod.snd x)) (↑(List.length (Prod.fst x)) : Int)) fun (m : List (Option Nat)) => Option.bind (m_goquery_pushStack (Prod.fst x, m)) fun (r : List (Option Nat)) => Option.some r else bif Decidable.decide (Prod.snd (Prod.snd x) < (0 : Int)) then Option.bind (subL (Prod.fst x) (Prod.fst (Prod.snd x)) (Go.IntKind.wrap Go.IntKind.i64 (Prod.snd (Prod.snd x) + (↑(List.length (Prod.fst x)) : Int)))) fun (m : List (Option Nat)) => Option.bind (m_goquery_pushStack (Prod.fst x, m)) fun (r : List (Option Nat)) => Option.some r else Option.bind (subL (Prod.fst x) (Prod.fst (Prod.snd x)) (Prod.snd (Prod.snd x))) fun (m : List (Option Nat)) => Option.bind (m_goquery_pushStack (Prod.fst x, m)) fun (r : List (Option Nat)) => Option.some r

noncomputable def cx_goquery_Selection_Slice : Cx := ⟨tb, lookE [(113, e_goquery_pushStack)]⟩

theorem ck_goquery_Selection_Slice : CxOK Try.prog (cx_goquery_Selection_Slice) := cx_ok tb_ok (.cons ok_goquery_pushStack Try.call113 .nil)

noncomputable def e_goquery_Selection_Slice : Ent := ⟨0, p_goquery_Selection_Slice, q_goquery_Selection_Slice, m_goquery_Selection_Slice⟩
theorem ok_goquery_Selection_Slice : FnOK Try.prog 158 e_goquery_Selection_Slice := fn_ok (L := lookL []) ck_goquery_Selection_Slice mixed Try.func158 rfl (by kernel_rfl) (by kernel_rfl) (ls_ok (l := []) (by kernel_rfl) .nil) (by intro x; kernel_rfl)

/-! (*goquery.Selection).Eq@nil -/
abbrev p_goquery_Selection_Eq_nil : Pt := [(0, .fp (.rc .nps [] 2)), (1, .int .i64)]
abbrev q_goquery_Selection_Eq_nil : Pt := [(0, .fp (.rc .nil [] 2))]

noncomputable def m_goquery_Selection_Eq_nil : Tup p_goquery_Selection_Eq_nil → Option (Tup q_goquery_Selection_Eq_nil) := fun (x : List (Option Nat) × Int) => bif Decidable.decide (Prod.snd x < (0 : Int)) then bif Decidable.decide ((↑(List.length (Prod.fst x)) : Int) ≤ Go.IntKind.wrap Go.IntKind.i64 (Prod.snd x + (↑(List.length (Prod.fst x)) : Int))) then Option.bind (m_goquery_newEmptySelection ()) fun (r : PUnit) => Option.some PUnit.unit else bif Decidable.decide (Go.IntKind.wrap Go.IntKind.i64 (Prod.snd x + (↑(List.length (Prod.fst x)) : Int)) < (0 : Int)) then Option.bind (m_goquery_newEmptySelection ()) fun (r : PUnit) => Option.some PUnit.unit else Option.bind (m_goquery_Selection_Slice (Prod.fst x, Go.IntKind.wrap Go.IntKind.i64 (Prod.snd x + (↑(List.length (Prod.fst x)) : Int)), Go.IntKind.wrap Go.IntKind.i64 (Go.IntKind.wrap Go.IntKind.i64 (Prod.snd x + (↑(List.length (Prod.fst x)) : Int)) + (1 : Int)))) fun (r : List (Option Nat)) => Option.none else bif Decidable.decide ((↑(List.length (Prod.fst x)) : Int) ≤ Prod.snd x) then Option.bind (m_goquery_newEmptySelection ()) fun (r : PUnit) => Option.some PUnit.unit else bif Decidable.decide (Prod.snd x < (0 : Int)) then Option.bind (m_goquery_newEmptySelection ()) fun (r : PUnit) => Option.some PUnit.unit else Option.bind (m_goquery_Selection_Slice (Prod.fst x, Prod.snd x, Go.IntKind.wrap Go.IntKind.i64 (Prod.snd x + (1 : Int)))) fun (r : List (Option Nat)) => Option.none

noncomputable def cx_goquery_Selection_Eq_nil : Cx := ⟨tb, lookE [(157, e_goquery_newEmptySelection), (158, e_goquery_Selection_Slice)]⟩

theorem ck_goquery_Selection_Eq_nil : CxOK Try.prog (cx_goquery_Selection_Eq_nil) := cx_ok tb_ok (.cons ok_goquery_newEmptySelection Try.call157 (.cons ok_goquery_Selection_Slice Try.call158 .nil))

noncomputable def e_goquery_Selection_Eq_nil : Ent := ⟨0, p_goquery_Selection_Eq_nil, q_goquery_Selection_Eq_nil, m_goquery_Selection_Eq_nil⟩
theorem ok_goquery_Selection_Eq_nil : FnOK Try.prog 138 e_goquery_Selection_Eq_nil := fn_ok (L := lookL []) ck_goquery_Selection_Eq_nil mixed Try.func138 rfl (by kernel_rfl) (by kernel_rfl) (ls_ok (l := []) (by kernel_rfl) .nil) (by intro x; kernel_rfl)

/-! goquery.indexInSlice -/
abbrev p_goquery_indexInSlice : Pt := [(0, .lst .np), (1, .np)]
abbrev q_goquery_indexInSlice : Pt := [(0, .int .i64)]

abbrev p_goquery_indexInSlice_0 : Pt := [(1, .np), (9, .lst .np), (10, .int .i64), (11, .int .i64)]
abbrev x_goquery_indexInSlice_0 : List (Xt × Pt) := [(.ex 0, []), (.rt, [(4, .int .i64)])]
noncomputable def m_goquery_indexInSlice_0 : Tup p_goquery_indexInSlice_0 → Option (Stp (Tup p_goquery_indexInSlice_0) (SumT (x_goquery_indexInSlice_0.map (·.2)))) := fun (x : Option Nat × List (Option Nat) × Int × Int) => bif Decidable.decide (Prod.snd (Prod.snd (Prod.snd x)) < Prod.fst (Prod.snd (Prod.snd x))) then Option.bind (atI (Prod.fst (Prod.snd x)) (Prod.snd (Prod.snd (Prod.snd x)))) fun (v : Option Nat) => bif Decidable.decide (v = Prod.fst x) then Option.some (Stp.out (Sum.inr (Prod.snd (Prod.snd (Prod.snd x))))) else Option.some (Stp.nx (Prod.fst x, Prod.fst (Prod.snd x), Prod.fst (Prod.snd (Prod.snd x)), Go.IntKind.wrap Go.IntKind.i64 (Prod.snd (Prod.snd (Prod.snd x)) + (1 : Int)))) else Option.some (Stp.out (Sum.inl PUnit.unit))

noncomputable def m_goquery_indexInSlice : Tup p_goquery_indexInSlice → Option (Tup q_goquery_indexInSlice) := fun (x : List (Option Nat) × Option Nat) => bif !Option.isNone (Prod.snd x) then Option.bind (loopO m_goquery_indexInSlice_0 (Prod.snd x, Prod.fst x, (↑(List.length (Prod.fst x)) : Int), (0 : Int))) fun (y : PUnit ⊕ Int) => selim (fun (y : PUnit) => Option.some (-1 : Int)) (fun (y : Int) => Option.some y) y else Option.some (-1 : Int)

noncomputable def cx_goquery_indexInSlice : Cx := ⟨tb, lookE []⟩

theorem ck_goquery_indexInSlice : CxOK Try.prog (cx_goquery_indexInSlice) := cx_ok tb_ok .nil

noncomputable def c_goquery_indexInSlice_0 : Code := loopAt (Go.Proofs.Try.f101.body.getD .skip) 0

noncomputable def l_goquery_indexInSlice_0 : LEnt := ⟨p_goquery_indexInSlice_0, x_goquery_indexInSlice_0, loopO (m_goquery_indexInSlice_0)⟩

theorem lo_goquery_indexInSlice_0 : LOK Try.prog 21 0 false (l_goquery_indexInSlice_0) c_goquery_indexInSlice_0 := loop_ok (body := m_goquery_indexInSlice_0) (L := lookL []) (ck_goquery_indexInSlice) mixed (ls_ok (l := []) (by kernel_rfl) .nil) (by intro x; kernel_rfl) (fun x y h => loopO_iff.1 h)

noncomputable def e_goquery_indexInSlice : Ent := ⟨0, p_goquery_indexInSlice, q_goquery_indexInSlice, m_goquery_indexInSlice⟩
theorem ok_goquery_indexInSlice : FnOK Try.prog 101 e_goquery_indexInSlice := fn_ok (L := lookL [(0, l_goquery_indexInSlice_0)]) ck_goquery_indexInSlice mixed Try.func101 rfl (by kernel_rfl) (by kernel_rfl) (ls_ok (l := [(0, c_goquery_indexInSlice_0)]) (by kernel_rfl) (.cons rfl (lo_goquery_indexInSlice_0) .nil)) (by intro x; kernel_rfl)

/-! goquery.isInSlice -/
abbrev p_goquery_isInSlice : Pt := [(0, .lst .np), (1, .np)]
abbrev q_goquery_isInSlice : Pt := [(0, .bool)]

noncomputable def m_goquery_isInSlice : Tup p_goquery_isInSlice → Option (Tup q_goquery_isInSlice) := fun (x : List (Option Nat) × Option Nat) => Option.bind (m_goquery_indexInSlice (Prod.fst x, Prod.snd x)) fun (r : Int) => Option.some (Decidable.decide ((-1 : Int) < r))

noncomputable def cx_goquery_isInSlice : Cx := ⟨tb, lookE [(101, e_goquery_indexInSlice)]⟩

theorem ck_goquery_isInSlice : CxOK Try.prog (cx_goquery_isInSlice) := cx_ok tb_ok (.cons ok_goquery_indexInSlice Try.call101 .nil)

noncomputable def e_goquery_isInSlice : Ent := ⟨0, p_goquery_isInSlice, q_goquery_isInSlice, m_goquery_isInSlice⟩
theorem ok_goquery_isInSlice : FnOK Try.prog 152 e_goquery_isInSlice := fn_ok (L := lookL []) ck_goquery_isInSlice mixed Try.func152 rfl (by kernel_rfl) (by kernel_rfl) (ls_ok (l := []) (by kernel_rfl) .nil) (by intro x; kernel_rfl)

/-! goquery.appendWithoutDuplicates@small -/
abbrev p_goquery_appendWithoutDuplicates_small : Pt := [(0, .own .np 75), (1, .lst .np), (2, .mnil)]
abbrev q_goquery_appendWithoutDuplicates_small : Pt := [(0, .own .np 75)]

abbrev p_goquery_appendWithoutDuplicates_small_0 : Pt := [(0, .own .np 75), (23, .lst .np), (24, .int .i64), (25, .int .i64)]
abbrev x_goquery_appendWithoutDuplicates_small_0 : List (Xt × Pt) := [(.ex 0, [(0, .own .np 75)])]
noncomputable def m_goquery_appendWithoutDuplicates_small_0 : Tup p_goquery_appendWithoutDuplicates_small_0 → Option (Stp (Tup p_goquery_appendWithoutDuplicates_small_0) (SumT (x_goquery_appendWithoutDuplicates_small_0.map (·.2)))) := fun (x : List (Option Nat) × List (Option Nat) × Int × Int) => bif Decidable.decide (Prod.snd (Prod.snd (Prod.snd x)) < Prod.fst (Prod.snd (Prod.snd x))) then Option.bind (atI (Prod.fst (Prod.snd x)) (Prod.snd (Prod.snd (Prod.snd x)))) fun (v : Option Nat) => Option.bind (m_goquery_isInSlice (Prod.fst x, v)) fun (r : Bool) => bif !r then Option.bind (appL (Prod.fst x) [v]) fun (r : List (Option Nat)) => Option.some (Stp.nx (r, Prod.fst (Prod.snd x), Prod.fst (Prod.snd (Prod.snd x)), Go.IntKind.wrap Go.IntKind.i64 (Prod.snd (Prod.snd (Prod.snd x)) + (1 : Int)))) else Option.some (Stp.nx (Prod.fst x, Prod.fst (Prod.snd x), Prod.fst (Prod.snd (Prod.snd x)), Go.IntKind.wrap Go.IntKind.i64 (Prod.snd (Prod.snd (Prod.snd x)) + (1 : Int)))) else Option.some (Stp.out (Prod.fst x))

abbrev p_goquery_appendWithoutDuplicates_small_1 : Pt := [(0, .own .np 75), (1, .lst .np), (2, .mnil), (47, .al 0), (48, .int .i64), (49, .int .i64)]
abbrev x_goquery_appendWithoutDuplicates_small_1 : List (Xt × Pt) := [(.ex 2, [(0, .own .np 75), (1, .lst .np), (2, .mnil)])]
noncomputable def m_goquery_appendWithoutDuplicates_small_1 : Tup p_goquery_appendWithoutDuplicates_small_1 → Option (Stp (Tup p_goquery_appendWithoutDuplicates_small_1) (SumT (x_goquery_appendWithoutDuplicates_small_1.map (·.2)))) := fun (x : List (Option Nat) × List (Option Nat) × PUnit × PUnit × Int × Int) => bif Decidable.decide (Prod.snd (Prod.snd (Prod.snd (Prod.snd (Prod.snd x)))) < Prod.fst (Prod.snd (Prod.snd (Prod.snd (Prod.snd x))))) then Option.bind (atI (Prod.fst x) (Prod.snd (Prod.snd (Prod.snd (Prod.snd (Prod.snd x)))))) fun (x_1 : Option Nat) => Option.bind (Prod.fst x)[Int.toNat (Prod.snd (Prod.snd (Prod.snd (Prod.snd (Prod.snd x)))))]? fun (v : Option Nat) => Option.none else Option.some (Stp.out (Prod.fst x, Prod.fst (Prod.snd x), PUnit.unit))

abbrev p_goquery_appendWithoutDuplicates_small_2 : Pt := [(0, .own .np 75), (2, .mnil), (56, .lst .np), (57, .int .i64), (58, .int .i64)]
abbrev x_goquery_appendWithoutDuplicates_small_2 : List (Xt × Pt) := [(.ex 4, [(0, .own .np 75)])]
noncomputable def m_goquery_appendWithoutDuplicates_small_2 : Tup p_goquery_appendWithoutDuplicates_small_2 → Option (Stp (Tup p_goquery_appendWithoutDuplicates_small_2) (SumT (x_goquery_appendWithoutDuplicates_small_2.map (·.2)))) := fun (x : List (Option Nat) × PUnit × List (Option Nat) × Int × Int) => bif Decidable.decide (Prod.snd (Prod.snd (Prod.snd (Prod.snd x))) < Prod.fst (Prod.snd (Prod.snd (Prod.snd x)))) then Option.bind (atI (Prod.fst (Prod.snd (Prod.snd x))) (Prod.snd (Prod.snd (Prod.snd (Prod.snd x))))) fun (v : Option Nat) => Option.bind (appL (Prod.fst x) [v]) fun (r : List (Option Nat)) => Option.none else Option.some (Stp.out (Prod.fst x))

noncomputable def m_goquery_appendWithoutDuplicates_small : Tup p_goquery_appendWithoutDuplicates_small → Option (Tup q_goquery_appendWithoutDuplicates_small) := fun (x : List (Option Nat) × List (Option Nat) × PUnit) => bif Decidable.decide (Go.IntKind.wrap Go.IntKind.i64 ((↑(List.length (Prod.fst x)) : Int) + (↑(List.length (Prod.fst (Prod.snd x))) : Int)) < (1000 : Int)) then Option.bind (loopO m_goquery_appendWithoutDuplicates_small_0 (Prod.fst x, Prod.fst (Prod.snd x), (↑(List.length (Prod.fst (Prod.snd x))) : Int), (0 : Int))) fun (y : List (Option Nat)) => Option.some y else Option.none

noncomputable def cx_goquery_appendWithoutDuplicates_small : Cx := ⟨tb, lookE [(152, e_goquery_isInSlice)]⟩

theorem ck_goquery_appendWithoutDuplicates_small : CxOK Try.prog (cx_goquery_appendWithoutDuplicates_small) := cx_ok tb_ok (.cons ok_goquery_isInSlice Try.call152 .nil)

noncomputable def c_goquery_appendWithoutDuplicates_small_0 : Code := loopAt (Go.Proofs.Try.f153.body.getD .skip) 0

noncomputable def l_goquery_appendWithoutDuplicates_small_0 : LEnt := ⟨p_goquery_appendWithoutDuplicates_small_0, x_goquery_appendWithoutDuplicates_small_0, loopO (m_goquery_appendWithoutDuplicates_small_0)⟩

theorem lo_goquery_appendWithoutDuplicates_small_0 : LOK Try.prog 74 0 false (l_goquery_appendWithoutDuplicates_small_0) c_goquery_appendWithoutDuplicates_small_0 := loop_ok (body := m_goquery_appendWithoutDuplicates_small_0) (L := lookL []) (ck_goquery_appendWithoutDuplicates_small) mixed (ls_ok (l := []) (by kernel_rfl) .nil) (by intro x; kernel_rfl) (fun x y h => loopO_iff.1 h)

noncomputable def c_goquery_appendWithoutDuplicates_small_1 : Code := loopAt (Go.Proofs.Try.f153.body.getD .skip) 1

noncomputable def l_goquery_appendWithoutDuplicates_small_1 : LEnt := ⟨p_goquery_appendWithoutDuplicates_small_1, x_goquery_appendWithoutDuplicates_small_1, loopO (m_goquery_appendWithoutDuplicates_small_1)⟩

theorem lo_goquery_appendWithoutDuplicates_small_1 : LOK Try.prog 74 0 false (l_goquery_appendWithoutDuplicates_small_1) c_goquery_appendWithoutDuplicates_small_1 := loop_ok (body := m_goquery_appendWithoutDuplicates_small_1) (L := lookL []) (ck_goquery_appendWithoutDuplicates_small) mixed (ls_ok (l := []) (by kernel_rfl) .nil) (by intro x; kernel_rfl) (fun x y h => loopO_iff.1 h)

noncomputable def c_goquery_appendWithoutDuplicates_small_2 : Code := loopAt (Go.Proofs.Try.f153.body.getD .skip) 2

noncomputable def l_goquery_appendWithoutDuplicates_small_2 : LEnt := ⟨p_goquery_appendWithoutDuplicates_small_2, x_goquery_appendWithoutDuplicates_small_2, loopO (m_goquery_appendWithoutDuplicates_small_2)⟩

theorem lo_goquery_appendWithoutDuplicates_small_2 : LOK Try.prog 74 0 false (l_goquery_appendWithoutDuplicates_small_2) c_goquery_appendWithoutDuplicates_small_2 := loop_ok (body := m_goquery_appendWithoutDuplicates_small_2) (L := lookL []) (ck_goquery_appendWithoutDuplicates_small) mixed (ls_ok (l := []) (by kernel_rfl) .nil) (by intro x; kernel_rfl) (fun x y h => loopO_iff.1 h)

noncomputable def e_goquery_appendWithoutDuplicates_small : Ent := ⟨0, p_goquery_appendWithoutDuplicates_small, q_goquery_appendWithoutDuplicates_small, m_goquery_appendWithoutDuplicates_small⟩
theorem ok_goquery_appendWithoutDuplicates_small : FnOK Try.prog 153 e_goquery_appendWithoutDuplicates_small := fn_ok (L := lookL [(0, l_goquery_appendWithoutDuplicates_small_0), (2, l_goquery_appendWithoutDuplicates_small_1), (4, l_goquery_appendWithoutDuplicates_small_2)]) ck_goquery_appendWithoutDuplicates_small mixed Try.func153 rfl (by kernel_rfl) (by kernel_rfl) (ls_ok (l := [(0, c_goquery_appendWithoutDuplicates_small_0), (2, c_goquery_appendWithoutDuplicates_small_1), (4, c_goquery_appendWithoutDuplicates_small_2)]) (by kernel_rfl) (.cons rfl (lo_goquery_appendWithoutDuplicates_small_0) (.cons rfl (lo_goquery_appendWithoutDuplicates_small_1) (.cons rfl (lo_goquery_appendWithoutDuplicates_small_2) .nil)))) (by intro x; kernel_rfl)

/-! (*goquery.Selection).AddNodes@nil -/
abbrev p_goquery_Selection_AddNodes_nil : Pt := [(0, .fp (.rc .nil [] 2)), (1, .lst .np)]
abbrev q_goquery_Selection_AddNodes_nil : Pt := [(0, .fp (.rc .nps [] 2))]

noncomputable def m_goquery_Selection_AddNodes_nil : Tup p_goquery_Selection_AddNodes_nil → Option (Tup q_goquery_Selection_AddNodes_nil) := fun (x : PUnit × List (Option Nat)) => Option.bind (m_goquery_appendWithoutDuplicates_small ([], Prod.snd x, ())) fun (r : List (Option Nat)) => Option.bind (m_goquery_pushStack ([], r)) fun (r : List (Option Nat)) => Option.some r

noncomputable def cx_goquery_Selection_AddNodes_nil : Cx := ⟨tb, lookE [(153, e_goquery_appendWithoutDuplicates_small), (113, e_goquery_pushStack)]⟩

theorem ck_goquery_Selection_AddNodes_nil : CxOK Try.prog (cx_goquery_Selection_AddNodes_nil) := cx_ok tb_ok (.cons ok_goquery_appendWithoutDuplicates_small Try.call153 (.cons ok_goquery_pushStack Try.call113 .nil))

noncomputable def e_goquery_Selection_AddNodes_nil : Ent := ⟨0, p_goquery_Selection_AddNodes_nil, q_goquery_Selection_AddNodes_nil, m_goquery_Selection_AddNodes_nil⟩
theorem ok_goquery_Selection_AddNodes_nil : FnOK Try.prog 139 e_goquery_Selection_AddNodes_nil := fn_ok (L := lookL []) ck_goquery_Selection_AddNodes_nil mixed Try.func139 rfl (by kernel_rfl) (by kernel_rfl) (ls_ok (l := []) (by kernel_rfl) .nil) (by intro x; kernel_rfl)

/-! impl.among -/
abbrev p_impl_among : Pt := [(0, .lst .np), (1, .lst .int), (2, .bool)]
abbrev q_impl_among : Pt := [(0, .fp (.rc .nps [] 2)), (1, .lst .np), (2, .bool)]

noncomputable def m_impl_among : Tup p_impl_among → Option (Tup q_impl_among) := fun (x : List (Option Nat) × List Int × Bool) => Option.bind (m_impl_these (Prod.fst x, Prod.fst (Prod.snd x))) fun (r : List (Option Nat) × Bool) => bif !Prod.snd (Prod.snd x) then Option.none else bif !Prod.snd r then Option.none else Option.bind (atI (Prod.fst x) (0 : Int)) fun (v : Option Nat) => Option.bind (m_goquery_NewDocumentFromNode v) fun (r_1 : List (Option Nat) × Option Nat) => Option.bind (m_goquery_Selection_Eq_nil (Prod.fst r_1, (1 : Int))) fun (r_2 : PUnit) => Option.bind (m_goquery_Selection_AddNodes_nil ((), Prod.fst r)) fun (r : List (Option Nat)) => Option.some (r, Prod.fst x, Bool.true)

noncomputable def cx_impl_among : Cx := ⟨tb, lookE [(75, e_impl_these), (137, e_goquery_NewDocumentFromNode), (138, e_goquery_Selection_Eq_nil), (139, e_goquery_Selection_AddNodes_nil)]⟩

theorem ck_impl_among : CxOK Try.prog (cx_impl_among) := cx_ok tb_ok (.cons ok_impl_these Try.call75 (.cons ok_goquery_NewDocumentFromNode Try.call137 (.cons ok_goquery_Selection_Eq_nil Try.call138 (.cons ok_goquery_Selection_AddNodes_nil Try.call139 .nil))))

noncomputable def e_impl_among : Ent := ⟨0, p_impl_among, q_impl_among, m_impl_among⟩
theorem ok_impl_among : FnOK Try.prog 100 e_impl_among := fn_ok (L := lookL []) ck_impl_among mixed Try.func100 rfl (by kernel_rfl) (by kernel_rfl) (ls_ok (l := []) (by kernel_rfl) .nil) (by intro x; kernel_rfl)

/-! impl.chosen -/
abbrev p_impl_chosen : Pt := [(0, .lst .node), (1, .lst .int), (NT, .ns 133 129)]
abbrev q_impl_chosen : Pt := [(0, .fp (.rc .nps [] 2)), (1, .lst .np), (2, .bool), (NT, .ns 133 129)]

noncomputable def m_impl_chosen : Tup p_impl_chosen → Option (Tup q_impl_chosen) := fun (x : List Node × List Int × List HN) => Option.bind (m_impl_grown (Prod.fst x, Prod.snd (Prod.snd x))) fun (r : List (Option Nat) × Bool × List HN) => Option.bind (m_impl_among (Prod.fst r, Prod.fst (Prod.snd x), Prod.fst (Prod.snd r))) fun (r_1 : List (Option Nat) × List (Option Nat) × Bool) => Option.some (Prod.fst r_1, Prod.fst (Prod.snd r_1), Prod.snd (Prod.snd r_1), Prod.snd (Prod.snd r))

noncomputable def cx_impl_chosen : Cx := ⟨tb, lookE [(53, e_impl_grown), (100, e_impl_among)]⟩

theorem ck_impl_chosen : CxOK Try.prog (cx_impl_chosen) := cx_ok tb_ok (.cons ok_impl_grown Try.call53 (.cons ok_impl_among Try.call100 .nil))

noncomputable def e_impl_chosen : Ent := ⟨0, p_impl_chosen, q_impl_chosen, m_impl_chosen⟩
theorem ok_impl_chosen : FnOK Try.prog 55 e_impl_chosen := fn_ok (L := lookL []) ck_impl_chosen mixed Try.func55 rfl (by kernel_rfl) (by kernel_rfl) (ls_ok (l := []) (by kernel_rfl) .nil) (by intro x; kernel_rfl)

/-! (*goquery.Selection).Length -/
abbrev p_goquery_Selection_Length : Pt := [(0, .fp (.rc .nps [] 2))]
abbrev q_goquery_Selection_Length : Pt := [(0, .int .i64)]

noncomputable def m_goquery_Selection_Length : Tup p_goquery_Selection_Length → Option (Tup q_goquery_Selection_Length) := fun (x : List (Option Nat)) => Option.some (↑(List.length x) : Int)

noncomputable def cx_goquery_Selection_Length : Cx := ⟨tb, lookE []⟩

theorem ck_goquery_Selection_Length : CxOK Try.prog (cx_goquery_Selection_Length) := cx_ok tb_ok .nil

noncomputable def e_goquery_Selection_Length : Ent := ⟨0, p_goquery_Selection_Length, q_goquery_Selection_Length, m_goquery_Selection_Length⟩
theorem ok_goquery_Selection_Length : FnOK Try.prog 63 e_goquery_Selection_Length := fn_ok (L := lookL []) ck_goquery_Selection_Length mixed Try.func63 rfl (by kernel_rfl) (by kernel_rfl) (ls_ok (l := []) (by kernel_rfl) .nil) (by intro x; kernel_rfl)

/-! (*goquery.Selection).Get -/
abbrev p_goquery_Selection_Get : Pt := [(0, .fp (.rc .nps [] 2)), (1, .int .i64)]
abbrev q_goquery_Selection_Get : Pt := [(0, .np)]

noncomputable def m_goquery_Selection_Get : Tup p_goquery_Selection_Get → Option (Tup q_goquery_Selection_Get) := fun (x : List (Option Nat) × Int) => bif Decidable.decide (Prod.snd x < (0 : Int)) then Option.bind (atI (Prod.fst x) (Go.IntKind.wrap Go.IntKind.i64 (Prod.snd x + (↑(List.length (Prod.fst x)) : Int)))) fun (v : Option Nat) => Option.some v else Option.bind (atI (Prod.fst x) (Prod.snd x)) fun (v : Option Nat) => Option.some v

noncomputable def cx_goquery_Selection_Get : Cx := ⟨tb, lookE []⟩

theorem ck_goquery_Selection_Get : CxOK Try.prog (cx_goquery_Selection_Get) := cx_ok tb_ok .nil

noncomputable def e_goquery_Selection_Get : Ent := ⟨0, p_goquery_Selection_Get, q_goquery_Selection_Get, m_goquery_Selection_Get⟩
theorem ok_goquery_Selection_Get : FnOK Try.prog 65 e_goquery_Selection_Get := fn_ok (L := lookL []) ck_goquery_Selection_Get mixed Try.func65 rfl (by kernel_rfl) (by kernel_rfl) (ls_ok (l := []) (by kernel_rfl) .nil) (by intro x; kernel_rfl)

/-! impl.GetOf -/
abbrev p_impl_GetOf : Pt := [(0, .lst .node), (1, .lst .int), (2, .int .i64), (NT, .ns 133 129)]
abbrev q_impl_GetOf : Pt := [(0, .int .i64), (1, .bool), (NT, .ns 133 129)]

noncomputable def m_impl_GetOf : Tup p_impl_GetOf → Option (Tup q_impl_GetOf) := fun (x : List Node × List Int × Int × List HN) => Option.bind (m_impl_chosen (Prod.fst x, Prod.fst (Prod.snd x), Prod.snd (Prod.snd (Prod.snd x)))) fun (r : List (Option Nat) × List (Option Nat) × Bool × List HN) => bif !Prod.fst (Prod.snd (Prod.snd r)) then Option.some ((0 : Int), Bool.false, Prod.snd (Prod.snd (Prod.snd r))) else Option.bind (m_goquery_Selection_Length (Prod.fst r)) fun (r_1 : Int) => bif Decidable.decide (r_1 ≤ Prod.fst (Prod.snd (Prod.snd x))) then Option.some ((0 : Int), Bool.false, Prod.snd (Prod.snd (Prod.snd r))) else Option.bind (m_goquery_Selection_Length (Prod.fst r)) fun (r_2 : Int) => bif Decidable.decide (Prod.fst (Prod.snd (Prod.snd x)) < Go.IntKind.wrap Go.IntKind.i64 ((0 : Int) - r_2)) then Option.some ((0 : Int), Bool.false, Prod.snd (Prod.snd (Prod.snd r))) else Option.bind (m_goquery_Selection_Get (Prod.fst r, Prod.fst (Prod.snd (Prod.snd x)))) fun (r_3 : Option Nat) => Option.bind (m_impl_placeOf (Prod.fst (Prod.snd r), r_3)) fun (r_4 : Int) => Option.some (r_4, Bool.true, Prod.snd (Prod.snd (Prod.snd r)))

noncomputable def cx_impl_GetOf : Cx := ⟨tb, lookE [(55, e_impl_chosen), (63, e_goquery_Selection_Length), (65, e_goquery_Selection_Get), (64, e_impl_placeOf)]⟩

theorem ck_impl_GetOf : CxOK Try.prog (cx_impl_GetOf) := cx_ok tb_ok (.cons ok_impl_chosen Try.call55 (.cons ok_goquery_Selection_Length Try.call63 (.cons ok_goquery_Selection_Get Try.call65 (.cons ok_impl_placeOf Try.call64 .nil))))

noncomputable def e_impl_GetOf : Ent := ⟨0, p_impl_GetOf, q_impl_GetOf, m_impl_GetOf⟩
theorem ok_impl_GetOf : FnOK Try.prog 31 e_impl_GetOf := fn_ok (L := lookL []) ck_impl_GetOf mixed Try.func31 rfl (by kernel_rfl) (by kernel_rfl) (ls_ok (l := []) (by kernel_rfl) .nil) (by intro x; kernel_rfl)

abbrev p_impl_GetOf_f : Pt := [(0, .lst .node), (1, .lst .int), (2, .int .i64)]
abbrev q_impl_GetOf_f : Pt := [(0, .int .i64), (1, .bool)]
noncomputable def m_impl_GetOf_f : Tup p_impl_GetOf_f → Option (Tup q_impl_GetOf_f) := frT 0 p_impl_GetOf_f q_impl_GetOf_f 133 129 (m_impl_GetOf)
noncomputable def e_impl_GetOf_f : Ent := ⟨0, p_impl_GetOf_f, q_impl_GetOf_f, m_impl_GetOf_f⟩
theorem ok_impl_GetOf_f : FnOK Try.prog 31 e_impl_GetOf_f := fresh_ok (np := 0) (p := p_impl_GetOf_f) (q := q_impl_GetOf_f) (m := m_impl_GetOf) ok_impl_GetOf (by kernel_rfl) (by kernel_rfl)

/-! (*goquery.Selection).IndexOfNode -/
abbrev p_goquery_Selection_IndexOfNode : Pt := [(0, .fp (.rc .nps [] 2)), (1, .np)]
abbrev q_goquery_Selection_IndexOfNode : Pt := [(0, .int .i64)]

noncomputable def m_goquery_Selection_IndexOfNode : Tup p_goquery_Selection_IndexOfNode → Option (Tup q_goquery_Selection_IndexOfNode) := fun (x : List (Option Nat) × Option Nat) => Option.bind (m_goquery_indexInSlice (Prod.fst x, Prod.snd x)) fun (r : Int) => Option.some r

noncomputable def cx_goquery_Selection_IndexOfNode : Cx := ⟨tb, lookE [(101, e_goquery_indexInSlice)]⟩

theorem ck_goquery_Selection_IndexOfNode : CxOK Try.prog (cx_goquery_Selection_IndexOfNode) := cx_ok tb_ok (.cons ok_goquery_indexInSlice Try.call101 .nil)

noncomputable def e_goquery_Selection_IndexOfNode : Ent := ⟨0, p_goquery_Selection_IndexOfNode, q_goquery_Selection_IndexOfNode, m_goquery_Selection_IndexOfNode⟩
theorem ok_goquery_Selection_IndexOfNode : FnOK Try.prog 56 e_goquery_Selection_IndexOfNode := fn_ok (L := lookL []) ck_goquery_Selection_IndexOfNode mixed Try.func56 rfl (by kernel_rfl) (by kernel_rfl) (ls_ok (l := []) (by kernel_rfl) .nil) (by intro x; kernel_rfl)

/-! impl.IndexOf -/
abbrev p_impl_IndexOf : Pt := [(0, .lst .node), (1, .lst .int), (2, .int .i64), (NT, .ns 133 129)]
abbrev q_impl_IndexOf : Pt := [(0, .int .i64), (1, .bool), (NT, .ns 133 129)]

noncomputable def m_impl_IndexOf : Tup p_impl_IndexOf → Option (Tup q_impl_IndexOf) := fun (x : List Node × List Int × Int × List HN) => Option.bind (m_impl_chosen (Prod.fst x, Prod.fst (Prod.snd x), Prod.snd (Prod.snd (Prod.snd x)))) fun (r : List (Option Nat) × List (Option Nat) × Bool × List HN) => bif !Prod.fst (Prod.snd (Prod.snd r)) then Option.some ((0 : Int), Bool.false, Prod.snd (Prod.snd (Prod.snd r))) else bif Decidable.decide (Prod.fst (Prod.snd (Prod.snd x)) < (0 : Int)) then Option.some ((0 : Int), Bool.false, Prod.snd (Prod.snd (Prod.snd r))) else bif Decidable.decide ((↑(List.length (Prod.fst (Prod.snd r))) : Int) ≤ Prod.fst (Prod.snd (Prod.snd x))) then Option.some ((0 : Int), Bool.false, Prod.snd (Prod.snd (Prod.snd r))) else Option.bind (atI (Prod.fst (Prod.snd r)) (Prod.fst (Prod.snd (Prod.snd x)))) fun (v : Option Nat) => Option.bind (m_goquery_Selection_IndexOfNode (Prod.fst r, v)) fun (r_1 : Int) => Option.some (r_1, Bool.true, Prod.snd (Prod.snd (Prod.snd r)))

noncomputable def cx_impl_IndexOf : Cx := ⟨tb, lookE [(55, e_impl_chosen), (56, e_goquery_Selection_IndexOfNode)]⟩

theorem ck_impl_IndexOf : CxOK Try.prog (cx_impl_IndexOf) := cx_ok tb_ok (.cons ok_impl_chosen Try.call55 (.cons ok_goquery_Selection_IndexOfNode Try.call56 .nil))

noncomputable def e_impl_IndexOf : Ent := ⟨0, p_impl_IndexOf, q_impl_IndexOf, m_impl_IndexOf⟩
theorem ok_impl_IndexOf : FnOK Try.prog 25 e_impl_IndexOf := fn_ok (L := lookL []) ck_impl_IndexOf mixed Try.func25 rfl (by kernel_rfl) (by kernel_rfl) (ls_ok (l := []) (by kernel_rfl) .nil) (by intro x; kernel_rfl)

abbrev p_impl_IndexOf_f : Pt := [(0, .lst .node), (1, .lst .int), (2, .int .i64)]
abbrev q_impl_IndexOf_f : Pt := [(0, .int .i64), (1, .bool)]
noncomputable def m_impl_IndexOf_f : Tup p_impl_IndexOf_f → Option (Tup q_impl_IndexOf_f) := frT 0 p_impl_IndexOf_f q_impl_IndexOf_f 133 129 (m_impl_IndexOf)
noncomputable def e_impl_IndexOf_f : Ent := ⟨0, p_impl_IndexOf_f, q_impl_IndexOf_f, m_impl_IndexOf_f⟩
theorem ok_impl_IndexOf_f : FnOK Try.prog 25 e_impl_IndexOf_f := fresh_ok (np := 0) (p := p_impl_IndexOf_f) (q := q_impl_IndexOf_f) (m := m_impl_IndexOf) ok_impl_IndexOf (by kernel_rfl) (by kernel_rfl)

/-! goquery.nodeContains -/
abbrev p_goquery_nodeContains : Pt := [(0, .np), (1, .np), (NTR, .nsr)]
abbrev q_goquery_nodeContains : Pt := [(0, .bool)]

abbrev p_goquery_nodeContains_0 : Pt := [(0, .np), (1, .np), (NTR, .nsr)]
abbrev x_goquery_nodeContains_0 : List (Xt × Pt) := [(.ex 0, [(NTR, .nsr)]), (.rt, [(4, .bool), (NTR, .nsr)])]
noncomputable def m_goquery_nodeContains_0 : Tup p_goquery_nodeContains_0 → Option (Stp (Tup p_goquery_nodeContains_0) (SumT (x_goquery_nodeContains_0.map (·.2)))) := fun (x : Option Nat × Option Nat × List HN) => bif !Option.isNone (Prod.fst (Prod.snd x)) then bif Decidable.decide (Prod.fst x = Prod.fst (Prod.snd x)) then Option.some (Stp.out (Sum.inr (Bool.true, Prod.snd (Prod.snd x)))) else Option.bind (Prod.fst (Prod.snd x)) fun (i : Nat) => Option.bind (Option.some i) fun (i : Nat) => Option.bind (Prod.snd (Prod.snd x))[i]? fun (h : HN) => Option.some (Stp.nx (Prod.fst x, HN.par h, Prod.snd (Prod.snd x))) else Option.some (Stp.out (Sum.inl (Prod.snd (Prod.snd x))))

noncomputable def m_goquery_nodeContains : Tup p_goquery_nodeContains → Option (Tup q_goquery_nodeContains) := fun (x : Option Nat × Option Nat × List HN) => Option.bind (Prod.fst (Prod.snd x)) fun (i : Nat) => Option.bind (Option.some i) fun (i : Nat) => Option.bind (Prod.snd (Prod.snd x))[i]? fun (h : HN) => Option.bind (loopO m_goquery_nodeContains_0 (Prod.fst x, HN.par h, Prod.snd (Prod.snd x))) fun (y : List HN ⊕ Bool × List HN) => selim (fun (y : List HN) => Option.some Bool.false) (fun (y : Bool × List HN) => Option.some (Prod.fst y)) y

noncomputable def cx_goquery_nodeContains : Cx := ⟨tb, lookE []⟩

theorem ck_goquery_nodeContains : CxOK Try.prog (cx_goquery_nodeContains) := cx_ok tb_ok .nil

noncomputable def c_goquery_nodeContains_0 : Code := loopAt (Go.Proofs.Try.f112.body.getD .skip) 0

noncomputable def l_goquery_nodeContains_0 : LEnt := ⟨p_goquery_nodeContains_0, x_goquery_nodeContains_0, loopO (m_goquery_nodeContains_0)⟩

theorem lo_goquery_nodeContains_0 : LOK Try.prog 18 0 false (l_goquery_nodeContains_0) c_goquery_nodeContains_0 := loop_ok (body := m_goquery_nodeContains_0) (L := lookL []) (ck_goquery_nodeContains) mixed (ls_ok (l := []) (by kernel_rfl) .nil) (by intro x; kernel_rfl) (fun x y h => loopO_iff.1 h)

noncomputable def e_goquery_nodeContains : Ent := ⟨0, p_goquery_nodeContains, q_goquery_nodeContains, m_goquery_nodeContains⟩
theorem ok_goquery_nodeContains : FnOK Try.prog 112 e_goquery_nodeContains := fn_ok (L := lookL [(0, l_goquery_nodeContains_0)]) ck_goquery_nodeContains mixed Try.func112 rfl (by kernel_rfl) (by kernel_rfl) (ls_ok (l := [(0, c_goquery_nodeContains_0)]) (by kernel_rfl) (.cons rfl (lo_goquery_nodeContains_0) .nil)) (by intro x; kernel_rfl)

/-! goquery.sliceContains -/
abbrev p_goquery_sliceContains : Pt := [(0, .lst .np), (1, .np), (NTR, .nsr)]
abbrev q_goquery_sliceContains : Pt := [(0, .bool)]

abbrev p_goquery_sliceContains_0 : Pt := [(1, .np), (7, .lst .np), (8, .int .i64), (9, .int .i64), (NTR, .nsr)]
abbrev x_goquery_sliceContains_0 : List (Xt × Pt) := [(.ex 0, [(NTR, .nsr)]), (.rt, [(4, .bool), (NTR, .nsr)])]
noncomputable def m_goquery_sliceContains_0 : Tup p_goquery_sliceContains_0 → Option (Stp (Tup p_goquery_sliceContains_0) (SumT (x_goquery_sliceContains_0.map (·.2)))) := fun (x : Option Nat × List (Option Nat) × Int × Int × List HN) => bif Decidable.decide (Prod.fst (Prod.snd (Prod.snd (Prod.snd x))) < Prod.fst (Prod.snd (Prod.snd x))) then Option.bind (atI (Prod.fst (Prod.snd x)) (Prod.fst (Prod.snd (Prod.snd (Prod.snd x))))) fun (v : Option Nat) => Option.bind (m_goquery_nodeContains (v, Prod.fst x, Prod.snd (Prod.snd (Prod.snd (Prod.snd x))))) fun (r : Bool) => bif r then Option.some (Stp.out (Sum.inr (Bool.true, Prod.snd (Prod.snd (Prod.snd (Prod.snd x)))))) else Option.some (Stp.nx (Prod.fst x, Prod.fst (Prod.snd x), Prod.fst (Prod.snd (Prod.snd x)), Go.IntKind.wrap Go.IntKind.i64 (Prod.fst (Prod.snd (Prod.snd (Prod.snd x))) + (1 : Int)), Prod.snd (Prod.snd (Prod.snd (Prod.snd x))))) else Option.some (Stp.out (Sum.inl (Prod.snd (Prod.snd (Prod.snd (Prod.snd x))))))

noncomputable def m_goquery_sliceContains : Tup p_goquery_sliceContains → Option (Tup q_goquery_sliceContains) := fun (x : List (Option Nat) × Option Nat × List HN) => Option.bind (loopO m_goquery_sliceContains_0 (Prod.fst (Prod.snd x), Prod.fst x, (↑(List.length (Prod.fst x)) : Int), (0 : Int), Prod.snd (Prod.snd x))) fun (y : List HN ⊕ Bool × List HN) => selim (fun (y : List HN) => Option.some Bool.false) (fun (y : Bool × List HN) => Option.some (Prod.fst y)) y

noncomputable def cx_goquery_sliceContains : Cx := ⟨tb, lookE [(112, e_goquery_nodeContains)]⟩

theorem ck_goquery_sliceContains : CxOK Try.prog (cx_goquery_sliceContains) := cx_ok tb_ok (.cons ok_goquery_nodeContains Try.call112 .nil)

noncomputable def c_goquery_sliceContains_0 : Code := loopAt (Go.Proofs.Try.f110.body.getD .skip) 0

noncomputable def l_goquery_sliceContains_0 : LEnt := ⟨p_goquery_sliceContains_0, x_goquery_sliceContains_0, loopO (m_goquery_sliceContains_0)⟩

theorem lo_goquery_sliceContains_0 : LOK Try.prog 17 0 false (l_goquery_sliceContains_0) c_goquery_sliceContains_0 := loop_ok (body := m_goquery_sliceContains_0) (L := lookL []) (ck_goquery_sliceContains) mixed (ls_ok (l := []) (by kernel_rfl) .nil) (by intro x; kernel_rfl) (fun x y h => loopO_iff.1 h)

noncomputable def e_goquery_sliceContains : Ent := ⟨0, p_goquery_sliceContains, q_goquery_sliceContains, m_goquery_sliceContains⟩
theorem ok_goquery_sliceContains : FnOK Try.prog 110 e_goquery_sliceContains := fn_ok (L := lookL [(0, l_goquery_sliceContains_0)]) ck_goquery_sliceContains mixed Try.func110 rfl (by kernel_rfl) (by kernel_rfl) (ls_ok (l := [(0, c_goquery_sliceContains_0)]) (by kernel_rfl) (.cons rfl (lo_goquery_sliceContains_0) .nil)) (by intro x; kernel_rfl)

/-! (*goquery.Selection).Contains -/
abbrev p_goquery_Selection_Contains : Pt := [(0, .fp (.rc .nps [] 2)), (1, .np), (NTR, .nsr)]
abbrev q_goquery_Selection_Contains : Pt := [(0, .bool)]

noncomputable def m_goquery_Selection_Contains : Tup p_goquery_Selection_Contains → Option (Tup q_goquery_Selection_Contains) := fun (x : List (Option Nat) × Option Nat × List HN) => Option.bind (m_goquery_sliceContains (Prod.fst x, Prod.fst (Prod.snd x), Prod.snd (Prod.snd x))) fun (r : Bool) => Option.some r

noncomputable def cx_goquery_Selection_Contains : Cx := ⟨tb, lookE [(110, e_goquery_sliceContains)]⟩

theorem ck_goquery_Selection_Contains : CxOK Try.prog (cx_goquery_Selection_Contains) := cx_ok tb_ok (.cons ok_goquery_sliceContains Try.call110 .nil)

noncomputable def e_goquery_Selection_Contains : Ent := ⟨0, p_goquery_Selection_Contains, q_goquery_Selection_Contains, m_goquery_Selection_Contains⟩
theorem ok_goquery_Selection_Contains : FnOK Try.prog 66 e_goquery_Selection_Contains := fn_ok (L := lookL []) ck_goquery_Selection_Contains mixed Try.func66 rfl (by kernel_rfl) (by kernel_rfl) (ls_ok (l := []) (by kernel_rfl) .nil) (by intro x; kernel_rfl)

/-! impl.Contains -/
abbrev p_impl_Contains : Pt := [(0, .lst .node), (1, .lst .int), (2, .int .i64), (NT, .ns 133 129)]
abbrev q_impl_Contains : Pt := [(0, .bool), (1, .bool), (NT, .ns 133 129)]

noncomputable def m_impl_Contains : Tup p_impl_Contains → Option (Tup q_impl_Contains) := fun (x : List Node × List Int × Int × List HN) => Option.bind (m_impl_chosen (Prod.fst x, Prod.fst (Prod.snd x), Prod.snd (Prod.snd (Prod.snd x)))) fun (r : List (Option Nat) × List (Option Nat) × Bool × List HN) => bif !Prod.fst (Prod.snd (Prod.snd r)) then Option.some (Bool.false, Bool.false, Prod.snd (Prod.snd (Prod.snd r))) else bif Decidable.decide (Prod.fst (Prod.snd (Prod.snd x)) < (0 : Int)) then Option.some (Bool.false, Bool.false, Prod.snd (Prod.snd (Prod.snd r))) else bif Decidable.decide ((↑(List.length (Prod.fst (Prod.snd r))) : Int) ≤ Prod.fst (Prod.snd (Prod.snd x))) then Option.some (Bool.false, Bool.false, Prod.snd (Prod.snd (Prod.snd r))) else Option.bind (atI (Prod.fst (Prod.snd r)) (Prod.fst (Prod.snd (Prod.snd x)))) fun (v : Option Nat) => Option.bind (m_goquery_Selection_Contains (Prod.fst r, v, Prod.snd (Prod.snd (Prod.snd r)))) fun (r_1 : Bool) => Option.some (r_1, Bool.true, Prod.snd (Prod.snd (Prod.snd r)))

noncomputable def cx_impl_Contains : Cx := ⟨tb, lookE [(55, e_impl_chosen), (66, e_goquery_Selection_Contains)]⟩

theorem ck_impl_Contains : CxOK Try.prog (cx_impl_Contains) := cx_ok tb_ok (.cons ok_impl_chosen Try.call55 (.cons ok_goquery_Selection_Contains Try.call66 .nil))

noncomputable def e_impl_Contains : Ent := ⟨0, p_impl_Contains, q_impl_Contains, m_impl_Contains⟩
theorem ok_impl_Contains : FnOK Try.prog 32 e_impl_Contains := fn_ok (L := lookL []) ck_impl_Contains mixed Try.func32 rfl (by kernel_rfl) (by kernel_rfl) (ls_ok (l := []) (by kernel_rfl) .nil) (by intro x; kernel_rfl)

abbrev p_impl_Contains_f : Pt := [(0, .lst .node), (1, .lst .int), (2, .int .i64)]
abbrev q_impl_Contains_f : Pt := [(0, .bool), (1, .bool)]
noncomputable def m_impl_Contains_f : Tup p_impl_Contains_f → Option (Tup q_impl_Contains_f) := frT 0 p_impl_Contains_f q_impl_Contains_f 133 129 (m_impl_Contains)
noncomputable def e_impl_Contains_f : Ent := ⟨0, p_impl_Contains_f, q_impl_Contains_f, m_impl_Contains_f⟩
theorem ok_impl_Contains_f : FnOK Try.prog 32 e_impl_Contains_f := fresh_ok (np := 0) (p := p_impl_Contains_f) (q := q_impl_Contains_f) (m := m_impl_Contains) ok_impl_Contains (by kernel_rfl) (by kernel_rfl)

/-! goquery.winnowNodes -/
abbrev p_goquery_winnowNodes : Pt := [(0, .fp (.rc .nps [] 2)), (1, .lst .np), (2, .bool)]
abbrev q_goquery_winnowNodes : Pt := [(0, .own .np 75)]

abbrev p_goquery_winnowNodes_0 : Pt := [(1, .lst .np), (2, .bool), (7, .own .np 75), (28, .lst .np), (29, .int .i64), (30, .int .i64)]
abbrev x_goquery_winnowNodes_0 : List (Xt × Pt) := [(.ex 0, [(7, .own .np 75)])]
noncomputable def m_goquery_winnowNodes_0 : Tup p_goquery_winnowNodes_0 → Option (Stp (Tup p_goquery_winnowNodes_0) (SumT (x_goquery_winnowNodes_0.map (·.2)))) := fun (x : List (Option Nat) × Bool × List (Option Nat) × List (Option Nat) × Int × Int) => bif Decidable.decide (Prod.snd (Prod.snd (Prod.snd (Prod.snd (Prod.snd x)))) < Prod.fst (Prod.snd (Prod.snd (Prod.snd (Prod.snd x))))) then Option.bind (atI (Prod.fst (Prod.snd (Prod.snd (Prod.snd x)))) (Prod.snd (Prod.snd (Prod.snd (Prod.snd (Prod.snd x)))))) fun (v : Option Nat) => Option.bind (m_goquery_isInSlice (Prod.fst x, v)) fun (r : Bool) => bif r == Prod.fst (Prod.snd x) then Option.bind (appL (Prod.fst (Prod.snd (Prod.snd x))) [v]) fun (r : List (Option Nat)) => Option.some (Stp.nx (Prod.fst x, Prod.fst (Prod.snd x), r, Prod.fst (Prod.snd (Prod.snd (Prod.snd x))), Prod.fst (Prod.snd (Prod.snd (Prod.snd (Prod.snd x)))), Go.IntKind.wrap Go.IntKind.i64 (Prod.snd (Prod.snd (Prod.snd (Prod.snd (Prod.snd x)))) + (1 : Int)))) else Option.some (Stp.nx (Prod.fst x, Prod.fst (Prod.snd x), Prod.fst (Prod.snd (Prod.snd x)), Prod.fst (Prod.snd (Prod.snd (Prod.snd x))), Prod.fst (Prod.snd (Prod.snd (Prod.snd (Prod.snd x)))), Go.IntKind.wrap Go.IntKind.i64 (Prod.snd (Prod.snd (Prod.snd (Prod.snd (Prod.snd x)))) + (1 : Int)))) else Option.some (Stp.out (Prod.fst (Prod.snd (Prod.snd x))))

abbrev p_goquery_winnowNodes_1 : Pt := [(0, .fp (.rc .nps [] 2)), (2, .bool), (10, .mp), (48, .lst .np), (49, .int .i64), (50, .int .i64)]
abbrev x_goquery_winnowNodes_1 : List (Xt × Pt) := [(.ex 2, [(0, .fp (.rc .nps [] 2)), (2, .bool), (10, .mp)])]
noncomputable def m_goquery_winnowNodes_1 : Tup p_goquery_winnowNodes_1 → Option (Stp (Tup p_goquery_winnowNodes_1) (SumT (x_goquery_winnowNodes_1.map (·.2)))) := fun (x : List (Option Nat) × Bool × List (Option Nat × Bool) × List (Option Nat) × Int × Int) => bif Decidable.decide (Prod.snd (Prod.snd (Prod.snd (Prod.snd (Prod.snd x)))) < Prod.fst (Prod.snd (Prod.snd (Prod.snd (Prod.snd x))))) then Option.bind (atI (Prod.fst (Prod.snd (Prod.snd (Prod.snd x)))) (Prod.snd (Prod.snd (Prod.snd (Prod.snd (Prod.snd x)))))) fun (v : Option Nat) => Option.some (Stp.nx (Prod.fst x, Prod.fst (Prod.snd x), mput (Prod.fst (Prod.snd (Prod.snd x))) v Bool.true, Prod.fst (Prod.snd (Prod.snd (Prod.snd x))), Prod.fst (Prod.snd (Prod.snd (Prod.snd (Prod.snd x)))), Go.IntKind.wrap Go.IntKind.i64 (Prod.snd (Prod.snd (Prod.snd (Prod.snd (Prod.snd x)))) + (1 : Int)))) else Option.some (Stp.out (Prod.fst x, Prod.fst (Prod.snd x), Prod.fst (Prod.snd (Prod.snd x))))

abbrev p_goquery_winnowNodes_2 : Pt := [(2, .bool), (10, .mp), (13, .own .np 75), (60, .lst .np), (61, .int .i64), (62, .int .i64)]
abbrev x_goquery_winnowNodes_2 : List (Xt × Pt) := [(.ex 4, [(13, .own .np 75)])]
noncomputable def m_goquery_winnowNodes_2 : Tup p_goquery_winnowNodes_2 → Option (Stp (Tup p_goquery_winnowNodes_2) (SumT (x_goquery_winnowNodes_2.map (·.2)))) := fun (x : Bool × List (Option Nat × Bool) × List (Option Nat) × List (Option Nat) × Int × Int) => bif Decidable.decide (Prod.snd (Prod.snd (Prod.snd (Prod.snd (Prod.snd x)))) < Prod.fst (Prod.snd (Prod.snd (Prod.snd (Prod.snd x))))) then Option.bind (atI (Prod.fst (Prod.snd (Prod.snd (Prod.snd x)))) (Prod.snd (Prod.snd (Prod.snd (Prod.snd (Prod.snd x)))))) fun (v : Option Nat) => bif mget (Prod.fst (Prod.snd x)) v == Prod.fst x then Option.bind (appL (Prod.fst (Prod.snd (Prod.snd x))) [v]) fun (r : List (Option Nat)) => Option.some (Stp.nx (Prod.fst x, Prod.fst (Prod.snd x), r, Prod.fst (Prod.snd (Prod.snd (Prod.snd x))), Prod.fst (Prod.snd (Prod.snd (Prod.snd (Prod.snd x)))), Go.IntKind.wrap Go.IntKind.i64 (Prod.snd (Prod.snd (Prod.snd (Prod.snd (Prod.snd x)))) + (1 : Int)))) else Option.some (Stp.nx (Prod.fst x, Prod.fst (Prod.snd x), Prod.fst (Prod.snd (Prod.snd x)), Prod.fst (Prod.snd (Prod.snd (Prod.snd x))), Prod.fst (Prod.snd (Prod.snd (Prod.snd (Prod.snd x)))), Go.IntKind.wrap Go.IntKind.i64 (Prod.snd (Prod.snd (Prod.snd (Prod.snd (Prod.snd x)))) + (1 : Int)))) else Option.some (Stp.out (Prod.fst (Prod.snd (Prod.snd x))))

noncomputable def m_goquery_winnowNodes : Tup p_goquery_winnowNodes → Option (Tup q_goquery_winnowNodes) := fun (x : List (Option Nat) × List (Option Nat) × Bool) => bif Decidable.decide (Go.IntKind.wrap Go.IntKind.i64 ((↑(List.length (Prod.fst (Prod.snd x))) : Int) + (↑(List.length (Prod.fst x)) : Int)) < (1000 : Int)) then Option.bind (loopO m_goquery_winnowNodes_0 (Prod.fst (Prod.snd x), Prod.snd (Prod.snd x), [], Prod.fst x, (↑(List.length (Prod.fst x)) : Int), (0 : Int))) fun (y : List (Option Nat)) => Option.some y else Option.bind (loopO m_goquery_winnowNodes_1 (Prod.fst x, Prod.snd (Prod.snd x), [], Prod.fst (Prod.snd x), (↑(List.length (Prod.fst (Prod.snd x))) : Int), (0 : Int))) fun (y : List (Option Nat) × Bool × List (Option Nat × Bool)) => Option.bind (loopO m_goquery_winnowNodes_2 (Prod.fst (Prod.snd y), Prod.snd (Prod.snd y), [], Prod.fst y, (↑(List.length (Prod.fst y)) : Int), (0 : Int))) fun (y : List (Option Nat)) => Option.some y

noncomputable def cx_goquery_winnowNodes : Cx := ⟨tb, lookE [(152, e_goquery_isInSlice)]⟩

theorem ck_goquery_winnowNodes : CxOK Try.prog (cx_goquery_winnowNodes) := cx_ok tb_ok (.cons ok_goquery_isInSlice Try.call152 .nil)

noncomputable def c_goquery_winnowNodes_0 : Code := loopAt (Go.Proofs.Try.f117.body.getD .skip) 0

noncomputable def l_goquery_winnowNodes_0 : LEnt := ⟨p_goquery_winnowNodes_0, x_goquery_winnowNodes_0, loopO (m_goquery_winnowNodes_0)⟩

theorem lo_goquery_winnowNodes_0 : LOK Try.prog 77 0 false (l_goquery_winnowNodes_0) c_goquery_winnowNodes_0 := loop_ok (body := m_goquery_winnowNodes_0) (L := lookL []) (ck_goquery_winnowNodes) mixed (ls_ok (l := []) (by kernel_rfl) .nil) (by intro x; kernel_rfl) (fun x y h => loopO_iff.1 h)

noncomputable def c_goquery_winnowNodes_1 : Code := loopAt (Go.Proofs.Try.f117.body.getD .skip) 1

noncomputable def l_goquery_winnowNodes_1 : LEnt := ⟨p_goquery_winnowNodes_1, x_goquery_winnowNodes_1, loopO (m_goquery_winnowNodes_1)⟩

theorem lo_goquery_winnowNodes_1 : LOK Try.prog 77 0 false (l_goquery_winnowNodes_1) c_goquery_winnowNodes_1 := loop_ok (body := m_goquery_winnowNodes_1) (L := lookL []) (ck_goquery_winnowNodes) mixed (ls_ok (l := []) (by kernel_rfl) .nil) (by intro x; kernel_rfl) (fun x y h => loopO_iff.1 h)

noncomputable def c_goquery_winnowNodes_2 : Code := loopAt (Go.Proofs.Try.f117.body.getD .skip) 2

noncomputable def l_goquery_winnowNodes_2 : LEnt := ⟨p_goquery_winnowNodes_2, x_goquery_winnowNodes_2, loopO (m_goquery_winnowNodes_2)⟩

theorem lo_goquery_winnowNodes_2 : LOK Try.prog 77 0 false (l_goquery_winnowNodes_2) c_goquery_winnowNodes_2 := loop_ok (body := m_goquery_winnowNodes_2) (L := lookL []) (ck_goquery_winnowNodes) mixed (ls_ok (l := []) (by kernel_rfl) .nil) (by intro x; kernel_rfl) (fun x y h => loopO_iff.1 h)

noncomputable def e_goquery_winnowNodes : Ent := ⟨0, p_goquery_winnowNodes, q_goquery_winnowNodes, m_goquery_winnowNodes⟩
theorem ok_goquery_winnowNodes : FnOK Try.prog 117 e_goquery_winnowNodes := fn_ok (L := lookL [(0, l_goquery_winnowNodes_0), (2, l_goquery_winnowNodes_1), (4, l_goquery_winnowNodes_2)]) ck_goquery_winnowNodes mixed Try.func117 rfl (by kernel_rfl) (by kernel_rfl) (ls_ok (l := [(0, c_goquery_winnowNodes_0), (2, c_goquery_winnowNodes_1), (4, c_goquery_winnowNodes_2)]) (by kernel_rfl) (.cons rfl (lo_goquery_winnowNodes_0) (.cons rfl (lo_goquery_winnowNodes_1) (.cons rfl (lo_goquery_winnowNodes_2) .nil)))) (by intro x; kernel_rfl)

/-! (*goquery.Selection).FilterNodes -/
abbrev p_goquery_Selection_FilterNodes : Pt := [(0, .fp (.rc .nps [] 2)), (1, .lst .np)]
abbrev q_goquery_Selection_FilterNodes : Pt := [(0, .fp (.rc .nps [] 2))]

noncomputable def m_goquery_Selection_FilterNodes : Tup p_goquery_Selection_FilterNodes → Option (Tup q_goquery_Selection_FilterNodes) := fun (x : List (Option Nat) × List (Option Nat)) => Option.bind (m_goquery_winnowNodes (Prod.fst x, Prod.snd x, Bool.true)) fun (r : List (Option Nat)) => Option.bind (m_goquery_pushStack (Prod.fst x, r)) fun (r : List (Option Nat)) => Option.some r

noncomputable def cx_goquery_Selection_FilterNodes : Cx := ⟨tb, lookE [(117, e_goquery_winnowNodes), (113, e_goquery_pushStack)]⟩

theorem ck_goquery_Selection_FilterNodes : CxOK Try.prog (cx_goquery_Selection_FilterNodes) := cx_ok tb_ok (.cons ok_goquery_winnowNodes Try.call117 (.cons ok_goquery_pushStack Try.call113 .nil))

noncomputable def e_goquery_Selection_FilterNodes : Ent := ⟨0, p_goquery_Selection_FilterNodes, q_goquery_Selection_FilterNodes, m_goquery_Selection_FilterNodes⟩
theorem ok_goquery_Selection_FilterNodes : FnOK Try.prog 82 e_goquery_Selection_FilterNodes := fn_ok (L := lookL []) ck_goquery_Selection_FilterNodes mixed Try.func82 rfl (by kernel_rfl) (by kernel_rfl) (ls_ok (l := []) (by kernel_rfl) .nil) (by intro x; kernel_rfl)

/-! (*goquery.Selection).NotNodes -/
abbrev p_goquery_Selection_NotNodes : Pt := [(0, .fp (.rc .nps [] 2)), (1, .lst .np)]
abbrev q_goquery_Selection_NotNodes : Pt := [(0, .fp (.rc .nps [] 2))]

noncomputable def m_goquery_Selection_NotNodes : Tup p_goquery_Selection_NotNodes → Option (Tup q_goquery_Selection_NotNodes) := fun (x : List (Option Nat) × List (Option Nat)) => Option.bind (m_goquery_winnowNodes (Prod.fst x, Prod.snd x, Bool.false)) fun (r : List (Option Nat)) => Option.bind (m_goquery_pushStack (Prod.fst x, r)) fun (r : List (Option Nat)) => Option.some r

noncomputable def cx_goquery_Selection_NotNodes : Cx := ⟨tb, lookE [(117, e_goquery_winnowNodes), (113, e_goquery_pushStack)]⟩

theorem ck_goquery_Selection_NotNodes : CxOK Try.prog (cx_goquery_Selection_NotNodes) := cx_ok tb_ok (.cons ok_goquery_winnowNodes Try.call117 (.cons ok_goquery_pushStack Try.call113 .nil))

noncomputable def e_goquery_Selection_NotNodes : Ent := ⟨0, p_goquery_Selection_NotNodes, q_goquery_Selection_NotNodes, m_goquery_Selection_NotNodes⟩
theorem ok_goquery_Selection_NotNodes : FnOK Try.prog 83 e_goquery_Selection_NotNodes := fn_ok (L := lookL []) ck_goquery_Selection_NotNodes mixed Try.func83 rfl (by kernel_rfl) (by kernel_rfl) (ls_ok (l := []) (by kernel_rfl) .nil) (by intro x; kernel_rfl)

/-! impl.FilterOf -/
abbrev p_impl_FilterOf : Pt := [(0, .lst .node), (1, .lst .int), (2, .lst .int), (NT, .ns 133 129)]
abbrev q_impl_FilterOf : Pt := [(0, .own .int 3), (1, .bool), (NT, .ns 133 129)]

noncomputable def m_impl_FilterOf : Tup p_impl_FilterOf → Option (Tup q_impl_FilterOf) := fun (x : List Node × List Int × List Int × List HN) => Option.bind (m_impl_chosen (Prod.fst x, Prod.fst (Prod.snd x), Prod.snd (Prod.snd (Prod.snd x)))) fun (r : List (Option Nat) × List (Option Nat) × Bool × List HN) => Option.bind (m_impl_these (Prod.fst (Prod.snd r), Prod.fst (Prod.snd (Prod.snd x)))) fun (r_1 : List (Option Nat) × Bool) => bif !Prod.fst (Prod.snd (Prod.snd r)) then Option.some ([], Bool.false, Prod.snd (Prod.snd (Prod.snd r))) else bif !Prod.snd r_1 then Option.some ([], Bool.false, Prod.snd (Prod.snd (Prod.snd r))) else Option.bind (m_goquery_Selection_FilterNodes (Prod.fst r, Prod.fst r_1)) fun (r_2 : List (Option Nat)) => Option.bind (m_impl_placesOf (Prod.fst (Prod.snd r), r_2)) fun (r_3 : List Int) => Option.some (r_3, Bool.true, Prod.snd (Prod.snd (Prod.snd r)))

noncomputable def cx_impl_FilterOf : Cx := ⟨tb, lookE [(55, e_impl_chosen), (75, e_impl_these), (82, e_goquery_Selection_FilterNodes), (71, e_impl_placesOf)]⟩

theorem ck_impl_FilterOf : CxOK Try.prog (cx_impl_FilterOf) := cx_ok tb_ok (.cons ok_impl_chosen Try.call55 (.cons ok_impl_these Try.call75 (.cons ok_goquery_Selection_FilterNodes Try.call82 (.cons ok_impl_placesOf Try.call71 .nil))))

noncomputable def e_impl_FilterOf : Ent := ⟨0, p_impl_FilterOf, q_impl_FilterOf, m_impl_FilterOf⟩
theorem ok_impl_FilterOf : FnOK Try.prog 44 e_impl_FilterOf := fn_ok (L := lookL []) ck_impl_FilterOf mixed Try.func44 rfl (by kernel_rfl) (by kernel_rfl) (ls_ok (l := []) (by kernel_rfl) .nil) (by intro x; kernel_rfl)

abbrev p_impl_FilterOf_f : Pt := [(0, .lst .node), (1, .lst .int), (2, .lst .int)]
abbrev q_impl_FilterOf_f : Pt := [(0, .own .int 3), (1, .bool)]
noncomputable def m_impl_FilterOf_f : Tup p_impl_FilterOf_f → Option (Tup q_impl_FilterOf_f) := frT 0 p_impl_FilterOf_f q_impl_FilterOf_f 133 129 (m_impl_FilterOf)
noncomputable def e_impl_FilterOf_f : Ent := ⟨0, p_impl_FilterOf_f, q_impl_FilterOf_f, m_impl_FilterOf_f⟩
theorem ok_impl_FilterOf_f : FnOK Try.prog 44 e_impl_FilterOf_f := fresh_ok (np := 0) (p := p_impl_FilterOf_f) (q := q_impl_FilterOf_f) (m := m_impl_FilterOf) ok_impl_FilterOf (by kernel_rfl) (by kernel_rfl)

/-! impl.NotOf -/
abbrev p_impl_NotOf : Pt := [(0, .lst .node), (1, .lst .int), (2, .lst .int), (NT, .ns 133 129)]
abbrev q_impl_NotOf : Pt := [(0, .own .int 3), (1, .bool), (NT, .ns 133 129)]

noncomputable def m_impl_NotOf : Tup p_impl_NotOf → Option (Tup q_impl_NotOf) := fun (x : List Node × List Int × List Int × List HN) => Option.bind (m_impl_chosen (Prod.fst x, Prod.fst (Prod.snd x), Prod.snd (Prod.snd (Prod.snd x)))) fun (r : List (Option Nat) × List (Option Nat) × Bool × List HN) => Option.bind (m_impl_these (Prod.fst (Prod.snd r), Prod.fst (Prod.snd (Prod.snd x)))) fun (r_1 : List (Option Nat) × Bool) => bif !Prod.fst (Prod.snd (Prod.snd r)) then Option.some ([], Bool.false, Prod.snd (Prod.snd (Prod.snd r))) else bif !Prod.snd r_1 then Option.some ([], Bool.false, Prod.snd (Prod.snd (Prod.snd r))) else Option.bind (m_goquery_Selection_NotNodes (Prod.fst r, Prod.fst r_1)) fun (r_2 : List (Option Nat)) => Option.bind (m_impl_placesOf (Prod.fst (Prod.snd r), r_2)) fun (r_3 : List Int) => Option.some (r_3, Bool.true, Prod.snd (Prod.snd (Prod.snd r)))

noncomputable def cx_impl_NotOf : Cx := ⟨tb, lookE [(55, e_impl_chosen), (75, e_impl_these), (83, e_goquery_Selection_NotNodes), (71, e_impl_placesOf)]⟩

theorem ck_impl_NotOf : CxOK Try.prog (cx_impl_NotOf) := cx_ok tb_ok (.cons ok_impl_chosen Try.call55 (.cons ok_impl_these Try.call75 (.cons ok_goquery_Selection_NotNodes Try.call83 (.cons ok_impl_placesOf Try.call71 .nil))))

noncomputable def e_impl_NotOf : Ent := ⟨0, p_impl_NotOf, q_impl_NotOf, m_impl_NotOf⟩
theorem ok_impl_NotOf : FnOK Try.prog 45 e_impl_NotOf := fn_ok (L := lookL []) ck_impl_NotOf mixed Try.func45 rfl (by kernel_rfl) (by kernel_rfl) (ls_ok (l := []) (by kernel_rfl) .nil) (by intro x; kernel_rfl)

abbrev p_impl_NotOf_f : Pt := [(0, .lst .node), (1, .lst .int), (2, .lst .int)]
abbrev q_impl_NotOf_f : Pt := [(0, .own .int 3), (1, .bool)]
noncomputable def m_impl_NotOf_f : Tup p_impl_NotOf_f → Option (Tup q_impl_NotOf_f) := frT 0 p_impl_NotOf_f q_impl_NotOf_f 133 129 (m_impl_NotOf)
noncomputable def e_impl_NotOf_f : Ent := ⟨0, p_impl_NotOf_f, q_impl_NotOf_f, m_impl_NotOf_f⟩
theorem ok_impl_NotOf_f : FnOK Try.prog 45 e_impl_NotOf_f := fresh_ok (np := 0) (p := p_impl_NotOf_f) (q := q_impl_NotOf_f) (m := m_impl_NotOf) ok_impl_NotOf (by kernel_rfl) (by kernel_rfl)

end Go.Proofs.Ytnggneccdekofaa.V
