/-
  Models of functions, and that they are what the code does (written by a program).
-/
import Derived.Test.YtfmlpodcldhgdaaKTab
import Derived.Test.YtfmlpodcldhgdaaSpecA
import Derived.Test.YtfmlpodcldhgdaaSpecB
import Derived.Test.YtfmlpodcldhgdaaImplA
set_option linter.unusedVariables false
set_option linter.unusedSimpArgs false
namespace Go.Proofs.Ytfmlpodcldhgdaa.V
open Go Go.Proofs

/-! goquery.newSingleSelection -/
abbrev p_goquery_newSingleSelection : Pt := [(0, .np), (1, .any)]
abbrev q_goquery_newSingleSelection : Pt := [(0, .fp (.rc .nps [] 2))]

noncomputable def m_goquery_newSingleSelection : Tup p_goquery_newSingleSelection → Option (Tup q_goquery_newSingleSelection) := fun (x : Option Nat × PUnit) => Option.some [Prod.fst x]

noncomputable def cx_goquery_newSingleSelection : Cx := ⟨tb, lookE [], lookS []⟩

theorem ck_goquery_newSingleSelection : CxOK Try.prog (cx_goquery_newSingleSelection) := cx_ok tb_ok .nil

noncomputable def e_goquery_newSingleSelection : Ent := ⟨0, p_goquery_newSingleSelection, q_goquery_newSingleSelection, m_goquery_newSingleSelection⟩
theorem ok_goquery_newSingleSelection : FnOK Try.prog 122 e_goquery_newSingleSelection := fn_ok (L := lookL []) ck_goquery_newSingleSelection mixed Try.func122 rfl (by kernel_rfl) (by kernel_rfl) (ls_ok (l := []) (by kernel_rfl) .nil) (by intro x; kernel_rfl)

/-! goquery.newDocument -/
abbrev p_goquery_newDocument : Pt := [(0, .np)]
abbrev q_goquery_newDocument : Pt := [(0, .fp (.rc .fsel [.np] 0))]

noncomputable def m_goquery_newDocument : Tup p_goquery_newDocument → Option (Tup q_goquery_newDocument) := fun (x : Option Nat) => Option.bind (m_goquery_newSingleSelection (x, ())) fun (r : List (Option Nat)) => Option.some (r, x)

noncomputable def cx_goquery_newDocument : Cx := ⟨tb, lookE [(122, e_goquery_newSingleSelection)], lookS []⟩

theorem ck_goquery_newDocument : CxOK Try.prog (cx_goquery_newDocument) := cx_ok tb_ok (.cons ok_goquery_newSingleSelection Try.call122 .nil)

noncomputable def e_goquery_newDocument : Ent := ⟨0, p_goquery_newDocument, q_goquery_newDocument, m_goquery_newDocument⟩
theorem ok_goquery_newDocument : FnOK Try.prog 128 e_goquery_newDocument := fn_ok (L := lookL []) ck_goquery_newDocument mixed Try.func128 rfl (by kernel_rfl) (by kernel_rfl) (ls_ok (l := []) (by kernel_rfl) .nil) (by intro x; kernel_rfl)

/-! goquery.NewDocumentFromNode -/
abbrev p_goquery_NewDocumentFromNode : Pt := [(0, .np)]
abbrev q_goquery_NewDocumentFromNode : Pt := [(0, .fp (.rc .fsel [.np] 0))]

noncomputable def m_goquery_NewDocumentFromNode : Tup p_goquery_NewDocumentFromNode → Option (Tup q_goquery_NewDocumentFromNode) := fun (x : Option Nat) => Option.bind (m_goquery_newDocument x) fun (r : List (Option Nat) × Option Nat) => Option.some (Prod.fst r, Prod.snd r)

noncomputable def cx_goquery_NewDocumentFromNode : Cx := ⟨tb, lookE [(128, e_goquery_newDocument)], lookS []⟩

theorem ck_goquery_NewDocumentFromNode : CxOK Try.prog (cx_goquery_NewDocumentFromNode) := cx_ok tb_ok (.cons ok_goquery_newDocument Try.call128 .nil)

noncomputable def e_goquery_NewDocumentFromNode : Ent := ⟨0, p_goquery_NewDocumentFromNode, q_goquery_NewDocumentFromNode, m_goquery_NewDocumentFromNode⟩
theorem ok_goquery_NewDocumentFromNode : FnOK Try.prog 102 e_goquery_NewDocumentFromNode := fn_ok (L := lookL []) ck_goquery_NewDocumentFromNode mixed Try.func102 rfl (by kernel_rfl) (by kernel_rfl) (ls_ok (l := []) (by kernel_rfl) .nil) (by intro x; kernel_rfl)

/-! goquery.newEmptySelection -/
abbrev p_goquery_newEmptySelection : Pt := [(0, .any)]
abbrev q_goquery_newEmptySelection : Pt := [(0, .fp (.rc .nil [] 2))]

noncomputable def m_goquery_newEmptySelection : Tup p_goquery_newEmptySelection → Option (Tup q_goquery_newEmptySelection) := fun (x : PUnit) => Option.some PUnit.unit

noncomputable def cx_goquery_newEmptySelection : Cx := ⟨tb, lookE [], lookS []⟩

theorem ck_goquery_newEmptySelection : CxOK Try.prog (cx_goquery_newEmptySelection) := cx_ok tb_ok .nil

noncomputable def e_goquery_newEmptySelection : Ent := ⟨0, p_goquery_newEmptySelection, q_goquery_newEmptySelection, m_goquery_newEmptySelection⟩
theorem ok_goquery_newEmptySelection : FnOK Try.prog 75 e_goquery_newEmptySelection := fn_ok (L := lookL []) ck_goquery_newEmptySelection mixed Try.func75 rfl (by kernel_rfl) (by kernel_rfl) (ls_ok (l := []) (by kernel_rfl) .nil) (by intro x; kernel_rfl)

/-! goquery.pushStack -/
abbrev p_goquery_pushStack : Pt := [(0, .fp (.rc .nps [] 2)), (1, .lst .np)]
abbrev q_goquery_pushStack : Pt := [(0, .fp (.rc .nps [] 2))]

noncomputable def m_goquery_pushStack : Tup p_goquery_pushStack → Option (Tup q_goquery_pushStack) := fun (x : List (Option Nat) × List (Option Nat)) => Option.some (Prod.snd x)

noncomputable def cx_goquery_pushStack : Cx := ⟨tb, lookE [], lookS []⟩

theorem ck_goquery_pushStack : CxOK Try.prog (cx_goquery_pushStack) := cx_ok tb_ok .nil

noncomputable def e_goquery_pushStack : Ent := ⟨0, p_goquery_pushStack, q_goquery_pushStack, m_goquery_pushStack⟩
theorem ok_goquery_pushStack : FnOK Try.prog 114 e_goquery_pushStack := fn_ok (L := lookL []) ck_goquery_pushStack mixed Try.func114 rfl (by kernel_rfl) (by kernel_rfl) (ls_ok (l := []) (by kernel_rfl) .nil) (by intro x; kernel_rfl)

/-! (*goquery.Selection).Slice -/
abbrev p_goquery_Selection_Slice : Pt := [(0, .fp (.rc .nps [] 2)), (1, .int .i64), (2, .int .i64)]
abbrev q_goquery_Selection_Slice : Pt := [(0, .fp (.rc .nps [] 2))]

noncomputable def m_goquery_Selection_Slice : Tup p_goquery_Selection_Slice → Option (Tup q_goquery_Selection_Slice) := fun (x : List (Option Nat) × Int × Int) => bif Decidable.decide (Prod.fst (Prod.snd x) < (0 : Int)) then bif Decidable.decide (Prod.snd (Prod.snd x) = (9223372036854775807 : Int)) then Option.bind (subL (Prod.fst x) (Go.IntKind.wrap Go.IntKind.i64 (Prod.fst (Prod.snd x) + (↑(List.length (Prod.fst x)) : Int))) (↑(List.length (Prod.fst x)) : Int)) fun (m : List (Option Nat)) => Option.bind (m_goquery_pushStack (Prod.fst x, m)) fun (r : List (Option Nat)) => Option.some r else bif Decidable.decide (Prod.snd (Prod.snd x) < (0 : Int)) then Option.bind (subL (Prod.fst x) (Go.IntKind.wrap Go.IntKind.i64 (Prod.fst (Prod.snd x) + (↑(List.length (Prod.fst x)) : Int))) (Go.IntKind.wrap Go.IntKind.i64 (Prod.snd (Prod.snd x) + (↑(List.length (Prod.fst x)) : Int)))) fun (m : List (Option Nat)) => Option.bind (m_goquery_pushStack (Prod.fst x, m)) fun (r : List (Option Nat)) => Option.some r else Option.bind (subL (Prod.fst x) (Go.IntKind.wrap Go.IntKind.i64 (Prod.fst (Prod.snd x) + (↑(List.length (Prod.fst x)) : Int))) (Prod.snd (Prod.snd x))) fun (m : List (Option Nat)) => Option.bind (m_goquery_pushStack (Prod.fst x, m)) fun (r : List (Option Nat)) => Option.some r else bif Decidable.decide (Prod.snd (Prod.snd x) = (9223372036854775807 : Int)) then Option.bind (subL (Prod.fst x) (Prod.fst (Prod.snd x)) (↑(List.length (Prod.fst x)) : Int)) fun (m : List (Option Nat)) => Option.bind (m_goquery_pushStack (Prod.fst x, m)) fun (r : List (Option Nat)) => Option.some r else bif Decidable.decide (Prod.snd (Prod.snd x) < (0 : Int)) then Option.bind (subL (Prod.fst x) (Prod.fst (Prod.snd x)) (Go.IntKind.wrap Go.IntKind.i64 (Prod.snd (Prod.snd x) + (↑(List.length (Prod.fst x)) : Int)))) fun (m : List (Option Nat)) => Option.bind (m_goquery_pushStack (Prod.fst x, m)) fun (r : List (Option Nat)) => Option.some r else Option.bind (subL (Prod.fst x) (Prod.fst (Prod.snd x)) (Prod.snd (Prod.snd x))) fun (m : List (Option Nat)) => Option.bind (m_goquery_pushStack (Prod.fst x, m)) fun (r : List (Option Nat)) => Option.some r

noncomputable def cx_goquery_Selection_Slice : Cx := ⟨tb, lookE [(114, e_goquery_pushStack)], lookS []⟩

theorem ck_goquery_Selection_Slice : CxOK Try.prog (cx_goquery_Selection_Slice) := cx_ok tb_ok (.cons ok_goquery_pushStack Try.call114 .nil)

noncomputable def e_goquery_Selection_Slice : Ent := ⟨0, p_goquery_Selection_Slice, q_goquery_Selection_Slice, m_goquery_Selection_Slice⟩
theorem ok_goquery_Selection_Slice : FnOK Try.prog 129 e_goquery_Selection_Slice := fn_ok (L := lookL []) ck_goquery_Selection_Slice mixed Try.func129 rfl (by kernel_rfl) (by kernel_rfl) (ls_ok (l := []) (by kernel_rfl) .nil) (by intro x; kernel_rfl)

/-! (*goquery.Selection).Eq@nil -/
abbrev p_goquery_Selection_Eq_nil : Pt := [(0, .fp (.rc .nps [] 2)), (1, .int .i64)]
abbrev q_goquery_Selection_Eq_nil : Pt := [(0, .fp (.rc .nil [] 2))]

noncomputable def m_goquery_Selection_Eq_nil : Tup p_goquery_Selection_Eq_nil → Option (Tup q_goquery_Selection_Eq_nil) := fun (x : List (Option Nat) × Int) => bif Decidable.decide (Prod.snd x < (0 : Int)) then bif Decidable.decide ((↑(List.length (Prod.fst x)) : Int) ≤ Go.IntKind.wrap Go.IntKind.i64 (Prod.snd x + (↑(List.length (Prod.fst x)) : Int))) then Option.bind (m_goquery_newEmptySelection ()) fun (r : PUnit) => Option.some PUnit.unit else bif Decidable.decide (Go.IntKind.wrap Go.IntKind.i64 (Prod.snd x + (↑(List.length (Prod.fst x)) : Int)) < (0 : Int)) then Option.bind (m_goquery_newEmptySelection ()) fun (r : PUnit) => Option.some PUnit.unit else Option.bind (m_goquery_Selection_Slice (Prod.fst x, Go.IntKind.wrap Go.IntKind.i64 (Prod.snd x + (↑(List.length (Prod.fst x)) : Int)), Go.IntKind.wrap Go.IntKind.i64 (Go.IntKind.wrap Go.IntKind.i64 (Prod.snd x + (↑(List.length (Prod.fst x)) : Int)) + (1 : Int)))) fun (r : List (Option Nat)) => Option.none else bif Decidable.decide ((↑(List.length (Prod.fst x)) : Int) ≤ Prod.snd x) then Option.bind (m_goquery_newEmptySelection ()) fun (r : PUnit) => Option.some PUnit.unit else bif Decidable.decide (Prod.snd x < (0 : Int)) then Option.bind (m_goquery_newEmptySelection ()) fun (r : PUnit) => Option.some PUnit.unit else Option.bind (m_goquery_Selection_Slice (Prod.fst x, Prod.snd x, Go.IntKind.wrap Go.IntKind.i64 (Prod.snd x + (1 : Int)))) fun (r : List (Option Nat)) => Option.none

noncomputable def cx_goquery_Selection_Eq_nil : Cx := ⟨tb, lookE [(75, e_goquery_newEmptySelection), (129, e_goquery_Selection_Slice)], lookS []⟩

theorem ck_goquery_Selection_Eq_nil : CxOK Try.prog (cx_goquery_Selection_Eq_nil) := cx_ok tb_ok (.cons ok_goquery_newEmptySelection Try.call75 (.cons ok_goquery_Selection_Slice Try.call129 .nil))

noncomputable def e_goquery_Selection_Eq_nil : Ent := ⟨0, p_goquery_Selection_Eq_nil, q_goquery_Selection_Eq_nil, m_goquery_Selection_Eq_nil⟩
theorem ok_goquery_Selection_Eq_nil : FnOK Try.prog 103 e_goquery_Selection_Eq_nil := fn_ok (L := lookL []) ck_goquery_Selection_Eq_nil mixed Try.func103 rfl (by kernel_rfl) (by kernel_rfl) (ls_ok (l := []) (by kernel_rfl) .nil) (by intro x; kernel_rfl)

/-! goquery.indexInSlice -/
abbrev p_goquery_indexInSlice : Pt := [(0, .lst .np), (1, .np)]
abbrev q_goquery_indexInSlice : Pt := [(0, .int .i64)]

abbrev p_goquery_indexInSlice_0 : Pt := [(1, .np), (9, .lst .np), (10, .int .i64), (11, .int .i64)]
abbrev x_goquery_indexInSlice_0 : List (Xt × Pt) := [(.ex 0, []), (.rt, [(4, .int .i64)])]
noncomputable def m_goquery_indexInSlice_0 : Tup p_goquery_indexInSlice_0 → Option (Stp (Tup p_goquery_indexInSlice_0) (SumT (x_goquery_indexInSlice_0.map (·.2)))) := fun (x : Option Nat × List (Option Nat) × Int × Int) => bif Decidable.decide (Prod.snd (Prod.snd (Prod.snd x)) < Prod.fst (Prod.snd (Prod.snd x))) then Option.bind (atI (Prod.fst (Prod.snd x)) (Prod.snd (Prod.snd (Prod.snd x)))) fun (v : Option Nat) => bif Decidable.decide (v = Prod.fst x) then Option.some (Stp.out (Sum.inr (Prod.snd (Prod.snd (Prod.snd x))))) else Option.some (Stp.nx (Prod.fst x, Prod.fst (Prod.snd x), Prod.fst (Prod.snd (Prod.snd x)), Go.IntKind.wrap Go.IntKind.i64 (Prod.snd (Prod.snd (Prod.snd x)) + (1 : Int)))) else Option.some (Stp.out (Sum.inl PUnit.unit))

noncomputable def m_goquery_indexInSlice : Tup p_goquery_indexInSlice → Option (Tup q_goquery_indexInSlice) := fun (x : List (Option Nat) × Option Nat) => bif !Option.isNone (Prod.snd x) then Option.bind (loopO m_goquery_indexInSlice_0 (Prod.snd x, Prod.fst x, (↑(List.length (Prod.fst x)) : Int), (0 : Int))) fun (y : PUnit ⊕ Int) => selim (fun (y : PUnit) => Option.some (-1 : Int)) (fun (y : Int) => Option.some y) y else Option.some (-1 : Int)

noncomputable def cx_goquery_indexInSlice : Cx := ⟨tb, lookE [], lookS []⟩

theorem ck_goquery_indexInSlice : CxOK Try.prog (cx_goquery_indexInSlice) := cx_ok tb_ok .nil

noncomputable def c_goquery_indexInSlice_0 : Code := loopAt (Go.Proofs.Try.f151.body.getD .skip) 0

noncomputable def l_goquery_indexInSlice_0 : LEnt := ⟨p_goquery_indexInSlice_0, x_goquery_indexInSlice_0, loopO (m_goquery_indexInSlice_0)⟩

theorem lo_goquery_indexInSlice_0 : LOK Try.prog 21 0 false (l_goquery_indexInSlice_0) c_goquery_indexInSlice_0 := loop_ok (body := m_goquery_indexInSlice_0) (L := lookL []) (ck_goquery_indexInSlice) mixed (ls_ok (l := []) (by kernel_rfl) .nil) (by intro x; kernel_rfl) (fun x y h => loopO_iff.1 h)

noncomputable def e_goquery_indexInSlice : Ent := ⟨0, p_goquery_indexInSlice, q_goquery_indexInSlice, m_goquery_indexInSlice⟩
theorem ok_goquery_indexInSlice : FnOK Try.prog 151 e_goquery_indexInSlice := fn_ok (L := lookL [(0, l_goquery_indexInSlice_0)]) ck_goquery_indexInSlice mixed Try.func151 rfl (by kernel_rfl) (by kernel_rfl) (ls_ok (l := [(0, c_goquery_indexInSlice_0)]) (by kernel_rfl) (.cons rfl (lo_goquery_indexInSlice_0) .nil)) (by intro x; kernel_rfl)

/-! goquery.isInSlice -/
abbrev p_goquery_isInSlice : Pt := [(0, .lst .np), (1, .np)]
abbrev q_goquery_isInSlice : Pt := [(0, .bool)]

noncomputable def m_goquery_isInSlice : Tup p_goquery_isInSlice → Option (Tup q_goquery_isInSlice) := fun (x : List (Option Nat) × Option Nat) => Option.bind (m_goquery_indexInSlice (Prod.fst x, Prod.snd x)) fun (r : Int) => Option.some (Decidable.decide ((-1 : Int) < r))

noncomputable def cx_goquery_isInSlice : Cx := ⟨tb, lookE [(151, e_goquery_indexInSlice)], lookS []⟩

theorem ck_goquery_isInSlice : CxOK Try.prog (cx_goquery_isInSlice) := cx_ok tb_ok (.cons ok_goquery_indexInSlice Try.call151 .nil)

noncomputable def e_goquery_isInSlice : Ent := ⟨0, p_goquery_isInSlice, q_goquery_isInSlice, m_goquery_isInSlice⟩
theorem ok_goquery_isInSlice : FnOK Try.prog 144 e_goquery_isInSlice := fn_ok (L := lookL []) ck_goquery_isInSlice mixed Try.func144 rfl (by kernel_rfl) (by kernel_rfl) (ls_ok (l := []) (by kernel_rfl) .nil) (by intro x; kernel_rfl)

/-! goquery.appendWithoutDuplicates@small -/
abbrev p_goquery_appendWithoutDuplicates_small : Pt := [(0, .own .np 76), (1, .lst .np), (2, .mnil)]
abbrev q_goquery_appendWithoutDuplicates_small : Pt := [(0, .own .np 76)]

abbrev p_goquery_appendWithoutDuplicates_small_0 : Pt := [(0, .own .np 76), (23, .lst .np), (24, .int .i64), (25, .int .i64)]
abbrev x_goquery_appendWithoutDuplicates_small_0 : List (Xt × Pt) := [(.ex 0, [(0, .own .np 76)])]
noncomputable def m_goquery_appendWithoutDuplicates_small_0 : Tup p_goquery_appendWithoutDuplicates_small_0 → Option (Stp (Tup p_goquery_appendWithoutDuplicates_small_0) (SumT (x_goquery_appendWithoutDuplicates_small_0.map (·.2)))) := fun (x : List (Option Nat) × List (Option Nat) × Int × Int) => bif Decidable.decide (Prod.snd (Prod.snd (Prod.snd x)) < Prod.fst (Prod.snd (Prod.snd x))) then Option.bind (atI (Prod.fst (Prod.snd x)) (Prod.snd (Prod.snd (Prod.snd x)))) fun (v : Option Nat) => Option.bind (m_goquery_isInSlice (Prod.fst x, v)) fun (r : Bool) => bif !r then Option.bind (appL (Prod.fst x) [v]) fun (r : List (Option Nat)) => Option.some (Stp.nx (r, Prod.fst (Prod.snd x), Prod.fst (Prod.snd (Prod.snd x)), Go.IntKind.wrap Go.IntKind.i64 (Prod.snd (Prod.snd (Prod.snd x)) + (1 : Int)))) else Option.some (Stp.nx (Prod.fst x, Prod.fst (Prod.snd x), Prod.fst (Prod.snd (Prod.snd x)), Go.IntKind.wrap Go.IntKind.i64 (Prod.snd (Prod.snd (Prod.snd x)) + (1 : Int)))) else Option.some (Stp.out (Prod.fst x))

abbrev p_goquery_appendWithoutDuplicates_small_1 : Pt := [(0, .own .np 76), (1, .lst .np), (2, .mnil), (47, .al 0), (48, .int .i64), (49, .int .i64)]
abbrev x_goquery_appendWithoutDuplicates_small_1 : List (Xt × Pt) := [(.ex 2, [(0, .own .np 76), (1, .lst .np), (2, .mnil)])]
noncomputable def m_goquery_appendWithoutDuplicates_small_1 : Tup p_goquery_appendWithoutDuplicates_small_1 → Option (Stp (Tup p_goquery_appendWithoutDuplicates_small_1) (SumT (x_goquery_appendWithoutDuplicates_small_1.map (·.2)))) := fun (x : List (Option Nat) × List (Option Nat) × PUnit × PUnit × Int × Int) => bif Decidable.decide (Prod.snd (Prod.snd (Prod.snd (Prod.snd (Prod.snd x)))) < Prod.fst (Prod.snd (Prod.snd (Prod.snd (Prod.snd x))))) then Option.bind (atI (Prod.fst x) (Prod.snd (Prod.snd (Prod.snd (Prod.snd (Prod.snd x)))))) fun (x_1 : Option Nat) => Option.bind (Prod.fst x)[Int.toNat (Prod.snd (Prod.snd (Prod.snd (Prod.snd (Prod.snd x)))))]? fun (v : Option Nat) => Option.none else Option.some (Stp.out (Prod.fst x, Prod.fst (Prod.snd x), PUnit.unit))

abbrev p_goquery_appendWithoutDuplicates_small_2 : Pt := [(0, .own .np 76), (2, .mnil), (56, .lst .np), (57, .int .i64), (58, .int .i64)]
abbrev x_goquery_appendWithoutDuplicates_small_2 : List (Xt × Pt) := [(.ex 4, [(0, .own .np 76)])]
noncomputable def m_goquery_appendWithoutDuplicates_small_2 : Tup p_goquery_appendWithoutDuplicates_small_2 → Option (Stp (Tup p_goquery_appendWithoutDuplicates_small_2) (SumT (x_goquery_appendWithoutDuplicates_small_2.map (·.2)))) := fun (x : List (Option Nat) × PUnit × List (Option Nat) × Int × Int) => bif Decidable.decide (Prod.snd (Prod.snd (Prod.snd (Prod.snd x))) < Prod.fst (Prod.snd (Prod.snd (Prod.snd x)))) then Option.bind (atI (Prod.fst (Prod.snd (Prod.snd x))) (Prod.snd (Prod.snd (Prod.snd (Prod.snd x))))) fun (v : Option Nat) => Option.bind (appL (Prod.fst x) [v]) fun (r : List (Option Nat)) => Option.none else Option.some (Stp.out (Prod.fst x))

noncomputable def m_goquery_appendWithoutDuplicates_small : Tup p_goquery_appendWithoutDuplicates_small → Option (Tup q_goquery_appendWithoutDuplicates_small) := fun (x : List (Option Nat) × List (Option Nat) × PUnit) => bif Decidable.decide (Go.IntKind.wrap Go.IntKind.i64 ((↑(List.length (Prod.fst x)) : Int) + (↑(List.length (Prod.fst (Prod.snd x))) : Int)) < (1000 : Int)) then Option.bind (loopO m_goquery_appendWithoutDuplicates_small_0 (Prod.fst x, Prod.fst (Prod.snd x), (↑(List.length (Prod.fst (Prod.snd x))) : Int), (0 : Int))) fun (y : List (Option Nat)) => Option.some y else Option.none

noncomputable def cx_goquery_appendWithoutDuplicates_small : Cx := ⟨tb, lookE [(144, e_goquery_isInSlice)], lookS []⟩

theorem ck_goquery_appendWithoutDuplicates_small : CxOK Try.prog (cx_goquery_appendWithoutDuplicates_small) := cx_ok tb_ok (.cons ok_goquery_isInSlice Try.call144 .nil)

noncomputable def c_goquery_appendWithoutDuplicates_small_0 : Code := loopAt (Go.Proofs.Try.f115.body.getD .skip) 0

noncomputable def l_goquery_appendWithoutDuplicates_small_0 : LEnt := ⟨p_goquery_appendWithoutDuplicates_small_0, x_goquery_appendWithoutDuplicates_small_0, loopO (m_goquery_appendWithoutDuplicates_small_0)⟩

theorem lo_goquery_appendWithoutDuplicates_small_0 : LOK Try.prog 74 0 false (l_goquery_appendWithoutDuplicates_small_0) c_goquery_appendWithoutDuplicates_small_0 := loop_ok (body := m_goquery_appendWithoutDuplicates_small_0) (L := lookL []) (ck_goquery_appendWithoutDuplicates_small) mixed (ls_ok (l := []) (by kernel_rfl) .nil) (by intro x; kernel_rfl) (fun x y h => loopO_iff.1 h)

noncomputable def c_goquery_appendWithoutDuplicates_small_1 : Code := loopAt (Go.Proofs.Try.f115.body.getD .skip) 1

noncomputable def l_goquery_appendWithoutDuplicates_small_1 : LEnt := ⟨p_goquery_appendWithoutDuplicates_small_1, x_goquery_appendWithoutDuplicates_small_1, loopO (m_goquery_appendWithoutDuplicates_small_1)⟩

theorem lo_goquery_appendWithoutDuplicates_small_1 : LOK Try.prog 74 0 false (l_goquery_appendWithoutDuplicates_small_1) c_goquery_appendWithoutDuplicates_small_1 := loop_ok (body := m_goquery_appendWithoutDuplicates_small_1) (L := lookL []) (ck_goquery_appendWithoutDuplicates_small) mixed (ls_ok (l := []) (by kernel_rfl) .nil) (by intro x; kernel_rfl) (fun x y h => loopO_iff.1 h)

noncomputable def c_goquery_appendWithoutDuplicates_small_2 : Code := loopAt (Go.Proofs.Try.f115.body.getD .skip) 2

noncomputable def l_goquery_appendWithoutDuplicates_small_2 : LEnt := ⟨p_goquery_appendWithoutDuplicates_small_2, x_goquery_appendWithoutDuplicates_small_2, loopO (m_goquery_appendWithoutDuplicates_small_2)⟩

theorem lo_goquery_appendWithoutDuplicates_small_2 : LOK Try.prog 74 0 false (l_goquery_appendWithoutDuplicates_small_2) c_goquery_appendWithoutDuplicates_small_2 := loop_ok (body := m_goquery_appendWithoutDuplicates_small_2) (L := lookL []) (ck_goquery_appendWithoutDuplicates_small) mixed (ls_ok (l := []) (by kernel_rfl) .nil) (by intro x; kernel_rfl) (fun x y h => loopO_iff.1 h)

noncomputable def e_goquery_appendWithoutDuplicates_small : Ent := ⟨0, p_goquery_appendWithoutDuplicates_small, q_goquery_appendWithoutDuplicates_small, m_goquery_appendWithoutDuplicates_small⟩
theorem ok_goquery_appendWithoutDuplicates_small : FnOK Try.prog 115 e_goquery_appendWithoutDuplicates_small := fn_ok (L := lookL [(0, l_goquery_appendWithoutDuplicates_small_0), (2, l_goquery_appendWithoutDuplicates_small_1), (4, l_goquery_appendWithoutDuplicates_small_2)]) ck_goquery_appendWithoutDuplicates_small mixed Try.func115 rfl (by kernel_rfl) (by kernel_rfl) (ls_ok (l := [(0, c_goquery_appendWithoutDuplicates_small_0), (2, c_goquery_appendWithoutDuplicates_small_1), (4, c_goquery_appendWithoutDuplicates_small_2)]) (by kernel_rfl) (.cons rfl (lo_goquery_appendWithoutDuplicates_small_0) (.cons rfl (lo_goquery_appendWithoutDuplicates_small_1) (.cons rfl (lo_goquery_appendWithoutDuplicates_small_2) .nil)))) (by intro x; kernel_rfl)

/-! (*goquery.Selection).AddNodes@nil -/
abbrev p_goquery_Selection_AddNodes_nil : Pt := [(0, .fp (.rc .nil [] 2)), (1, .lst .np)]
abbrev q_goquery_Selection_AddNodes_nil : Pt := [(0, .fp (.rc .nps [] 2))]

noncomputable def m_goquery_Selection_AddNodes_nil : Tup p_goquery_Selection_AddNodes_nil → Option (Tup q_goquery_Selection_AddNodes_nil) := fun (x : PUnit × List (Option Nat)) => Option.bind (m_goquery_appendWithoutDuplicates_small ([], Prod.snd x, ())) fun (r : List (Option Nat)) => Option.bind (m_goquery_pushStack ([], r)) fun (r : List (Option Nat)) => Option.some r

noncomputable def cx_goquery_Selection_AddNodes_nil : Cx := ⟨tb, lookE [(115, e_goquery_appendWithoutDuplicates_small), (114, e_goquery_pushStack)], lookS []⟩

theorem ck_goquery_Selection_AddNodes_nil : CxOK Try.prog (cx_goquery_Selection_AddNodes_nil) := cx_ok tb_ok (.cons ok_goquery_appendWithoutDuplicates_small Try.call115 (.cons ok_goquery_pushStack Try.call114 .nil))

noncomputable def e_goquery_Selection_AddNodes_nil : Ent := ⟨0, p_goquery_Selection_AddNodes_nil, q_goquery_Selection_AddNodes_nil, m_goquery_Selection_AddNodes_nil⟩
theorem ok_goquery_Selection_AddNodes_nil : FnOK Try.prog 82 e_goquery_Selection_AddNodes_nil := fn_ok (L := lookL []) ck_goquery_Selection_AddNodes_nil mixed Try.func82 rfl (by kernel_rfl) (by kernel_rfl) (ls_ok (l := []) (by kernel_rfl) .nil) (by intro x; kernel_rfl)

/-! impl.among -/
abbrev p_impl_among : Pt := [(0, .lst .np), (1, .lst .int), (2, .bool)]
abbrev q_impl_among : Pt := [(0, .fp (.rc .nps [] 2)), (1, .lst .np), (2, .bool)]

noncomputable def m_impl_among : Tup p_impl_among → Option (Tup q_impl_among) := fun (x : List (Option Nat) × List Int × Bool) => Option.bind (m_impl_these (Prod.fst x, Prod.fst (Prod.snd x))) fun (r : List (Option Nat) × Bool) => bif !Prod.snd (Prod.snd x) then Option.none else bif !Prod.snd r then Option.none else Option.bind (atI (Prod.fst x) (0 : Int)) fun (v : Option Nat) => Option.bind (m_goquery_NewDocumentFromNode v) fun (r_1 : List (Option Nat) × Option Nat) => Option.bind (m_goquery_Selection_Eq_nil (Prod.fst r_1, (1 : Int))) fun (r_2 : PUnit) => Option.bind (m_goquery_Selection_AddNodes_nil ((), Prod.fst r)) fun (r : List (Option Nat)) => Option.some (r, Prod.fst x, Bool.true)

noncomputable def cx_impl_among : Cx := ⟨tb, lookE [(52, e_impl_these), (102, e_goquery_NewDocumentFromNode), (103, e_goquery_Selection_Eq_nil), (82, e_goquery_Selection_AddNodes_nil)], lookS []⟩

theorem ck_impl_among : CxOK Try.prog (cx_impl_among) := cx_ok tb_ok (.cons ok_impl_these Try.call52 (.cons ok_goquery_NewDocumentFromNode Try.call102 (.cons ok_goquery_Selection_Eq_nil Try.call103 (.cons ok_goquery_Selection_AddNodes_nil Try.call82 .nil))))

noncomputable def e_impl_among : Ent := ⟨0, p_impl_among, q_impl_among, m_impl_among⟩
theorem ok_impl_among : FnOK Try.prog 72 e_impl_among := fn_ok (L := lookL []) ck_impl_among mixed Try.func72 rfl (by kernel_rfl) (by kernel_rfl) (ls_ok (l := []) (by kernel_rfl) .nil) (by intro x; kernel_rfl)

/-! impl.chosen -/
abbrev p_impl_chosen : Pt := [(0, .lst .node), (1, .lst .int), (NT, .ns .h 126 168)]
abbrev q_impl_chosen : Pt := [(0, .fp (.rc .nps [] 2)), (1, .lst .np), (2, .bool), (NT, .ns .h 126 168)]

noncomputable def m_impl_chosen : Tup p_impl_chosen → Option (Tup q_impl_chosen) := fun (x : List Node × List Int × List HN) => Option.bind (m_impl_grown (Prod.fst x, Prod.snd (Prod.snd x))) fun (r : List (Option Nat) × Bool × List HN) => Option.bind (m_impl_among (Prod.fst r, Prod.fst (Prod.snd x), Prod.fst (Prod.snd r))) fun (r_1 : List (Option Nat) × List (Option Nat) × Bool) => Option.some (Prod.fst r_1, Prod.fst (Prod.snd r_1), Prod.snd (Prod.snd r_1), Prod.snd (Prod.snd r))

noncomputable def cx_impl_chosen : Cx := ⟨tb, lookE [(71, e_impl_grown), (72, e_impl_among)], lookS []⟩

theorem ck_impl_chosen : CxOK Try.prog (cx_impl_chosen) := cx_ok tb_ok (.cons ok_impl_grown Try.call71 (.cons ok_impl_among Try.call72 .nil))

noncomputable def e_impl_chosen : Ent := ⟨0, p_impl_chosen, q_impl_chosen, m_impl_chosen⟩
theorem ok_impl_chosen : FnOK Try.prog 45 e_impl_chosen := fn_ok (L := lookL []) ck_impl_chosen mixed Try.func45 rfl (by kernel_rfl) (by kernel_rfl) (ls_ok (l := []) (by kernel_rfl) .nil) (by intro x; kernel_rfl)

end Go.Proofs.Ytfmlpodcldhgdaa.V
