/-
  Models of functions, and that they are what the code does (written by a program).
-/
import Derived.Test.YtlgabeiaheoniaaKTab
import Derived.Test.YtlgabeiaheoniaaSpecA
import Derived.Test.YtlgabeiaheoniaaSpecB
import Derived.Test.YtlgabeiaheoniaaImplA
import Derived.Test.YtlgabeiaheoniaaGoqA
import Derived.Test.YtlgabeiaheoniaaGoqR
namespace Go.Proofs.Ytlgabeiaheoniaa.V
open Go Go.Proofs

/-! (*goquery.Selection).Contents -/
abbrev p_goquery_Selection_Contents : Pt := [(0, .fp (.rc .nps [] 2)), (NT, .ns 98 102)]
abbrev q_goquery_Selection_Contents : Pt := [(0, .fp (.rc .nps [] 2)), (NT, .ns 98 102)]

noncomputable def m_goquery_Selection_Contents : Tup p_goquery_Selection_Contents → Option (Tup q_goquery_Selection_Contents) := fun (x : List (Option Nat) × List HN) => Option.bind (m_goquery_getChildrenNodes (Prod.fst x, (4 : Int), Prod.snd x)) fun (r : List (Option Nat)) => Option.bind (m_goquery_pushStack (Prod.fst x, r)) fun (r : List (Option Nat)) => Option.some (r, Prod.snd x)

noncomputable def cx_goquery_Selection_Contents : Cx := ⟨tb, lookE [(84, e_goquery_getChildrenNodes), (83, e_goquery_pushStack)]⟩

theorem ck_goquery_Selection_Contents : CxOK Try.prog (cx_goquery_Selection_Contents) := cx_ok tb_ok (.cons ok_goquery_getChildrenNodes Try.call84 (.cons ok_goquery_pushStack Try.call83 .nil))

noncomputable def e_goquery_Selection_Contents : Ent := ⟨0, p_goquery_Selection_Contents, q_goquery_Selection_Contents, m_goquery_Selection_Contents⟩
theorem ok_goquery_Selection_Contents : FnOK Try.prog 49 e_goquery_Selection_Contents := fn_ok (L := lookL []) ck_goquery_Selection_Contents mixed Try.func49 rfl (by kernel_rfl) (by kernel_rfl) (ls_ok (l := []) (by kernel_rfl) .nil) (by intro x; kernel_rfl)

/-! (*goquery.Selection).Children -/
abbrev p_goquery_Selection_Children : Pt := [(0, .fp (.rc .nps [] 2)), (NT, .ns 98 102)]
abbrev q_goquery_Selection_Children : Pt := [(0, .fp (.rc .nps [] 2)), (NT, .ns 98 102)]

noncomputable def m_goquery_Selection_Children : Tup p_goquery_Selection_Children → Option (Tup q_goquery_Selection_Children) := fun (x : List (Option Nat) × List HN) => Option.bind (m_goquery_getChildrenNodes (Prod.fst x, (0 : Int), Prod.snd x)) fun (r : List (Option Nat)) => Option.bind (m_goquery_pushStack (Prod.fst x, r)) fun (r : List (Option Nat)) => Option.some (r, Prod.snd x)

noncomputable def cx_goquery_Selection_Children : Cx := ⟨tb, lookE [(84, e_goquery_getChildrenNodes), (83, e_goquery_pushStack)]⟩

theorem ck_goquery_Selection_Children : CxOK Try.prog (cx_goquery_Selection_Children) := cx_ok tb_ok (.cons ok_goquery_getChildrenNodes Try.call84 (.cons ok_goquery_pushStack Try.call83 .nil))

noncomputable def e_goquery_Selection_Children : Ent := ⟨0, p_goquery_Selection_Children, q_goquery_Selection_Children, m_goquery_Selection_Children⟩
theorem ok_goquery_Selection_Children : FnOK Try.prog 50 e_goquery_Selection_Children := fn_ok (L := lookL []) ck_goquery_Selection_Children mixed Try.func50 rfl (by kernel_rfl) (by kernel_rfl) (ls_ok (l := []) (by kernel_rfl) .nil) (by intro x; kernel_rfl)

/-! (*goquery.Selection).Parent -/
abbrev p_goquery_Selection_Parent : Pt := [(0, .fp (.rc .nps [] 2)), (NT, .ns 98 102)]
abbrev q_goquery_Selection_Parent : Pt := [(0, .fp (.rc .nps [] 2)), (NT, .ns 98 102)]

noncomputable def m_goquery_Selection_Parent : Tup p_goquery_Selection_Parent → Option (Tup q_goquery_Selection_Parent) := fun (x : List (Option Nat) × List HN) => Option.bind (m_goquery_getParentNodes (Prod.fst x, Prod.snd x)) fun (r : List (Option Nat)) => Option.bind (m_goquery_pushStack (Prod.fst x, r)) fun (r : List (Option Nat)) => Option.some (r, Prod.snd x)

noncomputable def cx_goquery_Selection_Parent : Cx := ⟨tb, lookE [(86, e_goquery_getParentNodes), (83, e_goquery_pushStack)]⟩

theorem ck_goquery_Selection_Parent : CxOK Try.prog (cx_goquery_Selection_Parent) := cx_ok tb_ok (.cons ok_goquery_getParentNodes Try.call86 (.cons ok_goquery_pushStack Try.call83 .nil))

noncomputable def e_goquery_Selection_Parent : Ent := ⟨0, p_goquery_Selection_Parent, q_goquery_Selection_Parent, m_goquery_Selection_Parent⟩
theorem ok_goquery_Selection_Parent : FnOK Try.prog 52 e_goquery_Selection_Parent := fn_ok (L := lookL []) ck_goquery_Selection_Parent mixed Try.func52 rfl (by kernel_rfl) (by kernel_rfl) (ls_ok (l := []) (by kernel_rfl) .nil) (by intro x; kernel_rfl)

/-! (*goquery.Selection).Parents -/
abbrev p_goquery_Selection_Parents : Pt := [(0, .fp (.rc .nps [] 2)), (NT, .ns 98 102)]
abbrev q_goquery_Selection_Parents : Pt := [(0, .fp (.rc .nps [] 2)), (NT, .ns 98 102)]

noncomputable def m_goquery_Selection_Parents : Tup p_goquery_Selection_Parents → Option (Tup q_goquery_Selection_Parents) := fun (x : List (Option Nat) × List HN) => Option.bind (m_goquery_getParentsNodes (Prod.fst x, (), [], Prod.snd x)) fun (r : List (Option Nat)) => Option.bind (m_goquery_pushStack (Prod.fst x, r)) fun (r : List (Option Nat)) => Option.some (r, Prod.snd x)

noncomputable def cx_goquery_Selection_Parents : Cx := ⟨tb, lookE [(85, e_goquery_getParentsNodes), (83, e_goquery_pushStack)]⟩

theorem ck_goquery_Selection_Parents : CxOK Try.prog (cx_goquery_Selection_Parents) := cx_ok tb_ok (.cons ok_goquery_getParentsNodes Try.call85 (.cons ok_goquery_pushStack Try.call83 .nil))

noncomputable def e_goquery_Selection_Parents : Ent := ⟨0, p_goquery_Selection_Parents, q_goquery_Selection_Parents, m_goquery_Selection_Parents⟩
theorem ok_goquery_Selection_Parents : FnOK Try.prog 51 e_goquery_Selection_Parents := fn_ok (L := lookL []) ck_goquery_Selection_Parents mixed Try.func51 rfl (by kernel_rfl) (by kernel_rfl) (ls_ok (l := []) (by kernel_rfl) .nil) (by intro x; kernel_rfl)

/-! (*goquery.Selection).Next -/
abbrev p_goquery_Selection_Next : Pt := [(0, .fp (.rc .nps [] 2)), (NT, .ns 98 102)]
abbrev q_goquery_Selection_Next : Pt := [(0, .fp (.rc .nps [] 2)), (NT, .ns 98 102)]

noncomputable def m_goquery_Selection_Next : Tup p_goquery_Selection_Next → Option (Tup q_goquery_Selection_Next) := fun (x : List (Option Nat) × List HN) => Option.bind (m_goquery_getSiblingNodes_n (Prod.fst x, (1 : Int), (), [], Prod.snd x)) fun (r : List (Option Nat) × List HN) => Option.bind (m_goquery_pushStack (Prod.fst x, Prod.fst r)) fun (r_1 : List (Option Nat)) => Option.some (r_1, Prod.snd r)

noncomputable def cx_goquery_Selection_Next : Cx := ⟨tb, lookE [(87, e_goquery_getSiblingNodes_n), (83, e_goquery_pushStack)]⟩

theorem ck_goquery_Selection_Next : CxOK Try.prog (cx_goquery_Selection_Next) := cx_ok tb_ok (.cons ok_goquery_getSiblingNodes_n Try.call87 (.cons ok_goquery_pushStack Try.call83 .nil))

noncomputable def e_goquery_Selection_Next : Ent := ⟨0, p_goquery_Selection_Next, q_goquery_Selection_Next, m_goquery_Selection_Next⟩
theorem ok_goquery_Selection_Next : FnOK Try.prog 53 e_goquery_Selection_Next := fn_ok (L := lookL []) ck_goquery_Selection_Next mixed Try.func53 rfl (by kernel_rfl) (by kernel_rfl) (ls_ok (l := []) (by kernel_rfl) .nil) (by intro x; kernel_rfl)

/-! (*goquery.Selection).NextAll -/
abbrev p_goquery_Selection_NextAll : Pt := [(0, .fp (.rc .nps [] 2)), (NT, .ns 98 102)]
abbrev q_goquery_Selection_NextAll : Pt := [(0, .fp (.rc .nps [] 2)), (NT, .ns 98 102)]

noncomputable def m_goquery_Selection_NextAll : Tup p_goquery_Selection_NextAll → Option (Tup q_goquery_Selection_NextAll) := fun (x : List (Option Nat) × List HN) => Option.bind (m_goquery_getSiblingNodes_n (Prod.fst x, (2 : Int), (), [], Prod.snd x)) fun (r : List (Option Nat) × List HN) => Option.bind (m_goquery_pushStack (Prod.fst x, Prod.fst r)) fun (r_1 : List (Option Nat)) => Option.some (r_1, Prod.snd r)

noncomputable def cx_goquery_Selection_NextAll : Cx := ⟨tb, lookE [(87, e_goquery_getSiblingNodes_n), (83, e_goquery_pushStack)]⟩

theorem ck_goquery_Selection_NextAll : CxOK Try.prog (cx_goquery_Selection_NextAll) := cx_ok tb_ok (.cons ok_goquery_getSiblingNodes_n Try.call87 (.cons ok_goquery_pushStack Try.call83 .nil))

noncomputable def e_goquery_Selection_NextAll : Ent := ⟨0, p_goquery_Selection_NextAll, q_goquery_Selection_NextAll, m_goquery_Selection_NextAll⟩
theorem ok_goquery_Selection_NextAll : FnOK Try.prog 58 e_goquery_Selection_NextAll := fn_ok (L := lookL []) ck_goquery_Selection_NextAll mixed Try.func58 rfl (by kernel_rfl) (by kernel_rfl) (ls_ok (l := []) (by kernel_rfl) .nil) (by intro x; kernel_rfl)

/-! (*goquery.Selection).PrevAll -/
abbrev p_goquery_Selection_PrevAll : Pt := [(0, .fp (.rc .nps [] 2)), (NT, .ns 98 102)]
abbrev q_goquery_Selection_PrevAll : Pt := [(0, .fp (.rc .nps [] 2)), (NT, .ns 98 102)]

noncomputable def m_goquery_Selection_PrevAll : Tup p_goquery_Selection_PrevAll → Option (Tup q_goquery_Selection_PrevAll) := fun (x : List (Option Nat) × List HN) => Option.bind (m_goquery_getSiblingNodes_n (Prod.fst x, (-2 : Int), (), [], Prod.snd x)) fun (r : List (Option Nat) × List HN) => Option.bind (m_goquery_pushStack (Prod.fst x, Prod.fst r)) fun (r_1 : List (Option Nat)) => Option.some (r_1, Prod.snd r)

noncomputable def cx_goquery_Selection_PrevAll : Cx := ⟨tb, lookE [(87, e_goquery_getSiblingNodes_n), (83, e_goquery_pushStack)]⟩

theorem ck_goquery_Selection_PrevAll : CxOK Try.prog (cx_goquery_Selection_PrevAll) := cx_ok tb_ok (.cons ok_goquery_getSiblingNodes_n Try.call87 (.cons ok_goquery_pushStack Try.call83 .nil))

noncomputable def e_goquery_Selection_PrevAll : Ent := ⟨0, p_goquery_Selection_PrevAll, q_goquery_Selection_PrevAll, m_goquery_Selection_PrevAll⟩
theorem ok_goquery_Selection_PrevAll : FnOK Try.prog 54 e_goquery_Selection_PrevAll := fn_ok (L := lookL []) ck_goquery_Selection_PrevAll mixed Try.func54 rfl (by kernel_rfl) (by kernel_rfl) (ls_ok (l := []) (by kernel_rfl) .nil) (by intro x; kernel_rfl)

/-! (*goquery.Selection).Siblings -/
abbrev p_goquery_Selection_Siblings : Pt := [(0, .fp (.rc .nps [] 2)), (NT, .ns 98 102)]
abbrev q_goquery_Selection_Siblings : Pt := [(0, .fp (.rc .nps [] 2)), (NT, .ns 98 102)]

noncomputable def m_goquery_Selection_Siblings : Tup p_goquery_Selection_Siblings → Option (Tup q_goquery_Selection_Siblings) := fun (x : List (Option Nat) × List HN) => Option.bind (m_goquery_getSiblingNodes_n (Prod.fst x, (0 : Int), (), [], Prod.snd x)) fun (r : List (Option Nat) × List HN) => Option.bind (m_goquery_pushStack (Prod.fst x, Prod.fst r)) fun (r_1 : List (Option Nat)) => Option.some (r_1, Prod.snd r)

noncomputable def cx_goquery_Selection_Siblings : Cx := ⟨tb, lookE [(87, e_goquery_getSiblingNodes_n), (83, e_goquery_pushStack)]⟩

theorem ck_goquery_Selection_Siblings : CxOK Try.prog (cx_goquery_Selection_Siblings) := cx_ok tb_ok (.cons ok_goquery_getSiblingNodes_n Try.call87 (.cons ok_goquery_pushStack Try.call83 .nil))

noncomputable def e_goquery_Selection_Siblings : Ent := ⟨0, p_goquery_Selection_Siblings, q_goquery_Selection_Siblings, m_goquery_Selection_Siblings⟩
theorem ok_goquery_Selection_Siblings : FnOK Try.prog 88 e_goquery_Selection_Siblings := fn_ok (L := lookL []) ck_goquery_Selection_Siblings mixed Try.func88 rfl (by kernel_rfl) (by kernel_rfl) (ls_ok (l := []) (by kernel_rfl) .nil) (by intro x; kernel_rfl)

/-! (*goquery.Selection).NextUntilNodes -/
abbrev p_goquery_Selection_NextUntilNodes : Pt := [(0, .fp (.rc .nps [] 2)), (1, .lst .np), (NT, .ns 98 102)]
abbrev q_goquery_Selection_NextUntilNodes : Pt := [(0, .fp (.rc .nps [] 2)), (NT, .ns 98 102)]

noncomputable def m_goquery_Selection_NextUntilNodes : Tup p_goquery_Selection_NextUntilNodes → Option (Tup q_goquery_Selection_NextUntilNodes) := fun (x : List (Option Nat) × List (Option Nat) × List HN) => Option.bind (m_goquery_getSiblingNodes_u (Prod.fst x, (3 : Int), (), Prod.fst (Prod.snd x), Prod.snd (Prod.snd x))) fun (r : List (Option Nat) × List HN) => Option.bind (m_goquery_pushStack (Prod.fst x, Prod.fst r)) fun (r_1 : List (Option Nat)) => Option.some (r_1, Prod.snd r)

noncomputable def cx_goquery_Selection_NextUntilNodes : Cx := ⟨tb, lookE [(87, e_goquery_getSiblingNodes_u), (83, e_goquery_pushStack)]⟩

theorem ck_goquery_Selection_NextUntilNodes : CxOK Try.prog (cx_goquery_Selection_NextUntilNodes) := cx_ok tb_ok (.cons ok_goquery_getSiblingNodes_u Try.call87 (.cons ok_goquery_pushStack Try.call83 .nil))

noncomputable def e_goquery_Selection_NextUntilNodes : Ent := ⟨0, p_goquery_Selection_NextUntilNodes, q_goquery_Selection_NextUntilNodes, m_goquery_Selection_NextUntilNodes⟩
theorem ok_goquery_Selection_NextUntilNodes : FnOK Try.prog 56 e_goquery_Selection_NextUntilNodes := fn_ok (L := lookL []) ck_goquery_Selection_NextUntilNodes mixed Try.func56 rfl (by kernel_rfl) (by kernel_rfl) (ls_ok (l := []) (by kernel_rfl) .nil) (by intro x; kernel_rfl)

/-! impl.ContentsOf -/
abbrev p_impl_ContentsOf : Pt := [(0, .lst .node), (1, .lst .int), (NT, .ns 98 102)]
abbrev q_impl_ContentsOf : Pt := [(0, .own .int 3), (1, .bool), (NT, .ns 98 102)]

noncomputable def m_impl_ContentsOf : Tup p_impl_ContentsOf → Option (Tup q_impl_ContentsOf) := fun (x : List Node × List Int × List HN) => Option.bind (m_impl_chosen (Prod.fst x, Prod.fst (Prod.snd x), Prod.snd (Prod.snd x))) fun (r : List (Option Nat) × List (Option Nat) × Bool × List HN) => bif !Prod.fst (Prod.snd (Prod.snd r)) then Option.some ([], Bool.false, Prod.snd (Prod.snd (Prod.snd r))) else Option.bind (m_goquery_Selection_Contents (Prod.fst r, Prod.snd (Prod.snd (Prod.snd r)))) fun (r_1 : List (Option Nat) × List HN) => Option.bind (m_impl_placesOf (Prod.fst (Prod.snd r), Prod.fst r_1)) fun (r : List Int) => Option.some (r, Bool.true, Prod.snd r_1)

noncomputable def cx_impl_ContentsOf : Cx := ⟨tb, lookE [(47, e_impl_chosen), (49, e_goquery_Selection_Contents), (48, e_impl_placesOf)]⟩

theorem ck_impl_ContentsOf : CxOK Try.prog (cx_impl_ContentsOf) := cx_ok tb_ok (.cons ok_impl_chosen Try.call47 (.cons ok_goquery_Selection_Contents Try.call49 (.cons ok_impl_placesOf Try.call48 .nil)))

noncomputable def e_impl_ContentsOf : Ent := ⟨0, p_impl_ContentsOf, q_impl_ContentsOf, m_impl_ContentsOf⟩
theorem ok_impl_ContentsOf : FnOK Try.prog 16 e_impl_ContentsOf := fn_ok (L := lookL []) ck_impl_ContentsOf mixed Try.func16 rfl (by kernel_rfl) (by kernel_rfl) (ls_ok (l := []) (by kernel_rfl) .nil) (by intro x; kernel_rfl)

abbrev p_impl_ContentsOf_f : Pt := [(0, .lst .node), (1, .lst .int)]
abbrev q_impl_ContentsOf_f : Pt := [(0, .own .int 3), (1, .bool)]
noncomputable def m_impl_ContentsOf_f : Tup p_impl_ContentsOf_f → Option (Tup q_impl_ContentsOf_f) := frT 0 p_impl_ContentsOf_f q_impl_ContentsOf_f 98 102 (m_impl_ContentsOf)
noncomputable def e_impl_ContentsOf_f : Ent := ⟨0, p_impl_ContentsOf_f, q_impl_ContentsOf_f, m_impl_ContentsOf_f⟩
theorem ok_impl_ContentsOf_f : FnOK Try.prog 16 e_impl_ContentsOf_f := fresh_ok (np := 0) (p := p_impl_ContentsOf_f) (q := q_impl_ContentsOf_f) (m := m_impl_ContentsOf) ok_impl_ContentsOf (by kernel_rfl) (by kernel_rfl)

/-! impl.ChildrenOf -/
abbrev p_impl_ChildrenOf : Pt := [(0, .lst .node), (1, .lst .int), (NT, .ns 98 102)]
abbrev q_impl_ChildrenOf : Pt := [(0, .own .int 3), (1, .bool), (NT, .ns 98 102)]

noncomputable def m_impl_ChildrenOf : Tup p_impl_ChildrenOf → Option (Tup q_impl_ChildrenOf) := fun (x : List Node × List Int × List HN) => Option.bind (m_impl_chosen (Prod.fst x, Prod.fst (Prod.snd x), Prod.snd (Prod.snd x))) fun (r : List (Option Nat) × List (Option Nat) × Bool × List HN) => bif !Prod.fst (Prod.snd (Prod.snd r)) then Option.some ([], Bool.false, Prod.snd (Prod.snd (Prod.snd r))) else Option.bind (m_goquery_Selection_Children (Prod.fst r, Prod.snd (Prod.snd (Prod.snd r)))) fun (r_1 : List (Option Nat) × List HN) => Option.bind (m_impl_placesOf (Prod.fst (Prod.snd r), Prod.fst r_1)) fun (r : List Int) => Option.some (r, Bool.true, Prod.snd r_1)

noncomputable def cx_impl_ChildrenOf : Cx := ⟨tb, lookE [(47, e_impl_chosen), (50, e_goquery_Selection_Children), (48, e_impl_placesOf)]⟩

theorem ck_impl_ChildrenOf : CxOK Try.prog (cx_impl_ChildrenOf) := cx_ok tb_ok (.cons ok_impl_chosen Try.call47 (.cons ok_goquery_Selection_Children Try.call50 (.cons ok_impl_placesOf Try.call48 .nil)))

noncomputable def e_impl_ChildrenOf : Ent := ⟨0, p_impl_ChildrenOf, q_impl_ChildrenOf, m_impl_ChildrenOf⟩
theorem ok_impl_ChildrenOf : FnOK Try.prog 18 e_impl_ChildrenOf := fn_ok (L := lookL []) ck_impl_ChildrenOf mixed Try.func18 rfl (by kernel_rfl) (by kernel_rfl) (ls_ok (l := []) (by kernel_rfl) .nil) (by intro x; kernel_rfl)

abbrev p_impl_ChildrenOf_f : Pt := [(0, .lst .node), (1, .lst .int)]
abbrev q_impl_ChildrenOf_f : Pt := [(0, .own .int 3), (1, .bool)]
noncomputable def m_impl_ChildrenOf_f : Tup p_impl_ChildrenOf_f → Option (Tup q_impl_ChildrenOf_f) := frT 0 p_impl_ChildrenOf_f q_impl_ChildrenOf_f 98 102 (m_impl_ChildrenOf)
noncomputable def e_impl_ChildrenOf_f : Ent := ⟨0, p_impl_ChildrenOf_f, q_impl_ChildrenOf_f, m_impl_ChildrenOf_f⟩
theorem ok_impl_ChildrenOf_f : FnOK Try.prog 18 e_impl_ChildrenOf_f := fresh_ok (np := 0) (p := p_impl_ChildrenOf_f) (q := q_impl_ChildrenOf_f) (m := m_impl_ChildrenOf) ok_impl_ChildrenOf (by kernel_rfl) (by kernel_rfl)

/-! impl.ParentOf -/
abbrev p_impl_ParentOf : Pt := [(0, .lst .node), (1, .lst .int), (NT, .ns 98 102)]
abbrev q_impl_ParentOf : Pt := [(0, .own .int 3), (1, .bool), (NT, .ns 98 102)]

noncomputable def m_impl_ParentOf : Tup p_impl_ParentOf → Option (Tup q_impl_ParentOf) := fun (x : List Node × List Int × List HN) => Option.bind (m_impl_chosen (Prod.fst x, Prod.fst (Prod.snd x), Prod.snd (Prod.snd x))) fun (r : List (Option Nat) × List (Option Nat) × Bool × List HN) => bif !Prod.fst (Prod.snd (Prod.snd r)) then Option.some ([], Bool.false, Prod.snd (Prod.snd (Prod.snd r))) else Option.bind (m_goquery_Selection_Parent (Prod.fst r, Prod.snd (Prod.snd (Prod.snd r)))) fun (r_1 : List (Option Nat) × List HN) => Option.bind (m_impl_placesOf (Prod.fst (Prod.snd r), Prod.fst r_1)) fun (r : List Int) => Option.some (r, Bool.true, Prod.snd r_1)

noncomputable def cx_impl_ParentOf : Cx := ⟨tb, lookE [(47, e_impl_chosen), (52, e_goquery_Selection_Parent), (48, e_impl_placesOf)]⟩

theorem ck_impl_ParentOf : CxOK Try.prog (cx_impl_ParentOf) := cx_ok tb_ok (.cons ok_impl_chosen Try.call47 (.cons ok_goquery_Selection_Parent Try.call52 (.cons ok_impl_placesOf Try.call48 .nil)))

noncomputable def e_impl_ParentOf : Ent := ⟨0, p_impl_ParentOf, q_impl_ParentOf, m_impl_ParentOf⟩
theorem ok_impl_ParentOf : FnOK Try.prog 22 e_impl_ParentOf := fn_ok (L := lookL []) ck_impl_ParentOf mixed Try.func22 rfl (by kernel_rfl) (by kernel_rfl) (ls_ok (l := []) (by kernel_rfl) .nil) (by intro x; kernel_rfl)

abbrev p_impl_ParentOf_f : Pt := [(0, .lst .node), (1, .lst .int)]
abbrev q_impl_ParentOf_f : Pt := [(0, .own .int 3), (1, .bool)]
noncomputable def m_impl_ParentOf_f : Tup p_impl_ParentOf_f → Option (Tup q_impl_ParentOf_f) := frT 0 p_impl_ParentOf_f q_impl_ParentOf_f 98 102 (m_impl_ParentOf)
noncomputable def e_impl_ParentOf_f : Ent := ⟨0, p_impl_ParentOf_f, q_impl_ParentOf_f, m_impl_ParentOf_f⟩
theorem ok_impl_ParentOf_f : FnOK Try.prog 22 e_impl_ParentOf_f := fresh_ok (np := 0) (p := p_impl_ParentOf_f) (q := q_impl_ParentOf_f) (m := m_impl_ParentOf) ok_impl_ParentOf (by kernel_rfl) (by kernel_rfl)

/-! impl.ParentsOf -/
abbrev p_impl_ParentsOf : Pt := [(0, .lst .node), (1, .lst .int), (NT, .ns 98 102)]
abbrev q_impl_ParentsOf : Pt := [(0, .own .int 3), (1, .bool), (NT, .ns 98 102)]

noncomputable def m_impl_ParentsOf : Tup p_impl_ParentsOf → Option (Tup q_impl_ParentsOf) := fun (x : List Node × List Int × List HN) => Option.bind (m_impl_chosen (Prod.fst x, Prod.fst (Prod.snd x), Prod.snd (Prod.snd x))) fun (r : List (Option Nat) × List (Option Nat) × Bool × List HN) => bif !Prod.fst (Prod.snd (Prod.snd r)) then Option.some ([], Bool.false, Prod.snd (Prod.snd (Prod.snd r))) else Option.bind (m_goquery_Selection_Parents (Prod.fst r, Prod.snd (Prod.snd (Prod.snd r)))) fun (r_1 : List (Option Nat) × List HN) => Option.bind (m_impl_placesOf (Prod.fst (Prod.snd r), Prod.fst r_1)) fun (r : List Int) => Option.some (r, Bool.true, Prod.snd r_1)

noncomputable def cx_impl_ParentsOf : Cx := ⟨tb, lookE [(47, e_impl_chosen), (51, e_goquery_Selection_Parents), (48, e_impl_placesOf)]⟩

theorem ck_impl_ParentsOf : CxOK Try.prog (cx_impl_ParentsOf) := cx_ok tb_ok (.cons ok_impl_chosen Try.call47 (.cons ok_goquery_Selection_Parents Try.call51 (.cons ok_impl_placesOf Try.call48 .nil)))

noncomputable def e_impl_ParentsOf : Ent := ⟨0, p_impl_ParentsOf, q_impl_ParentsOf, m_impl_ParentsOf⟩
theorem ok_impl_ParentsOf : FnOK Try.prog 21 e_impl_ParentsOf := fn_ok (L := lookL []) ck_impl_ParentsOf mixed Try.func21 rfl (by kernel_rfl) (by kernel_rfl) (ls_ok (l := []) (by kernel_rfl) .nil) (by intro x; kernel_rfl)

abbrev p_impl_ParentsOf_f : Pt := [(0, .lst .node), (1, .lst .int)]
abbrev q_impl_ParentsOf_f : Pt := [(0, .own .int 3), (1, .bool)]
noncomputable def m_impl_ParentsOf_f : Tup p_impl_ParentsOf_f → Option (Tup q_impl_ParentsOf_f) := frT 0 p_impl_ParentsOf_f q_impl_ParentsOf_f 98 102 (m_impl_ParentsOf)
noncomputable def e_impl_ParentsOf_f : Ent := ⟨0, p_impl_ParentsOf_f, q_impl_ParentsOf_f, m_impl_ParentsOf_f⟩
theorem ok_impl_ParentsOf_f : FnOK Try.prog 21 e_impl_ParentsOf_f := fresh_ok (np := 0) (p := p_impl_ParentsOf_f) (q := q_impl_ParentsOf_f) (m := m_impl_ParentsOf) ok_impl_ParentsOf (by kernel_rfl) (by kernel_rfl)

/-! impl.NextOf -/
abbrev p_impl_NextOf : Pt := [(0, .lst .node), (1, .lst .int), (NT, .ns 98 102)]
abbrev q_impl_NextOf : Pt := [(0, .own .int 3), (1, .bool), (NT, .ns 98 102)]

noncomputable def m_impl_NextOf : Tup p_impl_NextOf → Option (Tup q_impl_NextOf) := fun (x : List Node × List Int × List HN) => Option.bind (m_impl_chosen (Prod.fst x, Prod.fst (Prod.snd x), Prod.snd (Prod.snd x))) fun (r : List (Option Nat) × List (Option Nat) × Bool × List HN) => bif !Prod.fst (Prod.snd (Prod.snd r)) then Option.some ([], Bool.false, Prod.snd (Prod.snd (Prod.snd r))) else Option.bind (m_goquery_Selection_Next (Prod.fst r, Prod.snd (Prod.snd (Prod.snd r)))) fun (r_1 : List (Option Nat) × List HN) => Option.bind (m_impl_placesOf (Prod.fst (Prod.snd r), Prod.fst r_1)) fun (r : List Int) => Option.some (r, Bool.true, Prod.snd r_1)

noncomputable def cx_impl_NextOf : Cx := ⟨tb, lookE [(47, e_impl_chosen), (53, e_goquery_Selection_Next), (48, e_impl_placesOf)]⟩

theorem ck_impl_NextOf : CxOK Try.prog (cx_impl_NextOf) := cx_ok tb_ok (.cons ok_impl_chosen Try.call47 (.cons ok_goquery_Selection_Next Try.call53 (.cons ok_impl_placesOf Try.call48 .nil)))

noncomputable def e_impl_NextOf : Ent := ⟨0, p_impl_NextOf, q_impl_NextOf, m_impl_NextOf⟩
theorem ok_impl_NextOf : FnOK Try.prog 23 e_impl_NextOf := fn_ok (L := lookL []) ck_impl_NextOf mixed Try.func23 rfl (by kernel_rfl) (by kernel_rfl) (ls_ok (l := []) (by kernel_rfl) .nil) (by intro x; kernel_rfl)

abbrev p_impl_NextOf_f : Pt := [(0, .lst .node), (1, .lst .int)]
abbrev q_impl_NextOf_f : Pt := [(0, .own .int 3), (1, .bool)]
noncomputable def m_impl_NextOf_f : Tup p_impl_NextOf_f → Option (Tup q_impl_NextOf_f) := frT 0 p_impl_NextOf_f q_impl_NextOf_f 98 102 (m_impl_NextOf)
noncomputable def e_impl_NextOf_f : Ent := ⟨0, p_impl_NextOf_f, q_impl_NextOf_f, m_impl_NextOf_f⟩
theorem ok_impl_NextOf_f : FnOK Try.prog 23 e_impl_NextOf_f := fresh_ok (np := 0) (p := p_impl_NextOf_f) (q := q_impl_NextOf_f) (m := m_impl_NextOf) ok_impl_NextOf (by kernel_rfl) (by kernel_rfl)

/-! impl.NextAllOf -/
abbrev p_impl_NextAllOf : Pt := [(0, .lst .node), (1, .lst .int), (NT, .ns 98 102)]
abbrev q_impl_NextAllOf : Pt := [(0, .own .int 3), (1, .bool), (NT, .ns 98 102)]

noncomputable def m_impl_NextAllOf : Tup p_impl_NextAllOf → Option (Tup q_impl_NextAllOf) := fun (x : List Node × List Int × List HN) => Option.bind (m_impl_chosen (Prod.fst x, Prod.fst (Prod.snd x), Prod.snd (Prod.snd x))) fun (r : List (Option Nat) × List (Option Nat) × Bool × List HN) => bif !Prod.fst (Prod.snd (Prod.snd r)) then Option.some ([], Bool.false, Prod.snd (Prod.snd (Prod.snd r))) else Option.bind (m_goquery_Selection_NextAll (Prod.fst r, Prod.snd (Prod.snd (Prod.snd r)))) fun (r_1 : List (Option Nat) × List HN) => Option.bind (m_impl_placesOf (Prod.fst (Prod.snd r), Prod.fst r_1)) fun (r : List Int) => Option.some (r, Bool.true, Prod.snd r_1)

noncomputable def cx_impl_NextAllOf : Cx := ⟨tb, lookE [(47, e_impl_chosen), (58, e_goquery_Selection_NextAll), (48, e_impl_placesOf)]⟩

theorem ck_impl_NextAllOf : CxOK Try.prog (cx_impl_NextAllOf) := cx_ok tb_ok (.cons ok_impl_chosen Try.call47 (.cons ok_goquery_Selection_NextAll Try.call58 (.cons ok_impl_placesOf Try.call48 .nil)))

noncomputable def e_impl_NextAllOf : Ent := ⟨0, p_impl_NextAllOf, q_impl_NextAllOf, m_impl_NextAllOf⟩
theorem ok_impl_NextAllOf : FnOK Try.prog 27 e_impl_NextAllOf := fn_ok (L := lookL []) ck_impl_NextAllOf mixed Try.func27 rfl (by kernel_rfl) (by kernel_rfl) (ls_ok (l := []) (by kernel_rfl) .nil) (by intro x; kernel_rfl)

abbrev p_impl_NextAllOf_f : Pt := [(0, .lst .node), (1, .lst .int)]
abbrev q_impl_NextAllOf_f : Pt := [(0, .own .int 3), (1, .bool)]
noncomputable def m_impl_NextAllOf_f : Tup p_impl_NextAllOf_f → Option (Tup q_impl_NextAllOf_f) := frT 0 p_impl_NextAllOf_f q_impl_NextAllOf_f 98 102 (m_impl_NextAllOf)
noncomputable def e_impl_NextAllOf_f : Ent := ⟨0, p_impl_NextAllOf_f, q_impl_NextAllOf_f, m_impl_NextAllOf_f⟩
theorem ok_impl_NextAllOf_f : FnOK Try.prog 27 e_impl_NextAllOf_f := fresh_ok (np := 0) (p := p_impl_NextAllOf_f) (q := q_impl_NextAllOf_f) (m := m_impl_NextAllOf) ok_impl_NextAllOf (by kernel_rfl) (by kernel_rfl)

/-! impl.PrevAllOf -/
abbrev p_impl_PrevAllOf : Pt := [(0, .lst .node), (1, .lst .int), (NT, .ns 98 102)]
abbrev q_impl_PrevAllOf : Pt := [(0, .own .int 3), (1, .bool), (NT, .ns 98 102)]

noncomputable def m_impl_PrevAllOf : Tup p_impl_PrevAllOf → Option (Tup q_impl_PrevAllOf) := fun (x : List Node × List Int × List HN) => Option.bind (m_impl_chosen (Prod.fst x, Prod.fst (Prod.snd x), Prod.snd (Prod.snd x))) fun (r : List (Option Nat) × List (Option Nat) × Bool × List HN) => bif !Prod.fst (Prod.snd (Prod.snd r)) then Option.some ([], Bool.false, Prod.snd (Prod.snd (Prod.snd r))) else Option.bind (m_goquery_Selection_PrevAll (Prod.fst r, Prod.snd (Prod.snd (Prod.snd r)))) fun (r_1 : List (Option Nat) × List HN) => Option.bind (m_impl_placesOf (Prod.fst (Prod.snd r), Prod.fst r_1)) fun (r : List Int) => Option.some (r, Bool.true, Prod.snd r_1)

noncomputable def cx_impl_PrevAllOf : Cx := ⟨tb, lookE [(47, e_impl_chosen), (54, e_goquery_Selection_PrevAll), (48, e_impl_placesOf)]⟩

theorem ck_impl_PrevAllOf : CxOK Try.prog (cx_impl_PrevAllOf) := cx_ok tb_ok (.cons ok_impl_chosen Try.call47 (.cons ok_goquery_Selection_PrevAll Try.call54 (.cons ok_impl_placesOf Try.call48 .nil)))

noncomputable def e_impl_PrevAllOf : Ent := ⟨0, p_impl_PrevAllOf, q_impl_PrevAllOf, m_impl_PrevAllOf⟩
theorem ok_impl_PrevAllOf : FnOK Try.prog 24 e_impl_PrevAllOf := fn_ok (L := lookL []) ck_impl_PrevAllOf mixed Try.func24 rfl (by kernel_rfl) (by kernel_rfl) (ls_ok (l := []) (by kernel_rfl) .nil) (by intro x; kernel_rfl)

abbrev p_impl_PrevAllOf_f : Pt := [(0, .lst .node), (1, .lst .int)]
abbrev q_impl_PrevAllOf_f : Pt := [(0, .own .int 3), (1, .bool)]
noncomputable def m_impl_PrevAllOf_f : Tup p_impl_PrevAllOf_f → Option (Tup q_impl_PrevAllOf_f) := frT 0 p_impl_PrevAllOf_f q_impl_PrevAllOf_f 98 102 (m_impl_PrevAllOf)
noncomputable def e_impl_PrevAllOf_f : Ent := ⟨0, p_impl_PrevAllOf_f, q_impl_PrevAllOf_f, m_impl_PrevAllOf_f⟩
theorem ok_impl_PrevAllOf_f : FnOK Try.prog 24 e_impl_PrevAllOf_f := fresh_ok (np := 0) (p := p_impl_PrevAllOf_f) (q := q_impl_PrevAllOf_f) (m := m_impl_PrevAllOf) ok_impl_PrevAllOf (by kernel_rfl) (by kernel_rfl)

/-! impl.siblings -/
abbrev p_impl_siblings : Pt := [(0, .fp (.rc .nps [] 2)), (NT, .ns 98 102)]
abbrev q_impl_siblings : Pt := [(0, .fp (.rc .nps [] 2)), (NT, .ns 98 102)]

abbrev p_impl_siblings_0 : Pt := [(0, .fp (.rc .nps [] 2)), (8, .lst .np), (9, .int .i64), (10, .int .i64), (NT, .ns 98 102)]
abbrev x_impl_siblings_0 : List (Xt × Pt) := [(.ex 0, [(0, .fp (.rc .nps [] 2)), (NT, .ns 98 102)]), (.rt, [(2, .fp (.rc .nps [] 2)), (NT, .ns 98 102)])]
noncomputable def m_impl_siblings_0 : Tup p_impl_siblings_0 → Option (Stp (Tup p_impl_siblings_0) (SumT (x_impl_siblings_0.map (·.2)))) := fun (x : List (Option Nat) × List (Option Nat) × Int × Int × List HN) => bif Decidable.decide (Prod.fst (Prod.snd (Prod.snd (Prod.snd x))) < Prod.fst (Prod.snd (Prod.snd x))) then Option.bind (atI (Prod.fst (Prod.snd x)) (Prod.fst (Prod.snd (Prod.snd (Prod.snd x))))) fun (v : Option Nat) => Option.bind v fun (i : Nat) => Option.bind (Option.some i) fun (i : Nat) => Option.bind (Prod.snd (Prod.snd (Prod.snd (Prod.snd x))))[i]? fun (h : HN) => bif Option.isNone (HN.par h) then Option.none else Option.some (Stp.nx (Prod.fst x, Prod.fst (Prod.snd x), Prod.fst (Prod.snd (Prod.snd x)), Go.IntKind.wrap Go.IntKind.i64 (Prod.fst (Prod.snd (Prod.snd (Prod.snd x))) + (1 : Int)), Prod.snd (Prod.snd (Prod.snd (Prod.snd x))))) else Option.some (Stp.out (Sum.inl (Prod.fst x, Prod.snd (Prod.snd (Prod.snd (Prod.snd x))))))

noncomputable def m_impl_siblings : Tup p_impl_siblings → Option (Tup q_impl_siblings) := fun (x : List (Option Nat) × List HN) => Option.bind (loopO m_impl_siblings_0 (Prod.fst x, Prod.fst x, (↑(List.length (Prod.fst x)) : Int), (0 : Int), Prod.snd x)) fun (y : List (Option Nat) × List HN ⊕ List (Option Nat) × List HN) => selim (fun (y : List (Option Nat) × List HN) => Option.bind (m_goquery_Selection_Siblings (Prod.fst y, Prod.snd y)) fun (r : List (Option Nat) × List HN) => Option.some (Prod.fst r, Prod.snd r)) (fun (y : List (Option Nat) × List HN) => Option.some (Prod.fst y, Prod.snd y)) y

noncomputable def cx_impl_siblings : Cx := ⟨tb, lookE [(88, e_goquery_Selection_Siblings)]⟩

theorem ck_impl_siblings : CxOK Try.prog (cx_impl_siblings) := cx_ok tb_ok (.cons ok_goquery_Selection_Siblings Try.call88 .nil)

noncomputable def c_impl_siblings_0 : Code := loopAt (Go.Proofs.Try.f57.body.getD .skip) 0

noncomputable def l_impl_siblings_0 : LEnt := ⟨p_impl_siblings_0, x_impl_siblings_0, loopO (m_impl_siblings_0)⟩

theorem lo_impl_siblings_0 : LOK Try.prog 22 0 true (l_impl_siblings_0) c_impl_siblings_0 := loop_ok (body := m_impl_siblings_0) (L := lookL []) (ck_impl_siblings) mixed (ls_ok (l := []) (by kernel_rfl) .nil) (by intro x; kernel_rfl) (fun x y h => loopO_iff.1 h)

noncomputable def e_impl_siblings : Ent := ⟨0, p_impl_siblings, q_impl_siblings, m_impl_siblings⟩
theorem ok_impl_siblings : FnOK Try.prog 57 e_impl_siblings := fn_ok (L := lookL [(0, l_impl_siblings_0)]) ck_impl_siblings mixed Try.func57 rfl (by kernel_rfl) (by kernel_rfl) (ls_ok (l := [(0, c_impl_siblings_0)]) (by kernel_rfl) (.cons rfl (lo_impl_siblings_0) .nil)) (by intro x; kernel_rfl)

/-! impl.SiblingsOf -/
abbrev p_impl_SiblingsOf : Pt := [(0, .lst .node), (1, .lst .int), (NT, .ns 98 102)]
abbrev q_impl_SiblingsOf : Pt := [(0, .own .int 3), (1, .bool), (NT, .ns 98 102)]

noncomputable def m_impl_SiblingsOf : Tup p_impl_SiblingsOf → Option (Tup q_impl_SiblingsOf) := fun (x : List Node × List Int × List HN) => Option.bind (m_impl_chosen (Prod.fst x, Prod.fst (Prod.snd x), Prod.snd (Prod.snd x))) fun (r : List (Option Nat) × List (Option Nat) × Bool × List HN) => bif !Prod.fst (Prod.snd (Prod.snd r)) then Option.some ([], Bool.false, Prod.snd (Prod.snd (Prod.snd r))) else Option.bind (m_impl_siblings (Prod.fst r, Prod.snd (Prod.snd (Prod.snd r)))) fun (r_1 : List (Option Nat) × List HN) => Option.bind (m_impl_placesOf (Prod.fst (Prod.snd r), Prod.fst r_1)) fun (r : List Int) => Option.some (r, Bool.true, Prod.snd r_1)

noncomputable def cx_impl_SiblingsOf : Cx := ⟨tb, lookE [(47, e_impl_chosen), (57, e_impl_siblings), (48, e_impl_placesOf)]⟩

theorem ck_impl_SiblingsOf : CxOK Try.prog (cx_impl_SiblingsOf) := cx_ok tb_ok (.cons ok_impl_chosen Try.call47 (.cons ok_impl_siblings Try.call57 (.cons ok_impl_placesOf Try.call48 .nil)))

noncomputable def e_impl_SiblingsOf : Ent := ⟨0, p_impl_SiblingsOf, q_impl_SiblingsOf, m_impl_SiblingsOf⟩
theorem ok_impl_SiblingsOf : FnOK Try.prog 26 e_impl_SiblingsOf := fn_ok (L := lookL []) ck_impl_SiblingsOf mixed Try.func26 rfl (by kernel_rfl) (by kernel_rfl) (ls_ok (l := []) (by kernel_rfl) .nil) (by intro x; kernel_rfl)

abbrev p_impl_SiblingsOf_f : Pt := [(0, .lst .node), (1, .lst .int)]
abbrev q_impl_SiblingsOf_f : Pt := [(0, .own .int 3), (1, .bool)]
noncomputable def m_impl_SiblingsOf_f : Tup p_impl_SiblingsOf_f → Option (Tup q_impl_SiblingsOf_f) := frT 0 p_impl_SiblingsOf_f q_impl_SiblingsOf_f 98 102 (m_impl_SiblingsOf)
noncomputable def e_impl_SiblingsOf_f : Ent := ⟨0, p_impl_SiblingsOf_f, q_impl_SiblingsOf_f, m_impl_SiblingsOf_f⟩
theorem ok_impl_SiblingsOf_f : FnOK Try.prog 26 e_impl_SiblingsOf_f := fresh_ok (np := 0) (p := p_impl_SiblingsOf_f) (q := q_impl_SiblingsOf_f) (m := m_impl_SiblingsOf) ok_impl_SiblingsOf (by kernel_rfl) (by kernel_rfl)

/-! impl.NextUntilOf -/
abbrev p_impl_NextUntilOf : Pt := [(0, .lst .node), (1, .lst .int), (2, .lst .int), (NT, .ns 98 102)]
abbrev q_impl_NextUntilOf : Pt := [(0, .own .int 3), (1, .bool), (NT, .ns 98 102)]

noncomputable def m_impl_NextUntilOf : Tup p_impl_NextUntilOf → Option (Tup q_impl_NextUntilOf) := fun (x : List Node × List Int × List Int × List HN) => Option.bind (m_impl_chosen (Prod.fst x, Prod.fst (Prod.snd x), Prod.snd (Prod.snd (Prod.snd x)))) fun (r : List (Option Nat) × List (Option Nat) × Bool × List HN) => Option.bind (m_impl_these (Prod.fst (Prod.snd r), Prod.fst (Prod.snd (Prod.snd x)))) fun (r_1 : List (Option Nat) × Bool) => bif !Prod.fst (Prod.snd (Prod.snd r)) then Option.some ([], Bool.false, Prod.snd (Prod.snd (Prod.snd r))) else bif !Prod.snd r_1 then Option.some ([], Bool.false, Prod.snd (Prod.snd (Prod.snd r))) else Option.bind (m_goquery_Selection_NextUntilNodes (Prod.fst r, Prod.fst r_1, Prod.snd (Prod.snd (Prod.snd r)))) fun (r_2 : List (Option Nat) × List HN) => Option.bind (m_impl_placesOf (Prod.fst (Prod.snd r), Prod.fst r_2)) fun (r : List Int) => Option.some (r, Bool.true, Prod.snd r_2)

noncomputable def cx_impl_NextUntilOf : Cx := ⟨tb, lookE [(47, e_impl_chosen), (55, e_impl_these), (56, e_goquery_Selection_NextUntilNodes), (48, e_impl_placesOf)]⟩

theorem ck_impl_NextUntilOf : CxOK Try.prog (cx_impl_NextUntilOf) := cx_ok tb_ok (.cons ok_impl_chosen Try.call47 (.cons ok_impl_these Try.call55 (.cons ok_goquery_Selection_NextUntilNodes Try.call56 (.cons ok_impl_placesOf Try.call48 .nil))))

noncomputable def e_impl_NextUntilOf : Ent := ⟨0, p_impl_NextUntilOf, q_impl_NextUntilOf, m_impl_NextUntilOf⟩
theorem ok_impl_NextUntilOf : FnOK Try.prog 25 e_impl_NextUntilOf := fn_ok (L := lookL []) ck_impl_NextUntilOf mixed Try.func25 rfl (by kernel_rfl) (by kernel_rfl) (ls_ok (l := []) (by kernel_rfl) .nil) (by intro x; kernel_rfl)

abbrev p_impl_NextUntilOf_f : Pt := [(0, .lst .node), (1, .lst .int), (2, .lst .int)]
abbrev q_impl_NextUntilOf_f : Pt := [(0, .own .int 3), (1, .bool)]
noncomputable def m_impl_NextUntilOf_f : Tup p_impl_NextUntilOf_f → Option (Tup q_impl_NextUntilOf_f) := frT 0 p_impl_NextUntilOf_f q_impl_NextUntilOf_f 98 102 (m_impl_NextUntilOf)
noncomputable def e_impl_NextUntilOf_f : Ent := ⟨0, p_impl_NextUntilOf_f, q_impl_NextUntilOf_f, m_impl_NextUntilOf_f⟩
theorem ok_impl_NextUntilOf_f : FnOK Try.prog 25 e_impl_NextUntilOf_f := fresh_ok (np := 0) (p := p_impl_NextUntilOf_f) (q := q_impl_NextUntilOf_f) (m := m_impl_NextUntilOf) ok_impl_NextUntilOf (by kernel_rfl) (by kernel_rfl)

/-! laws.FnContentsOf -/
abbrev p_laws_FnContentsOf : Pt := [(0, .lst .node), (1, .lst .int)]
abbrev q_laws_FnContentsOf : Pt := [(0, .bool)]

noncomputable def m_laws_FnContentsOf : Tup p_laws_FnContentsOf → Option (Tup q_laws_FnContentsOf) := fun (x : List Node × List Int) => Option.bind (m_laws_zzFits1 (Prod.fst x)) fun (r : Bool) => bif !r then Option.some Bool.true else bif Decidable.decide ((2147483647 : Int) < (↑(List.length (Prod.snd x)) : Int)) then Option.some Bool.true else Option.bind (m_laws_rising (Prod.fst x, Prod.snd x)) fun (r : Bool) => bif !r then Option.some Bool.true else Option.bind (m_laws_by7 (21 : Int)) fun (r : Int × List UInt8 × List Int × Int × Int) => Option.bind (m_spec_Related (Prod.fst x, Prod.snd x, Prod.fst r, Prod.fst (Prod.snd r), Prod.fst (Prod.snd (Prod.snd r)), Prod.fst (Prod.snd (Prod.snd (Prod.snd r))), Prod.snd (Prod.snd (Prod.snd (Prod.snd r))))) fun (r : List Int × Bool) => Option.bind (m_impl_ContentsOf_f (Prod.fst x, Prod.snd x)) fun (r_1 : List Int × Bool) => bif Prod.snd r_1 then Option.bind (m_spec_SameOnce (Prod.fst r_1, Prod.fst r)) fun (r : Bool) => Option.some r else Option.some Bool.false

noncomputable def cx_laws_FnContentsOf : Cx := ⟨tb, lookE [(12, e_laws_zzFits1), (13, e_laws_rising), (15, e_laws_by7), (14, e_spec_Related), (16, e_impl_ContentsOf_f), (17, e_spec_SameOnce)]⟩

theorem ck_laws_FnContentsOf : CxOK Try.prog (cx_laws_FnContentsOf) := cx_ok tb_ok (.cons ok_laws_zzFits1 Try.call12 (.cons ok_laws_rising Try.call13 (.cons ok_laws_by7 Try.call15 (.cons ok_spec_Related Try.call14 (.cons ok_impl_ContentsOf_f Try.call16 (.cons ok_spec_SameOnce Try.call17 .nil))))))

noncomputable def e_laws_FnContentsOf : Ent := ⟨0, p_laws_FnContentsOf, q_laws_FnContentsOf, m_laws_FnContentsOf⟩
theorem ok_laws_FnContentsOf : FnOK Try.prog 3 e_laws_FnContentsOf := fn_ok (L := lookL []) ck_laws_FnContentsOf mixed Try.func3 rfl (by kernel_rfl) (by kernel_rfl) (ls_ok (l := []) (by kernel_rfl) .nil) (by intro x; kernel_rfl)

/-! laws.FnChildrenOrder -/
abbrev p_laws_FnChildrenOrder : Pt := [(0, .lst .node), (1, .int .i64)]
abbrev q_laws_FnChildrenOrder : Pt := [(0, .bool)]

abbrev p_laws_FnChildrenOrder_0 : Pt := [(0, .lst .node), (5, .own .int 3), (6, .bool), (7, .own .int 3), (8, .bool), (9, .own .int 3), (10, .int .i64)]
abbrev x_laws_FnChildrenOrder_0 : List (Xt × Pt) := [(.ex 0, [(0, .lst .node), (5, .own .int 3), (6, .bool), (7, .own .int 3), (8, .bool), (9, .own .int 3)]), (.rt, [(4, .bool)])]
noncomputable def m_laws_FnChildrenOrder_0 : Tup p_laws_FnChildrenOrder_0 → Option (Stp (Tup p_laws_FnChildrenOrder_0) (SumT (x_laws_FnChildrenOrder_0.map (·.2)))) := fun (x : List Node × List Int × Bool × List Int × Bool × List Int × Int) => bif Decidable.decide (Prod.snd (Prod.snd (Prod.snd (Prod.snd (Prod.snd (Prod.snd x))))) < (↑(List.length (Prod.fst (Prod.snd (Prod.snd (Prod.snd x))))) : Int)) then Option.bind (atI (Prod.fst (Prod.snd (Prod.snd (Prod.snd x)))) (Prod.snd (Prod.snd (Prod.snd (Prod.snd (Prod.snd (Prod.snd x))))))) fun (x_1 : Int) => Option.bind (Prod.fst (Prod.snd (Prod.snd (Prod.snd x))))[Int.toNat (Prod.snd (Prod.snd (Prod.snd (Prod.snd (Prod.snd (Prod.snd x))))))]? fun (v : Int) => bif Decidable.decide (v < (0 : Int)) then Option.some (Stp.out (Sum.inr Bool.false)) else Option.bind (atI (Prod.fst (Prod.snd (Prod.snd (Prod.snd x)))) (Prod.snd (Prod.snd (Prod.snd (Prod.snd (Prod.snd (Prod.snd x))))))) fun (x_2 : Int) => Option.bind (Prod.fst (Prod.snd (Prod.snd (Prod.snd x))))[Int.toNat (Prod.snd (Prod.snd (Prod.snd (Prod.snd (Prod.snd (Prod.snd x))))))]? fun (v : Int) => bif Decidable.decide ((↑(List.length (Prod.fst x)) : Int) ≤ v) then Option.some (Stp.out (Sum.inr Bool.false)) else Option.bind (atI (Prod.fst (Prod.snd (Prod.snd (Prod.snd x)))) (Prod.snd (Prod.snd (Prod.snd (Prod.snd (Prod.snd (Prod.snd x))))))) fun (x_3 : Int) => Option.bind (Prod.fst (Prod.snd (Prod.snd (Prod.snd x))))[Int.toNat (Prod.snd (Prod.snd (Prod.snd (Prod.snd (Prod.snd (Prod.snd x))))))]? fun (v : Int) => Option.bind (atI (Prod.fst x) v) fun (v : Node) => bif Decidable.decide (Node.kind v = (3 : Int)) then Option.bind (atI (Prod.fst (Prod.snd (Prod.snd (Prod.snd x)))) (Prod.snd (Prod.snd (Prod.snd (Prod.snd (Prod.snd (Prod.snd x))))))) fun (x_4 : Int) => Option.bind (Prod.fst (Prod.snd (Prod.snd (Prod.snd x))))[Int.toNat (Prod.snd (Prod.snd (Prod.snd (Prod.snd (Prod.snd (Prod.snd x))))))]? fun (v : Int) => Option.bind (appL (Prod.fst (Prod.snd (Prod.snd (Prod.snd (Prod.snd (Prod.snd x)))))) [v]) fun (r : List Int) => Option.some (Stp.nx (Prod.fst x, Prod.fst (Prod.snd x), Prod.fst (Prod.snd (Prod.snd x)), Prod.fst (Prod.snd (Prod.snd (Prod.snd x))), Prod.fst (Prod.snd (Prod.snd (Prod.snd (Prod.snd x)))), r, Go.IntKind.wrap Go.IntKind.i64 (Prod.snd (Prod.snd (Prod.snd (Prod.snd (Prod.snd (Prod.snd x))))) + (1 : Int)))) else Option.some (Stp.nx (Prod.fst x, Prod.fst (Prod.snd x), Prod.fst (Prod.snd (Prod.snd x)), Prod.fst (Prod.snd (Prod.snd (Prod.snd x))), Prod.fst (Prod.snd (Prod.snd (Prod.snd (Prod.snd x)))), Prod.fst (Prod.snd (Prod.snd (Prod.snd (Prod.snd (Prod.snd x))))), Go.IntKind.wrap Go.IntKind.i64 (Prod.snd (Prod.snd (Prod.snd (Prod.snd (Prod.snd (Prod.snd x))))) + (1 : Int)))) else Option.some (Stp.out (Sum.inl (Prod.fst x, Prod.fst (Prod.snd x), Prod.fst (Prod.snd (Prod.snd x)), Prod.fst (Prod.snd (Prod.snd (Prod.snd x))), Prod.fst (Prod.snd (Prod.snd (Prod.snd (Prod.snd x)))), Prod.fst (Prod.snd (Prod.snd (Prod.snd (Prod.snd (Prod.snd x))))))))

noncomputable def m_laws_FnChildrenOrder : Tup p_laws_FnChildrenOrder → Option (Tup q_laws_FnChildrenOrder) := fun (x : List Node × Int) => Option.bind (m_laws_zzFits1 (Prod.fst x)) fun (r : Bool) => bif !r then Option.some Bool.true else Option.bind (m_laws_rising (Prod.fst x, [Prod.snd x])) fun (r : Bool) => bif !r then Option.some Bool.true else Option.bind (m_impl_ChildrenOf_f (Prod.fst x, [Prod.snd x])) fun (r : List Int × Bool) => Option.bind (m_impl_ContentsOf_f (Prod.fst x, [Prod.snd x])) fun (r_1 : List Int × Bool) => Option.bind (loopO m_laws_FnChildrenOrder_0 (Prod.fst x, Prod.fst r, Prod.snd r, Prod.fst r_1, Prod.snd r_1, [], (0 : Int))) fun (y : List Node × List Int × Bool × List Int × Bool × List Int ⊕ Bool) => selim (fun (y : List Node × List Int × Bool × List Int × Bool × List Int) => bif Prod.fst (Prod.snd (Prod.snd y)) then bif Prod.fst (Prod.snd (Prod.snd (Prod.snd (Prod.snd y)))) then Option.bind (m_spec_Order (Prod.fst y, Prod.fst (Prod.snd (Prod.snd (Prod.snd y))))) fun (r : Bool) => bif r then Option.bind (m_spec_SameList (Prod.fst (Prod.snd y), Prod.snd (Prod.snd (Prod.snd (Prod.snd (Prod.snd y)))))) fun (r : Bool) => Option.some r else Option.some Bool.false else Option.some Bool.false else Option.some Bool.false) (fun (y : Bool) => Option.some y) y

noncomputable def cx_laws_FnChildrenOrder : Cx := ⟨tb, lookE [(12, e_laws_zzFits1), (13, e_laws_rising), (18, e_impl_ChildrenOf_f), (16, e_impl_ContentsOf_f), (19, e_spec_Order), (20, e_spec_SameList)]⟩

theorem ck_laws_FnChildrenOrder : CxOK Try.prog (cx_laws_FnChildrenOrder) := cx_ok tb_ok (.cons ok_laws_zzFits1 Try.call12 (.cons ok_laws_rising Try.call13 (.cons ok_impl_ChildrenOf_f Try.call18 (.cons ok_impl_ContentsOf_f Try.call16 (.cons ok_spec_Order Try.call19 (.cons ok_spec_SameList Try.call20 .nil))))))

noncomputable def c_laws_FnChildrenOrder_0 : Code := loopAt (Go.Proofs.Try.f4.body.getD .skip) 0

noncomputable def l_laws_FnChildrenOrder_0 : LEnt := ⟨p_laws_FnChildrenOrder_0, x_laws_FnChildrenOrder_0, loopO (m_laws_FnChildrenOrder_0)⟩

theorem lo_laws_FnChildrenOrder_0 : LOK Try.prog 83 0 false (l_laws_FnChildrenOrder_0) c_laws_FnChildrenOrder_0 := loop_ok (body := m_laws_FnChildrenOrder_0) (L := lookL []) (ck_laws_FnChildrenOrder) mixed (ls_ok (l := []) (by kernel_rfl) .nil) (by intro x; kernel_rfl) (fun x y h => loopO_iff.1 h)

noncomputable def e_laws_FnChildrenOrder : Ent := ⟨0, p_laws_FnChildrenOrder, q_laws_FnChildrenOrder, m_laws_FnChildrenOrder⟩
theorem ok_laws_FnChildrenOrder : FnOK Try.prog 4 e_laws_FnChildrenOrder := fn_ok (L := lookL [(0, l_laws_FnChildrenOrder_0)]) ck_laws_FnChildrenOrder mixed Try.func4 rfl (by kernel_rfl) (by kernel_rfl) (ls_ok (l := [(0, c_laws_FnChildrenOrder_0)]) (by kernel_rfl) (.cons rfl (lo_laws_FnChildrenOrder_0) .nil)) (by intro x; kernel_rfl)

/-! laws.FnParentChain -/
abbrev p_laws_FnParentChain : Pt := [(0, .lst .node), (1, .lst .int)]
abbrev q_laws_FnParentChain : Pt := [(0, .bool)]

noncomputable def m_laws_FnParentChain : Tup p_laws_FnParentChain → Option (Tup q_laws_FnParentChain) := fun (x : List Node × List Int) => Option.bind (m_laws_zzFits1 (Prod.fst x)) fun (r : Bool) => bif !r then Option.some Bool.true else bif Decidable.decide ((2147483647 : Int) < (↑(List.length (Prod.snd x)) : Int)) then Option.some Bool.true else Option.bind (m_laws_rising (Prod.fst x, Prod.snd x)) fun (r : Bool) => bif !r then Option.some Bool.true else Option.bind (m_impl_ParentsOf_f (Prod.fst x, Prod.snd x)) fun (r : List Int × Bool) => Option.bind (m_impl_ParentOf_f (Prod.fst x, Prod.snd x)) fun (r_1 : List Int × Bool) => Option.bind (m_impl_ParentsOf_f (Prod.fst x, Prod.fst r_1)) fun (r_2 : List Int × Bool) => Option.bind (m_spec_Related (Prod.fst x, Prod.fst r_1, (37 : Int), [], Prod.fst r_2, (0 : Int), (0 : Int))) fun (r_3 : List Int × Bool) => bif Prod.snd r then bif Prod.snd r_1 then bif Prod.snd r_2 then Option.bind (m_spec_SameOnce (Prod.fst r, Prod.fst r_3)) fun (r : Bool) => Option.some r else Option.some Bool.false else Option.some Bool.false else Option.some Bool.false

noncomputable def cx_laws_FnParentChain : Cx := ⟨tb, lookE [(12, e_laws_zzFits1), (13, e_laws_rising), (21, e_impl_ParentsOf_f), (22, e_impl_ParentOf_f), (14, e_spec_Related), (17, e_spec_SameOnce)]⟩

theorem ck_laws_FnParentChain : CxOK Try.prog (cx_laws_FnParentChain) := cx_ok tb_ok (.cons ok_laws_zzFits1 Try.call12 (.cons ok_laws_rising Try.call13 (.cons ok_impl_ParentsOf_f Try.call21 (.cons ok_impl_ParentOf_f Try.call22 (.cons ok_spec_Related Try.call14 (.cons ok_spec_SameOnce Try.call17 .nil))))))

noncomputable def e_laws_FnParentChain : Ent := ⟨0, p_laws_FnParentChain, q_laws_FnParentChain, m_laws_FnParentChain⟩
theorem ok_laws_FnParentChain : FnOK Try.prog 5 e_laws_FnParentChain := fn_ok (L := lookL []) ck_laws_FnParentChain mixed Try.func5 rfl (by kernel_rfl) (by kernel_rfl) (ls_ok (l := []) (by kernel_rfl) .nil) (by intro x; kernel_rfl)

/-! laws.FnNextOf -/
abbrev p_laws_FnNextOf : Pt := [(0, .lst .node), (1, .lst .int)]
abbrev q_laws_FnNextOf : Pt := [(0, .bool)]

noncomputable def m_laws_FnNextOf : Tup p_laws_FnNextOf → Option (Tup q_laws_FnNextOf) := fun (x : List Node × List Int) => Option.bind (m_laws_zzFits1 (Prod.fst x)) fun (r : Bool) => bif !r then Option.some Bool.true else bif Decidable.decide ((2147483647 : Int) < (↑(List.length (Prod.snd x)) : Int)) then Option.some Bool.true else Option.bind (m_laws_rising (Prod.fst x, Prod.snd x)) fun (r : Bool) => bif !r then Option.some Bool.true else Option.bind (m_laws_by7 (25 : Int)) fun (r : Int × List UInt8 × List Int × Int × Int) => Option.bind (m_spec_Related (Prod.fst x, Prod.snd x, Prod.fst r, Prod.fst (Prod.snd r), Prod.fst (Prod.snd (Prod.snd r)), Prod.fst (Prod.snd (Prod.snd (Prod.snd r))), Prod.snd (Prod.snd (Prod.snd (Prod.snd r))))) fun (r : List Int × Bool) => Option.bind (m_impl_NextOf_f (Prod.fst x, Prod.snd x)) fun (r_1 : List Int × Bool) => bif Prod.snd r_1 then Option.bind (m_spec_SameOnce (Prod.fst r_1, Prod.fst r)) fun (r : Bool) => Option.some r else Option.some Bool.false

noncomputable def cx_laws_FnNextOf : Cx := ⟨tb, lookE [(12, e_laws_zzFits1), (13, e_laws_rising), (15, e_laws_by7), (14, e_spec_Related), (23, e_impl_NextOf_f), (17, e_spec_SameOnce)]⟩

theorem ck_laws_FnNextOf : CxOK Try.prog (cx_laws_FnNextOf) := cx_ok tb_ok (.cons ok_laws_zzFits1 Try.call12 (.cons ok_laws_rising Try.call13 (.cons ok_laws_by7 Try.call15 (.cons ok_spec_Related Try.call14 (.cons ok_impl_NextOf_f Try.call23 (.cons ok_spec_SameOnce Try.call17 .nil))))))

noncomputable def e_laws_FnNextOf : Ent := ⟨0, p_laws_FnNextOf, q_laws_FnNextOf, m_laws_FnNextOf⟩
theorem ok_laws_FnNextOf : FnOK Try.prog 6 e_laws_FnNextOf := fn_ok (L := lookL []) ck_laws_FnNextOf mixed Try.func6 rfl (by kernel_rfl) (by kernel_rfl) (ls_ok (l := []) (by kernel_rfl) .nil) (by intro x; kernel_rfl)

/-! laws.FnPrevAllOf -/
abbrev p_laws_FnPrevAllOf : Pt := [(0, .lst .node), (1, .lst .int)]
abbrev q_laws_FnPrevAllOf : Pt := [(0, .bool)]

noncomputable def m_laws_FnPrevAllOf : Tup p_laws_FnPrevAllOf → Option (Tup q_laws_FnPrevAllOf) := fun (x : List Node × List Int) => Option.bind (m_laws_zzFits1 (Prod.fst x)) fun (r : Bool) => bif !r then Option.some Bool.true else bif Decidable.decide ((2147483647 : Int) < (↑(List.length (Prod.snd x)) : Int)) then Option.some Bool.true else Option.bind (m_laws_rising (Prod.fst x, Prod.snd x)) fun (r : Bool) => bif !r then Option.some Bool.true else Option.bind (m_laws_by7 (29 : Int)) fun (r : Int × List UInt8 × List Int × Int × Int) => Option.bind (m_spec_Related (Prod.fst x, Prod.snd x, Prod.fst r, Prod.fst (Prod.snd r), Prod.fst (Prod.snd (Prod.snd r)), Prod.fst (Prod.snd (Prod.snd (Prod.snd r))), Prod.snd (Prod.snd (Prod.snd (Prod.snd r))))) fun (r : List Int × Bool) => Option.bind (m_impl_PrevAllOf_f (Prod.fst x, Prod.snd x)) fun (r_1 : List Int × Bool) => bif Prod.snd r_1 then Option.bind (m_spec_SameOnce (Prod.fst r_1, Prod.fst r)) fun (r : Bool) => Option.some r else Option.some Bool.false

noncomputable def cx_laws_FnPrevAllOf : Cx := ⟨tb, lookE [(12, e_laws_zzFits1), (13, e_laws_rising), (15, e_laws_by7), (14, e_spec_Related), (24, e_impl_PrevAllOf_f), (17, e_spec_SameOnce)]⟩

theorem ck_laws_FnPrevAllOf : CxOK Try.prog (cx_laws_FnPrevAllOf) := cx_ok tb_ok (.cons ok_laws_zzFits1 Try.call12 (.cons ok_laws_rising Try.call13 (.cons ok_laws_by7 Try.call15 (.cons ok_spec_Related Try.call14 (.cons ok_impl_PrevAllOf_f Try.call24 (.cons ok_spec_SameOnce Try.call17 .nil))))))

noncomputable def e_laws_FnPrevAllOf : Ent := ⟨0, p_laws_FnPrevAllOf, q_laws_FnPrevAllOf, m_laws_FnPrevAllOf⟩
theorem ok_laws_FnPrevAllOf : FnOK Try.prog 7 e_laws_FnPrevAllOf := fn_ok (L := lookL []) ck_laws_FnPrevAllOf mixed Try.func7 rfl (by kernel_rfl) (by kernel_rfl) (ls_ok (l := []) (by kernel_rfl) .nil) (by intro x; kernel_rfl)

/-! laws.FnNextUntilOf -/
abbrev p_laws_FnNextUntilOf : Pt := [(0, .lst .node), (1, .lst .int), (2, .lst .int)]
abbrev q_laws_FnNextUntilOf : Pt := [(0, .bool)]

noncomputable def m_laws_FnNextUntilOf : Tup p_laws_FnNextUntilOf → Option (Tup q_laws_FnNextUntilOf) := fun (x : List Node × List Int × List Int) => Option.bind (m_laws_zzFits1 (Prod.fst x)) fun (r : Bool) => bif !r then Option.some Bool.true else bif Decidable.decide ((2147483647 : Int) < (↑(List.length (Prod.fst (Prod.snd x))) : Int)) then Option.some Bool.true else bif Decidable.decide ((2147483647 : Int) < (↑(List.length (Prod.snd (Prod.snd x))) : Int)) then Option.some Bool.true else Option.bind (m_laws_rising (Prod.fst x, Prod.fst (Prod.snd x))) fun (r : Bool) => bif !r then Option.some Bool.true else Option.bind (m_laws_rising (Prod.fst x, Prod.snd (Prod.snd x))) fun (r : Bool) => bif !r then Option.some Bool.true else Option.bind (m_spec_Related (Prod.fst x, Prod.fst (Prod.snd x), (27 : Int), [], Prod.snd (Prod.snd x), (0 : Int), (0 : Int))) fun (r : List Int × Bool) => Option.bind (m_impl_NextUntilOf_f (Prod.fst x, Prod.fst (Prod.snd x), Prod.snd (Prod.snd x))) fun (r_1 : List Int × Bool) => bif Prod.snd r_1 then Option.bind (m_spec_SameOnce (Prod.fst r_1, Prod.fst r)) fun (r : Bool) => Option.some r else Option.some Bool.false

noncomputable def cx_laws_FnNextUntilOf : Cx := ⟨tb, lookE [(12, e_laws_zzFits1), (13, e_laws_rising), (14, e_spec_Related), (25, e_impl_NextUntilOf_f), (17, e_spec_SameOnce)]⟩

theorem ck_laws_FnNextUntilOf : CxOK Try.prog (cx_laws_FnNextUntilOf) := cx_ok tb_ok (.cons ok_laws_zzFits1 Try.call12 (.cons ok_laws_rising Try.call13 (.cons ok_spec_Related Try.call14 (.cons ok_impl_NextUntilOf_f Try.call25 (.cons ok_spec_SameOnce Try.call17 .nil)))))

noncomputable def e_laws_FnNextUntilOf : Ent := ⟨0, p_laws_FnNextUntilOf, q_laws_FnNextUntilOf, m_laws_FnNextUntilOf⟩
theorem ok_laws_FnNextUntilOf : FnOK Try.prog 8 e_laws_FnNextUntilOf := fn_ok (L := lookL []) ck_laws_FnNextUntilOf mixed Try.func8 rfl (by kernel_rfl) (by kernel_rfl) (ls_ok (l := []) (by kernel_rfl) .nil) (by intro x; kernel_rfl)

/-! laws.FnSiblingParts -/
abbrev p_laws_FnSiblingParts : Pt := [(0, .lst .node), (1, .int .i64)]
abbrev q_laws_FnSiblingParts : Pt := [(0, .bool)]

noncomputable def m_laws_FnSiblingParts : Tup p_laws_FnSiblingParts → Option (Tup q_laws_FnSiblingParts) := fun (x : List Node × Int) => Option.bind (m_laws_zzFits1 (Prod.fst x)) fun (r : Bool) => bif !r then Option.some Bool.true else Option.bind (m_laws_rising (Prod.fst x, [Prod.snd x])) fun (r : Bool) => bif !r then Option.some Bool.true else Option.bind (m_impl_SiblingsOf_f (Prod.fst x, [Prod.snd x])) fun (r : List Int × Bool) => Option.bind (m_impl_PrevAllOf_f (Prod.fst x, [Prod.snd x])) fun (r_1 : List Int × Bool) => Option.bind (m_impl_NextAllOf_f (Prod.fst x, [Prod.snd x])) fun (r_2 : List Int × Bool) => bif Prod.snd r then bif Prod.snd r_1 then bif Prod.snd r_2 then Option.bind (appL [] (Prod.fst r_1)) fun (r_3 : List Int) => Option.bind (appL r_3 (Prod.fst r_2)) fun (r_4 : List Int) => Option.bind (m_spec_SameOnce (Prod.fst r, r_4)) fun (r : Bool) => Option.some r else Option.some Bool.false else Option.some Bool.false else Option.some Bool.false

noncomputable def cx_laws_FnSiblingParts : Cx := ⟨tb, lookE [(12, e_laws_zzFits1), (13, e_laws_rising), (26, e_impl_SiblingsOf_f), (24, e_impl_PrevAllOf_f), (27, e_impl_NextAllOf_f), (17, e_spec_SameOnce)]⟩

theorem ck_laws_FnSiblingParts : CxOK Try.prog (cx_laws_FnSiblingParts) := cx_ok tb_ok (.cons ok_laws_zzFits1 Try.call12 (.cons ok_laws_rising Try.call13 (.cons ok_impl_SiblingsOf_f Try.call26 (.cons ok_impl_PrevAllOf_f Try.call24 (.cons ok_impl_NextAllOf_f Try.call27 (.cons ok_spec_SameOnce Try.call17 .nil))))))

noncomputable def e_laws_FnSiblingParts : Ent := ⟨0, p_laws_FnSiblingParts, q_laws_FnSiblingParts, m_laws_FnSiblingParts⟩
theorem ok_laws_FnSiblingParts : FnOK Try.prog 9 e_laws_FnSiblingParts := fn_ok (L := lookL []) ck_laws_FnSiblingParts mixed Try.func9 rfl (by kernel_rfl) (by kernel_rfl) (ls_ok (l := []) (by kernel_rfl) .nil) (by intro x; kernel_rfl)

end Go.Proofs.Ytlgabeiaheoniaa.V
