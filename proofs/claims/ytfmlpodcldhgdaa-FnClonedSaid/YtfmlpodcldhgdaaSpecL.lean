/-
  Models of functions, and that they are what the code does (written by a program).
-/
import Derived.Test.YtfmlpodcldhgdaaKTab
import Derived.Test.YtfmlpodcldhgdaaSpecA
import Derived.Test.YtfmlpodcldhgdaaSpecB
set_option linter.unusedVariables false
set_option linter.unusedSimpArgs false
namespace Go.Proofs.Ytfmlpodcldhgdaa.V
open Go Go.Proofs

/-! spec.Attr -/
abbrev p_spec_Attr : Pt := [(0, .el .node), (1, .str)]
abbrev q_spec_Attr : Pt := [(0, .str), (1, .bool)]

abbrev p_spec_Attr_0 : Pt := [(1, .str), (2, .blk .node 44), (6, .int .i64)]
abbrev x_spec_Attr_0 : List (Xt × Pt) := [(.ex 0, []), (.rt, [(4, .str), (5, .bool)])]
noncomputable def m_spec_Attr_0 : Tup p_spec_Attr_0 → Option (Stp (Tup p_spec_Attr_0) (SumT (x_spec_Attr_0.map (·.2)))) := fun (x : List UInt8 × Node × Int) => bif Decidable.decide (Prod.snd (Prod.snd x) < (↑(List.length (Node.attrs (Prod.fst (Prod.snd x)))) : Int)) then Option.bind (atI (Node.attrs (Prod.fst (Prod.snd x))) (Prod.snd (Prod.snd x))) fun (v : Attr) => bif Decidable.decide (Attr.key v = Prod.fst x) then Option.bind (atI (Node.attrs (Prod.fst (Prod.snd x))) (Prod.snd (Prod.snd x))) fun (v : Attr) => Option.some (Stp.out (Sum.inr (Attr.val v, Bool.true))) else Option.some (Stp.nx (Prod.fst x, { kind := Node.kind (Prod.fst (Prod.snd x)), tag := Node.tag (Prod.fst (Prod.snd x)), text := Node.text (Prod.fst (Prod.snd x)), attrs := Node.attrs (Prod.fst (Prod.snd x)), size := Node.size (Prod.fst (Prod.snd x)) }, Go.IntKind.wrap Go.IntKind.i64 (Prod.snd (Prod.snd x) + (1 : Int)))) else Option.some (Stp.out (Sum.inl PUnit.unit))

noncomputable def m_spec_Attr : Tup p_spec_Attr → Option (Tup q_spec_Attr) := fun (x : Node × List UInt8) => Option.bind (loopO m_spec_Attr_0 (Prod.snd x, { kind := Node.kind (Prod.fst x), tag := Node.tag (Prod.fst x), text := Node.text (Prod.fst x), attrs := Node.attrs (Prod.fst x), size := Node.size (Prod.fst x) }, (0 : Int))) fun (y : PUnit ⊕ List UInt8 × Bool) => selim (fun (y : PUnit) => Option.some ([], Bool.false)) (fun (y : List UInt8 × Bool) => Option.some (Prod.fst y, Prod.snd y)) y

noncomputable def cx_spec_Attr : Cx := ⟨tb, lookE [], lookS []⟩

theorem ck_spec_Attr : CxOK Try.prog (cx_spec_Attr) := cx_ok tb_ok .nil

noncomputable def c_spec_Attr_0 : Code := loopAt (Go.Proofs.Try.f118.body.getD .skip) 0

noncomputable def l_spec_Attr_0 : LEnt := ⟨p_spec_Attr_0, x_spec_Attr_0, loopO (m_spec_Attr_0)⟩

theorem lo_spec_Attr_0 : LOK Try.prog 28 0 false (l_spec_Attr_0) c_spec_Attr_0 := loop_ok (body := m_spec_Attr_0) (L := lookL []) (ck_spec_Attr) mixed (ls_ok (l := []) (by kernel_rfl) .nil) (by intro x; kernel_rfl) (fun x y h => loopO_iff.1 h)

noncomputable def e_spec_Attr : Ent := ⟨0, p_spec_Attr, q_spec_Attr, m_spec_Attr⟩
theorem ok_spec_Attr : FnOK Try.prog 118 e_spec_Attr := fn_ok (L := lookL [(0, l_spec_Attr_0)]) ck_spec_Attr mixed Try.func118 rfl (by kernel_rfl) (by kernel_rfl) (ls_ok (l := [(0, c_spec_Attr_0)]) (by kernel_rfl) (.cons rfl (lo_spec_Attr_0) .nil)) (by intro x; kernel_rfl)

/-! spec.Words -/
abbrev p_spec_Words : Pt := [(0, .str)]
abbrev q_spec_Words : Pt := [(0, .own .str 9)]

abbrev p_spec_Words_0 : Pt := [(0, .str), (3, .own .str 9), (4, .int .i64), (5, .int .i64)]
abbrev x_spec_Words_0 : List (Xt × Pt) := [(.ex 0, [(3, .own .str 9)])]
noncomputable def m_spec_Words_0 : Tup p_spec_Words_0 → Option (Stp (Tup p_spec_Words_0) (SumT (x_spec_Words_0.map (·.2)))) := fun (x : List UInt8 × List (List UInt8) × Int × Int) => bif Decidable.decide (Prod.snd (Prod.snd (Prod.snd x)) ≤ (↑(List.length (Prod.fst x)) : Int)) then bif Decidable.decide (Prod.snd (Prod.snd (Prod.snd x)) < (↑(List.length (Prod.fst x)) : Int)) then Option.bind (atI (Prod.fst x) (Prod.snd (Prod.snd (Prod.snd x)))) fun (c : UInt8) => bif Decidable.decide ((↑(UInt8.toNat c) : Int) ≠ (32 : Int)) then Option.bind (atI (Prod.fst x) (Prod.snd (Prod.snd (Prod.snd x)))) fun (c : UInt8) => bif Decidable.decide ((↑(UInt8.toNat c) : Int) ≠ (9 : Int)) then Option.bind (atI (Prod.fst x) (Prod.snd (Prod.snd (Prod.snd x)))) fun (c : UInt8) => bif Decidable.decide ((↑(UInt8.toNat c) : Int) ≠ (10 : Int)) then Option.bind (atI (Prod.fst x) (Prod.snd (Prod.snd (Prod.snd x)))) fun (c : UInt8) => bif Decidable.decide ((↑(UInt8.toNat c) : Int) ≠ (12 : Int)) then Option.bind (atI (Prod.fst x) (Prod.snd (Prod.snd (Prod.snd x)))) fun (c : UInt8) => bif Decidable.decide ((↑(UInt8.toNat c) : Int) ≠ (13 : Int)) then Option.some (Stp.nx (Prod.fst x, Prod.fst (Prod.snd x), Prod.fst (Prod.snd (Prod.snd x)), Go.IntKind.wrap Go.IntKind.i64 (Prod.snd (Prod.snd (Prod.snd x)) + (1 : Int)))) else bif Decidable.decide (Prod.fst (Prod.snd (Prod.snd x)) < Prod.snd (Prod.snd (Prod.snd x))) then Option.bind (subL (Prod.fst x) (Prod.fst (Prod.snd (Prod.snd x))) (Prod.snd (Prod.snd (Prod.snd x)))) fun (m : List UInt8) => Option.bind (appL (Prod.fst (Prod.snd x)) [m]) fun (r : List (List UInt8)) => Option.some (Stp.nx (Prod.fst x, r, Go.IntKind.wrap Go.IntKind.i64 (Prod.snd (Prod.snd (Prod.snd x)) + (1 : Int)), Go.IntKind.wrap Go.IntKind.i64 (Prod.snd (Prod.snd (Prod.snd x)) + (1 : Int)))) else Option.some (Stp.nx (Prod.fst x, Prod.fst (Prod.snd x), Go.IntKind.wrap Go.IntKind.i64 (Prod.snd (Prod.snd (Prod.snd x)) + (1 : Int)), Go.IntKind.wrap Go.IntKind.i64 (Prod.snd (Prod.snd (Prod.snd x)) + (1 : Int)))) else bif Decidable.decide (Prod.fst (Prod.snd (Prod.snd x)) < Prod.snd (Prod.snd (Prod.snd x))) then Option.bind (subL (Prod.fst x) (Prod.fst (Prod.snd (Prod.snd x))) (Prod.snd (Prod.snd (Prod.snd x)))) fun (m : List UInt8) => Option.bind (appL (Prod.fst (Prod.snd x)) [m]) fun (r : List (List UInt8)) => Option.some (Stp.nx (Prod.fst x, r, Go.IntKind.wrap Go.IntKind.i64 (Prod.snd (Prod.snd (Prod.snd x)) + (1 : Int)), Go.IntKind.wrap Go.IntKind.i64 (Prod.snd (Prod.snd (Prod.snd x)) + (1 : Int)))) else Option.some (Stp.nx (Prod.fst x, Prod.fst (Prod.snd x), Go.IntKind.wrap Go.IntKind.i64 (Prod.snd (Prod.snd (Prod.snd x)) + (1 : Int)), Go.IntKind.wrap Go.IntKind.i64 (Prod.snd (Prod.snd (Prod.snd x)) + (1 : Int)))) else bif Decidable.decide (Prod.fst (Prod.snd (Prod.snd x)) < Prod.snd (Prod.snd (Prod.snd x))) then Option.bind (subL (Prod.fst x) (Prod.fst (Prod.snd (Prod.snd x))) (Prod.snd (Prod.snd (Prod.snd x)))) fun (m : List UInt8) => Option.bind (appL (Prod.fst (Prod.snd x)) [m]) fun (r : List (List UInt8)) => Option.some (Stp.nx (Prod.fst x, r, Go.IntKind.wrap Go.IntKind.i64 (Prod.snd (Prod.snd (Prod.snd x)) + (1 : Int)), Go.IntKind.wrap Go.IntKind.i64 (Prod.snd (Prod.snd (Prod.snd x)) + (1 : Int)))) else Option.some (Stp.nx (Prod.fst x, Prod.fst (Prod.snd x), Go.IntKind.wrap Go.IntKind.i64 (Prod.snd (Prod.snd (Prod.snd x)) + (1 : Int)), Go.IntKind.wrap Go.IntKind.i64 (Prod.snd (Prod.snd (Prod.snd x)) + (1 : Int)))) else bif Decidable.decide (Prod.fst (Prod.snd (Prod.snd x)) < Prod.snd (Prod.snd (Prod.snd x))) then Option.bind (subL (Prod.fst x) (Prod.fst (Prod.snd (Prod.snd x))) (Prod.snd (Prod.snd (Prod.snd x)))) fun (m : List UInt8) => Option.bind (appL (Prod.fst (Prod.snd x)) [m]) fun (r : List (List UInt8)) => Option.some (Stp.nx (Prod.fst x, r, Go.IntKind.wrap Go.IntKind.i64 (Prod.snd (Prod.snd (Prod.snd x)) + (1 : Int)), Go.IntKind.wrap Go.IntKind.i64 (Prod.snd (Prod.snd (Prod.snd x)) + (1 : Int)))) else Option.some (Stp.nx (Prod.fst x, Prod.fst (Prod.snd x), Go.IntKind.wrap Go.IntKind.i64 (Prod.snd (Prod.snd (Prod.snd x)) + (1 : Int)), Go.IntKind.wrap Go.IntKind.i64 (Prod.snd (Prod.snd (Prod.snd x)) + (1 : Int)))) else bif Decidable.decide (Prod.fst (Prod.snd (Prod.snd x)) < Prod.snd (Prod.snd (Prod.snd x))) then Option.bind (subL (Prod.fst x) (Prod.fst (Prod.snd (Prod.snd x))) (Prod.snd (Prod.snd (Prod.snd x)))) fun (m : List UInt8) => Option.bind (appL (Prod.fst (Prod.snd x)) [m]) fun (r : List (List UInt8)) => Option.some (Stp.nx (Prod.fst x, r, Go.IntKind.wrap Go.IntKind.i64 (Prod.snd (Prod.snd (Prod.snd x)) + (1 : Int)), Go.IntKind.wrap Go.IntKind.i64 (Prod.snd (Prod.snd (Prod.snd x)) + (1 : Int)))) else Option.some (Stp.nx (Prod.fst x, Prod.fst (Prod.snd x), Go.IntKind.wrap Go.IntKind.i64 (Prod.snd (Prod.snd (Prod.snd x)) + (1 : Int)), Go.IntKind.wrap Go.IntKind.i64 (Prod.snd (Prod.snd (Prod.snd x)) + (1 : Int)))) else bif Decidable.decide (Prod.fst (Prod.snd (Prod.snd x)) < Prod.snd (Prod.snd (Prod.snd x))) then Option.bind (subL (Prod.fst x) (Prod.fst (Prod.snd (Prod.snd x))) (Prod.snd (Prod.snd (Prod.snd x)))) fun (m : List UInt8) => Option.bind (appL (Prod.fst (Prod.snd x)) [m]) fun (r : List (List UInt8)) => Option.some (Stp.nx (Prod.fst x, r, Go.IntKind.wrap Go.IntKind.i64 (Prod.snd (Prod.snd (Prod.snd x)) + (1 : Int)), Go.IntKind.wrap Go.IntKind.i64 (Prod.snd (Prod.snd (Prod.snd x)) + (1 : Int)))) else Option.some (Stp.nx (Prod.fst x, Prod.fst (Prod.snd x), Go.IntKind.wrap Go.IntKind.i64 (Prod.snd (Prod.snd (Prod.snd x)) + (1 : Int)), Go.IntKind.wrap Go.IntKind.i64 (Prod.snd (Prod.snd (Prod.snd x)) + (1 : Int)))) else Option.some (Stp.out (Prod.fst (Prod.snd x)))

noncomputable def m_spec_Words : Tup p_spec_Words → Option (Tup q_spec_Words) := fun (x : List UInt8) => Option.bind (loopO m_spec_Words_0 (x, [], (0 : Int), (0 : Int))) fun (y : List (List UInt8)) => Option.some y

noncomputable def cx_spec_Words : Cx := ⟨tb, lookE [], lookS []⟩

theorem ck_spec_Words : CxOK Try.prog (cx_spec_Words) := cx_ok tb_ok .nil

noncomputable def c_spec_Words_0 : Code := loopAt (Go.Proofs.Try.f119.body.getD .skip) 0

noncomputable def l_spec_Words_0 : LEnt := ⟨p_spec_Words_0, x_spec_Words_0, loopO (m_spec_Words_0)⟩

theorem lo_spec_Words_0 : LOK Try.prog 59 0 false (l_spec_Words_0) c_spec_Words_0 := loop_ok (body := m_spec_Words_0) (L := lookL []) (ck_spec_Words) mixed (ls_ok (l := []) (by kernel_rfl) .nil) (by intro x; kernel_rfl) (fun x y h => loopO_iff.1 h)

noncomputable def e_spec_Words : Ent := ⟨0, p_spec_Words, q_spec_Words, m_spec_Words⟩
theorem ok_spec_Words : FnOK Try.prog 119 e_spec_Words := fn_ok (L := lookL [(0, l_spec_Words_0)]) ck_spec_Words mixed Try.func119 rfl (by kernel_rfl) (by kernel_rfl) (ls_ok (l := [(0, c_spec_Words_0)]) (by kernel_rfl) (.cons rfl (lo_spec_Words_0) .nil)) (by intro x; kernel_rfl)

/-! spec.isWord -/
abbrev p_spec_isWord : Pt := [(0, .lst .str), (1, .str)]
abbrev q_spec_isWord : Pt := [(0, .bool)]

abbrev p_spec_isWord_0 : Pt := [(0, .lst .str), (1, .str), (5, .int .i64)]
abbrev x_spec_isWord_0 : List (Xt × Pt) := [(.ex 0, []), (.rt, [(4, .bool)])]
noncomputable def m_spec_isWord_0 : Tup p_spec_isWord_0 → Option (Stp (Tup p_spec_isWord_0) (SumT (x_spec_isWord_0.map (·.2)))) := fun (x : List (List UInt8) × List UInt8 × Int) => bif Decidable.decide (Prod.snd (Prod.snd x) < (↑(List.length (Prod.fst x)) : Int)) then Option.bind (atI (Prod.fst x) (Prod.snd (Prod.snd x))) fun (v : List UInt8) => bif Decidable.decide (v = Prod.fst (Prod.snd x)) then Option.some (Stp.out (Sum.inr Bool.true)) else Option.some (Stp.nx (Prod.fst x, Prod.fst (Prod.snd x), Go.IntKind.wrap Go.IntKind.i64 (Prod.snd (Prod.snd x) + (1 : Int)))) else Option.some (Stp.out (Sum.inl PUnit.unit))

noncomputable def m_spec_isWord : Tup p_spec_isWord → Option (Tup q_spec_isWord) := fun (x : List (List UInt8) × List UInt8) => Option.bind (loopO m_spec_isWord_0 (Prod.fst x, Prod.snd x, (0 : Int))) fun (y : PUnit ⊕ Bool) => selim (fun (y : PUnit) => Option.some Bool.false) (fun (y : Bool) => Option.some y) y

noncomputable def cx_spec_isWord : Cx := ⟨tb, lookE [], lookS []⟩

theorem ck_spec_isWord : CxOK Try.prog (cx_spec_isWord) := cx_ok tb_ok .nil

noncomputable def c_spec_isWord_0 : Code := loopAt (Go.Proofs.Try.f120.body.getD .skip) 0

noncomputable def l_spec_isWord_0 : LEnt := ⟨p_spec_isWord_0, x_spec_isWord_0, loopO (m_spec_isWord_0)⟩

theorem lo_spec_isWord_0 : LOK Try.prog 18 0 false (l_spec_isWord_0) c_spec_isWord_0 := loop_ok (body := m_spec_isWord_0) (L := lookL []) (ck_spec_isWord) mixed (ls_ok (l := []) (by kernel_rfl) .nil) (by intro x; kernel_rfl) (fun x y h => loopO_iff.1 h)

noncomputable def e_spec_isWord : Ent := ⟨0, p_spec_isWord, q_spec_isWord, m_spec_isWord⟩
theorem ok_spec_isWord : FnOK Try.prog 120 e_spec_isWord := fn_ok (L := lookL [(0, l_spec_isWord_0)]) ck_spec_isWord mixed Try.func120 rfl (by kernel_rfl) (by kernel_rfl) (ls_ok (l := [(0, c_spec_isWord_0)]) (by kernel_rfl) (.cons rfl (lo_spec_isWord_0) .nil)) (by intro x; kernel_rfl)

/-! spec.within -/
abbrev p_spec_within : Pt := [(0, .el .node), (1, .el .node)]
abbrev q_spec_within : Pt := [(0, .bool)]

abbrev p_spec_within_0_0 : Pt := [(2, .blk .node 44), (3, .blk .node 44), (5, .int .i64), (9, .own .str 9), (10, .own .str 9), (11, .int .i64)]
abbrev x_spec_within_0_0 : List (Xt × Pt) := [(.ex 2, [(2, .blk .node 44), (3, .blk .node 44), (5, .int .i64)]), (.rt, [(4, .bool)])]
noncomputable def m_spec_within_0_0 : Tup p_spec_within_0_0 → Option (Stp (Tup p_spec_within_0_0) (SumT (x_spec_within_0_0.map (·.2)))) := fun (x : Node × Node × Int × List (List UInt8) × List (List UInt8) × Int) => bif Decidable.decide (Prod.snd (Prod.snd (Prod.snd (Prod.snd (Prod.snd x)))) < (↑(List.length (Prod.fst (Prod.snd (Prod.snd (Prod.snd x))))) : Int)) then Option.bind (atI (Prod.fst (Prod.snd (Prod.snd (Prod.snd x)))) (Prod.snd (Prod.snd (Prod.snd (Prod.snd (Prod.snd x)))))) fun (x_1 : List UInt8) => Option.bind (Prod.fst (Prod.snd (Prod.snd (Prod.snd x))))[Int.toNat (Prod.snd (Prod.snd (Prod.snd (Prod.snd (Prod.snd x)))))]? fun (v : List UInt8) => Option.bind (m_spec_isWord (Prod.fst (Prod.snd (Prod.snd (Prod.snd (Prod.snd x)))), v)) fun (r : Bool) => bif !r then Option.some (Stp.out (Sum.inr Bool.false)) else Option.some (Stp.nx ({ kind := Node.kind (Prod.fst x), tag := Node.tag (Prod.fst x), text := Node.text (Prod.fst x), attrs := Node.attrs (Prod.fst x), size := Node.size (Prod.fst x) }, { kind := Node.kind (Prod.fst (Prod.snd x)), tag := Node.tag (Prod.fst (Prod.snd x)), text := Node.text (Prod.fst (Prod.snd x)), attrs := Node.attrs (Prod.fst (Prod.snd x)), size := Node.size (Prod.fst (Prod.snd x)) }, Prod.fst (Prod.snd (Prod.snd x)), Prod.fst (Prod.snd (Prod.snd (Prod.snd x))), Prod.fst (Prod.snd (Prod.snd (Prod.snd (Prod.snd x)))), Go.IntKind.wrap Go.IntKind.i64 (Prod.snd (Prod.snd (Prod.snd (Prod.snd (Prod.snd x)))) + (1 : Int)))) else Option.some (Stp.out (Sum.inl ({ kind := Node.kind (Prod.fst x), tag := Node.tag (Prod.fst x), text := Node.text (Prod.fst x), attrs := Node.attrs (Prod.fst x), size := Node.size (Prod.fst x) }, { kind := Node.kind (Prod.fst (Prod.snd x)), tag := Node.tag (Prod.fst (Prod.snd x)), text := Node.text (Prod.fst (Prod.snd x)), attrs := Node.attrs (Prod.fst (Prod.snd x)), size := Node.size (Prod.fst (Prod.snd x)) }, Prod.fst (Prod.snd (Prod.snd x)))))

abbrev p_spec_within_0 : Pt := [(2, .blk .node 44), (3, .blk .node 44), (5, .int .i64)]
abbrev x_spec_within_0 : List (Xt × Pt) := [(.ex 0, []), (.rt, [(4, .bool)])]
noncomputable def m_spec_within_0 : Tup p_spec_within_0 → Option (Stp (Tup p_spec_within_0) (SumT (x_spec_within_0.map (·.2)))) := fun (x : Node × Node × Int) => bif Decidable.decide (Prod.snd (Prod.snd x) < (↑(List.length (Node.attrs (Prod.fst x))) : Int)) then Option.bind (atI (Node.attrs (Prod.fst x)) (Prod.snd (Prod.snd x))) fun (v : Attr) => bif Decidable.decide (Attr.key v = Array.toList (ByteArray.data { data := #[(99 : UInt8), (108 : UInt8), (97 : UInt8), (115 : UInt8), (115 : UInt8)] })) then Option.bind (m_spec_Attr ({ kind := Node.kind (Prod.fst (Prod.snd x)), tag := Node.tag (Prod.fst (Prod.snd x)), text := Node.text (Prod.fst (Prod.snd x)), attrs := Node.attrs (Prod.fst (Prod.snd x)), size := Node.size (Prod.fst (Prod.snd x)) }, [(99 : UInt8), (108 : UInt8), (97 : UInt8), (115 : UInt8), (115 : UInt8)])) fun (r : List UInt8 × Bool) => Option.bind (m_spec_Words (Attr.val v)) fun (r_1 : List (List UInt8)) => Option.bind (m_spec_Words (Prod.fst r)) fun (r : List (List UInt8)) => Option.bind (loopO m_spec_within_0_0 ({ kind := Node.kind (Prod.fst x), tag := Node.tag (Prod.fst x), text := Node.text (Prod.fst x), attrs := Node.attrs (Prod.fst x), size := Node.size (Prod.fst x) }, { kind := Node.kind (Prod.fst (Prod.snd x)), tag := Node.tag (Prod.fst (Prod.snd x)), text := Node.text (Prod.fst (Prod.snd x)), attrs := Node.attrs (Prod.fst (Prod.snd x)), size := Node.size (Prod.fst (Prod.snd x)) }, Prod.snd (Prod.snd x), r_1, r, (0 : Int))) fun (y : Node × Node × Int ⊕ Bool) => selim (fun (y : Node × Node × Int) => Option.some (Stp.nx ({ kind := Node.kind (Prod.fst y), tag := Node.tag (Prod.fst y), text := Node.text (Prod.fst y), attrs := Node.attrs (Prod.fst y), size := Node.size (Prod.fst y) }, { kind := Node.kind (Prod.fst (Prod.snd y)), tag := Node.tag (Prod.fst (Prod.snd y)), text := Node.text (Prod.fst (Prod.snd y)), attrs := Node.attrs (Prod.fst (Prod.snd y)), size := Node.size (Prod.fst (Prod.snd y)) }, Go.IntKind.wrap Go.IntKind.i64 (Prod.snd (Prod.snd y) + (1 : Int))))) (fun (y : Bool) => Option.some (Stp.out (Sum.inr y))) y else Option.bind (m_spec_Attr ({ kind := Node.kind (Prod.fst (Prod.snd x)), tag := Node.tag (Prod.fst (Prod.snd x)), text := Node.text (Prod.fst (Prod.snd x)), attrs := Node.attrs (Prod.fst (Prod.snd x)), size := Node.size (Prod.fst (Prod.snd x)) }, Attr.key v)) fun (r : List UInt8 × Bool) => bif !Prod.snd r then Option.some (Stp.out (Sum.inr Bool.false)) else bif Decidable.decide (Prod.fst r ≠ Attr.val v) then Option.some (Stp.out (Sum.inr Bool.false)) else Option.some (Stp.nx ({ kind := Node.kind (Prod.fst x), tag := Node.tag (Prod.fst x), text := Node.text (Prod.fst x), attrs := Node.attrs (Prod.fst x), size := Node.size (Prod.fst x) }, { kind := Node.kind (Prod.fst (Prod.snd x)), tag := Node.tag (Prod.fst (Prod.snd x)), text := Node.text (Prod.fst (Prod.snd x)), attrs := Node.attrs (Prod.fst (Prod.snd x)), size := Node.size (Prod.fst (Prod.snd x)) }, Go.IntKind.wrap Go.IntKind.i64 (Prod.snd (Prod.snd x) + (1 : Int)))) else Option.some (Stp.out (Sum.inl PUnit.unit))

noncomputable def m_spec_within : Tup p_spec_within → Option (Tup q_spec_within) := fun (x : Node × Node) => Option.bind (loopO m_spec_within_0 ({ kind := Node.kind (Prod.fst x), tag := Node.tag (Prod.fst x), text := Node.text (Prod.fst x), attrs := Node.attrs (Prod.fst x), size := Node.size (Prod.fst x) }, { kind := Node.kind (Prod.snd x), tag := Node.tag (Prod.snd x), text := Node.text (Prod.snd x), attrs := Node.attrs (Prod.snd x), size := Node.size (Prod.snd x) }, (0 : Int))) fun (y : PUnit ⊕ Bool) => selim (fun (y : PUnit) => Option.some Bool.true) (fun (y : Bool) => Option.some y) y

noncomputable def cx_spec_within : Cx := ⟨tb, lookE [(118, e_spec_Attr), (119, e_spec_Words), (120, e_spec_isWord)], lookS []⟩

theorem ck_spec_within : CxOK Try.prog (cx_spec_within) := cx_ok tb_ok (.cons ok_spec_Attr Try.call118 (.cons ok_spec_Words Try.call119 (.cons ok_spec_isWord Try.call120 .nil)))

noncomputable def c_spec_within_0_0 : Code := loopAt (loopAt (Go.Proofs.Try.f90.body.getD .skip) 0) 0

noncomputable def l_spec_within_0_0 : LEnt := ⟨p_spec_within_0_0, x_spec_within_0_0, loopO (m_spec_within_0_0)⟩

theorem lo_spec_within_0_0 : LOK Try.prog 67 0 false (l_spec_within_0_0) c_spec_within_0_0 := loop_ok (body := m_spec_within_0_0) (L := lookL []) (ck_spec_within) mixed (ls_ok (l := []) (by kernel_rfl) .nil) (by intro x; kernel_rfl) (fun x y h => loopO_iff.1 h)

noncomputable def c_spec_within_0 : Code := loopAt (Go.Proofs.Try.f90.body.getD .skip) 0

noncomputable def l_spec_within_0 : LEnt := ⟨p_spec_within_0, x_spec_within_0, loopO (m_spec_within_0)⟩

theorem lo_spec_within_0 : LOK Try.prog 67 0 false (l_spec_within_0) c_spec_within_0 := loop_ok (body := m_spec_within_0) (L := lookL [(2, l_spec_within_0_0)]) (ck_spec_within) mixed (ls_ok (l := [(2, c_spec_within_0_0)]) (by kernel_rfl) (.cons rfl (lo_spec_within_0_0) .nil)) (by intro x; kernel_rfl) (fun x y h => loopO_iff.1 h)

noncomputable def e_spec_within : Ent := ⟨0, p_spec_within, q_spec_within, m_spec_within⟩
theorem ok_spec_within : FnOK Try.prog 90 e_spec_within := fn_ok (L := lookL [(0, l_spec_within_0)]) ck_spec_within mixed Try.func90 rfl (by kernel_rfl) (by kernel_rfl) (ls_ok (l := [(0, c_spec_within_0)]) (by kernel_rfl) (.cons rfl (lo_spec_within_0) .nil)) (by intro x; kernel_rfl)

/-! spec.AlikeTrees -/
abbrev p_spec_AlikeTrees : Pt := [(0, .lst .node), (1, .lst .node)]
abbrev q_spec_AlikeTrees : Pt := [(0, .bool)]

abbrev p_spec_AlikeTrees_0 : Pt := [(0, .lst .node), (1, .lst .node), (5, .int .i64)]
abbrev x_spec_AlikeTrees_0 : List (Xt × Pt) := [(.ex 0, []), (.rt, [(4, .bool)])]
noncomputable def m_spec_AlikeTrees_0 : Tup p_spec_AlikeTrees_0 → Option (Stp (Tup p_spec_AlikeTrees_0) (SumT (x_spec_AlikeTrees_0.map (·.2)))) := fun (x : List Node × List Node × Int) => bif Decidable.decide (Prod.snd (Prod.snd x) < (↑(List.length (Prod.fst x)) : Int)) then Option.bind (atI (Prod.fst x) (Prod.snd (Prod.snd x))) fun (v : Node) => Option.bind (atI (Prod.fst (Prod.snd x)) (Prod.snd (Prod.snd x))) fun (v_1 : Node) => bif Decidable.decide (Node.kind v ≠ Node.kind v_1) then Option.some (Stp.out (Sum.inr Bool.false)) else Option.bind (atI (Prod.fst x) (Prod.snd (Prod.snd x))) fun (v : Node) => Option.bind (atI (Prod.fst (Prod.snd x)) (Prod.snd (Prod.snd x))) fun (v_2 : Node) => bif Decidable.decide (Node.tag v ≠ Node.tag v_2) then Option.some (Stp.out (Sum.inr Bool.false)) else Option.bind (atI (Prod.fst x) (Prod.snd (Prod.snd x))) fun (v : Node) => Option.bind (atI (Prod.fst (Prod.snd x)) (Prod.snd (Prod.snd x))) fun (v_3 : Node) => bif Decidable.decide (Node.text v ≠ Node.text v_3) then Option.some (Stp.out (Sum.inr Bool.false)) else Option.bind (atI (Prod.fst x) (Prod.snd (Prod.snd x))) fun (v : Node) => Option.bind (atI (Prod.fst (Prod.snd x)) (Prod.snd (Prod.snd x))) fun (v_4 : Node) => bif Decidable.decide (Node.size v ≠ Node.size v_4) then Option.some (Stp.out (Sum.inr Bool.false)) else Option.bind (atI (Prod.fst x) (Prod.snd (Prod.snd x))) fun (v : Node) => Option.bind (atI (Prod.fst (Prod.snd x)) (Prod.snd (Prod.snd x))) fun (v_5 : Node) => Option.bind (m_spec_within ({ kind := Node.kind v, tag := Node.tag v, text := Node.text v, attrs := Node.attrs v, size := Node.size v }, { kind := Node.kind v_5, tag := Node.tag v_5, text := Node.text v_5, attrs := Node.attrs v_5, size := Node.size v_5 })) fun (r : Bool) => bif !r then Option.some (Stp.out (Sum.inr Bool.false)) else Option.bind (atI (Prod.fst (Prod.snd x)) (Prod.snd (Prod.snd x))) fun (v : Node) => Option.bind (atI (Prod.fst x) (Prod.snd (Prod.snd x))) fun (v_6 : Node) => Option.bind (m_spec_within ({ kind := Node.kind v, tag := Node.tag v, text := Node.text v, attrs := Node.attrs v, size := Node.size v }, { kind := Node.kind v_6, tag := Node.tag v_6, text := Node.text v_6, attrs := Node.attrs v_6, size := Node.size v_6 })) fun (r : Bool) => bif !r then Option.some (Stp.out (Sum.inr Bool.false)) else Option.some (Stp.nx (Prod.fst x, Prod.fst (Prod.snd x), Go.IntKind.wrap Go.IntKind.i64 (Prod.snd (Prod.snd x) + (1 : Int)))) else Option.some (Stp.out (Sum.inl PUnit.unit))

noncomputable def m_spec_AlikeTrees : Tup p_spec_AlikeTrees → Option (Tup q_spec_AlikeTrees) := fun (x : List Node × List Node) => bif Decidable.decide ((↑(List.length (Prod.fst x)) : Int) ≠ (↑(List.length (Prod.snd x)) : Int)) then Option.some Bool.false else Option.bind (loopO m_spec_AlikeTrees_0 (Prod.fst x, Prod.snd x, (0 : Int))) fun (y : PUnit ⊕ Bool) => selim (fun (y : PUnit) => Option.some Bool.true) (fun (y : Bool) => Option.some y) y

noncomputable def cx_spec_AlikeTrees : Cx := ⟨tb, lookE [(90, e_spec_within)], lookS [(6, [(true, 0), (true, 1), (true, 2), (true, 3), (true, 4), (true, 5), (true, 6), (true, 7), (true, 8), (true, 9), (true, 10), (true, 11), (true, 12), (true, 13), (true, 14), (true, 15), (true, 16), (true, 17), (true, 18), (true, 19), (true, 20), (true, 21), (true, 22), (true, 23), (true, 24), (true, 25), (true, 26), (true, 27), (true, 28), (true, 29), (true, 30), (true, 31), (true, 32), (true, 33), (true, 34), (true, 35), (true, 36), (true, 37), (true, 38), (true, 39), (true, 40), (true, 41), (true, 42), (true, 43), (true, 44), (true, 45), (true, 46), (true, 47), (true, 48), (true, 49), (true, 50), (true, 51), (true, 52), (true, 53), (true, 54), (true, 55), (true, 56), (true, 57), (true, 58), (false, 59), (true, 60), (true, 61), (true, 62), (true, 63), (true, 64), (true, 65), (true, 66), (true, 67), (true, 68), (true, 69), (true, 70), (false, 71), (true, 72), (true, 73)])]⟩

theorem ck_spec_AlikeTrees : CxOK Try.prog (cx_spec_AlikeTrees) := cx_ok tb_ok (.cons ok_spec_within Try.call90 .nil)

noncomputable def c_spec_AlikeTrees_0 : Code := loopAt (Go.Proofs.Try.f59.body.getD .skip) 0

noncomputable def l_spec_AlikeTrees_0 : LEnt := ⟨p_spec_AlikeTrees_0, x_spec_AlikeTrees_0, loopO (m_spec_AlikeTrees_0)⟩

theorem lo_spec_AlikeTrees_0 : LOK Try.prog 91 0 false (l_spec_AlikeTrees_0) c_spec_AlikeTrees_0 := loop_ok (body := m_spec_AlikeTrees_0) (L := lookL []) (ck_spec_AlikeTrees) mixed (ls_ok (l := []) (by kernel_rfl) .nil) (by intro x; kernel_rfl) (fun x y h => loopO_iff.1 h)

noncomputable def e_spec_AlikeTrees : Ent := ⟨0, p_spec_AlikeTrees, q_spec_AlikeTrees, m_spec_AlikeTrees⟩
theorem ok_spec_AlikeTrees : FnOK Try.prog 59 e_spec_AlikeTrees := fn_ok (L := lookL [(0, l_spec_AlikeTrees_0)]) ck_spec_AlikeTrees mixed Try.func59 rfl (by kernel_rfl) (by kernel_rfl) (ls_ok (l := [(0, c_spec_AlikeTrees_0)]) (by kernel_rfl) (.cons rfl (lo_spec_AlikeTrees_0) .nil)) (by intro x; kernel_rfl)

/-! spec.Sub -/
abbrev p_spec_Sub : Pt := [(0, .lst .node), (1, .int .i64)]
abbrev q_spec_Sub : Pt := [(0, .lst .node)]

noncomputable def m_spec_Sub : Tup p_spec_Sub → Option (Tup q_spec_Sub) := fun (x : List Node × Int) => Option.bind (atI (Prod.fst x) (Prod.snd x)) fun (v : Node) => Option.bind (subL (Prod.fst x) (Prod.snd x) (Go.IntKind.wrap Go.IntKind.i64 (Prod.snd x + Node.size v))) fun (m : List Node) => Option.some m

noncomputable def cx_spec_Sub : Cx := ⟨tb, lookE [], lookS []⟩

theorem ck_spec_Sub : CxOK Try.prog (cx_spec_Sub) := cx_ok tb_ok .nil

noncomputable def e_spec_Sub : Ent := ⟨0, p_spec_Sub, q_spec_Sub, m_spec_Sub⟩
theorem ok_spec_Sub : FnOK Try.prog 20 e_spec_Sub := fn_ok (L := lookL []) ck_spec_Sub mixed Try.func20 rfl (by kernel_rfl) (by kernel_rfl) (ls_ok (l := []) (by kernel_rfl) .nil) (by intro x; kernel_rfl)

/-! spec.sameNode -/
abbrev p_spec_sameNode : Pt := [(0, .el .node), (1, .el .node)]
abbrev q_spec_sameNode : Pt := [(0, .bool)]

abbrev p_spec_sameNode_0 : Pt := [(2, .blk .node 44), (3, .blk .node 44), (5, .int .i64)]
abbrev x_spec_sameNode_0 : List (Xt × Pt) := [(.ex 0, []), (.rt, [(4, .bool)])]
noncomputable def m_spec_sameNode_0 : Tup p_spec_sameNode_0 → Option (Stp (Tup p_spec_sameNode_0) (SumT (x_spec_sameNode_0.map (·.2)))) := fun (x : Node × Node × Int) => bif Decidable.decide (Prod.snd (Prod.snd x) < (↑(List.length (Node.attrs (Prod.fst x))) : Int)) then Option.bind (atI (Node.attrs (Prod.fst x)) (Prod.snd (Prod.snd x))) fun (v : Attr) => Option.bind (atI (Node.attrs (Prod.fst (Prod.snd x))) (Prod.snd (Prod.snd x))) fun (v_1 : Attr) => bif !Decidable.decide (Prod.fst (Attr.key v, Attr.val v) = Prod.fst (Attr.key v_1, Attr.val v_1) ∧ Prod.snd (Attr.key v, Attr.val v) = Prod.snd (Attr.key v_1, Attr.val v_1)) then Option.some (Stp.out (Sum.inr Bool.false)) else Option.some (Stp.nx ({ kind := Node.kind (Prod.fst x), tag := Node.tag (Prod.fst x), text := Node.text (Prod.fst x), attrs := Node.attrs (Prod.fst x), size := Node.size (Prod.fst x) }, { kind := Node.kind (Prod.fst (Prod.snd x)), tag := Node.tag (Prod.fst (Prod.snd x)), text := Node.text (Prod.fst (Prod.snd x)), attrs := Node.attrs (Prod.fst (Prod.snd x)), size := Node.size (Prod.fst (Prod.snd x)) }, Go.IntKind.wrap Go.IntKind.i64 (Prod.snd (Prod.snd x) + (1 : Int)))) else Option.some (Stp.out (Sum.inl PUnit.unit))

noncomputable def m_spec_sameNode : Tup p_spec_sameNode → Option (Tup q_spec_sameNode) := fun (x : Node × Node) => bif Decidable.decide (Node.kind (Prod.fst x) ≠ Node.kind (Prod.snd x)) then Option.some Bool.false else bif Decidable.decide (Node.tag (Prod.fst x) ≠ Node.tag (Prod.snd x)) then Option.some Bool.false else bif Decidable.decide (Node.text (Prod.fst x) ≠ Node.text (Prod.snd x)) then Option.some Bool.false else bif Decidable.decide (Node.size (Prod.fst x) ≠ Node.size (Prod.snd x)) then Option.some Bool.false else bif Decidable.decide ((↑(List.length (Node.attrs (Prod.fst x))) : Int) ≠ (↑(List.length (Node.attrs (Prod.snd x))) : Int)) then Option.some Bool.false else Option.bind (loopO m_spec_sameNode_0 ({ kind := Node.kind (Prod.fst x), tag := Node.tag (Prod.fst x), text := Node.text (Prod.fst x), attrs := Node.attrs (Prod.fst x), size := Node.size (Prod.fst x) }, { kind := Node.kind (Prod.snd x), tag := Node.tag (Prod.snd x), text := Node.text (Prod.snd x), attrs := Node.attrs (Prod.snd x), size := Node.size (Prod.snd x) }, (0 : Int))) fun (y : PUnit ⊕ Bool) => selim (fun (y : PUnit) => Option.some Bool.true) (fun (y : Bool) => Option.some y) y

noncomputable def cx_spec_sameNode : Cx := ⟨tb, lookE [], lookS [(6, [(true, 0), (true, 1), (true, 2), (true, 3), (true, 4), (true, 5), (true, 6), (true, 7), (true, 8), (true, 9), (true, 10)])]⟩

theorem ck_spec_sameNode : CxOK Try.prog (cx_spec_sameNode) := cx_ok tb_ok .nil

noncomputable def c_spec_sameNode_0 : Code := loopAt (Go.Proofs.Try.f49.body.getD .skip) 0

noncomputable def l_spec_sameNode_0 : LEnt := ⟨p_spec_sameNode_0, x_spec_sameNode_0, loopO (m_spec_sameNode_0)⟩

theorem lo_spec_sameNode_0 : LOK Try.prog 59 0 false (l_spec_sameNode_0) c_spec_sameNode_0 := loop_ok (body := m_spec_sameNode_0) (L := lookL []) (ck_spec_sameNode) mixed (ls_ok (l := []) (by kernel_rfl) .nil) (by intro x; kernel_rfl) (fun x y h => loopO_iff.1 h)

noncomputable def e_spec_sameNode : Ent := ⟨0, p_spec_sameNode, q_spec_sameNode, m_spec_sameNode⟩
theorem ok_spec_sameNode : FnOK Try.prog 49 e_spec_sameNode := fn_ok (L := lookL [(0, l_spec_sameNode_0)]) ck_spec_sameNode mixed Try.func49 rfl (by kernel_rfl) (by kernel_rfl) (ls_ok (l := [(0, c_spec_sameNode_0)]) (by kernel_rfl) (.cons rfl (lo_spec_sameNode_0) .nil)) (by intro x; kernel_rfl)

/-! spec.SameTree -/
abbrev p_spec_SameTree : Pt := [(0, .lst .node), (1, .lst .node)]
abbrev q_spec_SameTree : Pt := [(0, .bool)]

abbrev p_spec_SameTree_0 : Pt := [(0, .lst .node), (1, .lst .node), (5, .int .i64)]
abbrev x_spec_SameTree_0 : List (Xt × Pt) := [(.ex 0, []), (.rt, [(4, .bool)])]
noncomputable def m_spec_SameTree_0 : Tup p_spec_SameTree_0 → Option (Stp (Tup p_spec_SameTree_0) (SumT (x_spec_SameTree_0.map (·.2)))) := fun (x : List Node × List Node × Int) => bif Decidable.decide (Prod.snd (Prod.snd x) < (↑(List.length (Prod.fst x)) : Int)) then Option.bind (atI (Prod.fst x) (Prod.snd (Prod.snd x))) fun (v : Node) => Option.bind (atI (Prod.fst (Prod.snd x)) (Prod.snd (Prod.snd x))) fun (v_1 : Node) => Option.bind (m_spec_sameNode ({ kind := Node.kind v, tag := Node.tag v, text := Node.text v, attrs := Node.attrs v, size := Node.size v }, { kind := Node.kind v_1, tag := Node.tag v_1, text := Node.text v_1, attrs := Node.attrs v_1, size := Node.size v_1 })) fun (r : Bool) => bif !r then Option.some (Stp.out (Sum.inr Bool.false)) else Option.some (Stp.nx (Prod.fst x, Prod.fst (Prod.snd x), Go.IntKind.wrap Go.IntKind.i64 (Prod.snd (Prod.snd x) + (1 : Int)))) else Option.some (Stp.out (Sum.inl PUnit.unit))

noncomputable def m_spec_SameTree : Tup p_spec_SameTree → Option (Tup q_spec_SameTree) := fun (x : List Node × List Node) => bif Decidable.decide ((↑(List.length (Prod.fst x)) : Int) ≠ (↑(List.length (Prod.snd x)) : Int)) then Option.some Bool.false else Option.bind (loopO m_spec_SameTree_0 (Prod.fst x, Prod.snd x, (0 : Int))) fun (y : PUnit ⊕ Bool) => selim (fun (y : PUnit) => Option.some Bool.true) (fun (y : Bool) => Option.some y) y

noncomputable def cx_spec_SameTree : Cx := ⟨tb, lookE [(49, e_spec_sameNode)], lookS [(6, [(true, 0), (true, 1), (true, 2), (true, 3), (true, 4), (true, 5), (true, 6), (true, 7), (false, 8), (true, 9)])]⟩

theorem ck_spec_SameTree : CxOK Try.prog (cx_spec_SameTree) := cx_ok tb_ok (.cons ok_spec_sameNode Try.call49 .nil)

noncomputable def c_spec_SameTree_0 : Code := loopAt (Go.Proofs.Try.f19.body.getD .skip) 0

noncomputable def l_spec_SameTree_0 : LEnt := ⟨p_spec_SameTree_0, x_spec_SameTree_0, loopO (m_spec_SameTree_0)⟩

theorem lo_spec_SameTree_0 : LOK Try.prog 27 0 false (l_spec_SameTree_0) c_spec_SameTree_0 := loop_ok (body := m_spec_SameTree_0) (L := lookL []) (ck_spec_SameTree) mixed (ls_ok (l := []) (by kernel_rfl) .nil) (by intro x; kernel_rfl) (fun x y h => loopO_iff.1 h)

noncomputable def e_spec_SameTree : Ent := ⟨0, p_spec_SameTree, q_spec_SameTree, m_spec_SameTree⟩
theorem ok_spec_SameTree : FnOK Try.prog 19 e_spec_SameTree := fn_ok (L := lookL [(0, l_spec_SameTree_0)]) ck_spec_SameTree mixed Try.func19 rfl (by kernel_rfl) (by kernel_rfl) (ls_ok (l := [(0, c_spec_SameTree_0)]) (by kernel_rfl) (.cons rfl (lo_spec_SameTree_0) .nil)) (by intro x; kernel_rfl)

/-! spec.Shaped -/
abbrev p_spec_Shaped : Pt := [(0, .lst .node)]
abbrev q_spec_Shaped : Pt := [(0, .bool)]

abbrev p_spec_Shaped_0 : Pt := [(0, .lst .node), (3, .int .i64)]
abbrev x_spec_Shaped_0 : List (Xt × Pt) := [(.ex 0, [(0, .lst .node)]), (.rt, [(2, .bool)])]
noncomputable def m_spec_Shaped_0 : Tup p_spec_Shaped_0 → Option (Stp (Tup p_spec_Shaped_0) (SumT (x_spec_Shaped_0.map (·.2)))) := fun (x : List Node × Int) => bif Decidable.decide (Prod.snd x < (↑(List.length (Prod.fst x)) : Int)) then Option.bind (atI (Prod.fst x) (Prod.snd x)) fun (v : Node) => bif Decidable.decide (Node.size v < (1 : Int)) then Option.some (Stp.out (Sum.inr Bool.false)) else bif Decidable.decide (Go.IntKind.wrap Go.IntKind.i64 ((↑(List.length (Prod.fst x)) : Int) - Prod.snd x) < Node.size v) then Option.some (Stp.out (Sum.inr Bool.false)) else bif Decidable.decide ((0 : Int) < Prod.snd x) then bif Decidable.decide (Node.kind v = (1 : Int)) then Option.some (Stp.out (Sum.inr Bool.false)) else bif Decidable.decide (Node.kind v < (1 : Int)) then Option.some (Stp.out (Sum.inr Bool.false)) else bif Decidable.decide ((5 : Int) < Node.kind v) then Option.some (Stp.out (Sum.inr Bool.false)) else bif Decidable.decide ((1 : Int) < Node.size v) then bif Decidable.decide (Node.kind v ≠ (1 : Int)) then bif Decidable.decide (Node.kind v ≠ (3 : Int)) then Option.some (Stp.out (Sum.inr Bool.false)) else Option.some (Stp.nx (Prod.fst x, Go.IntKind.wrap Go.IntKind.i64 (Prod.snd x + (1 : Int)))) else Option.some (Stp.nx (Prod.fst x, Go.IntKind.wrap Go.IntKind.i64 (Prod.snd x + (1 : Int)))) else Option.some (Stp.nx (Prod.fst x, Go.IntKind.wrap Go.IntKind.i64 (Prod.snd x + (1 : Int)))) else bif Decidable.decide (Node.kind v < (1 : Int)) then Option.some (Stp.out (Sum.inr Bool.false)) else bif Decidable.decide ((5 : Int) < Node.kind v) then Option.some (Stp.out (Sum.inr Bool.false)) else bif Decidable.decide ((1 : Int) < Node.size v) then bif Decidable.decide (Node.kind v ≠ (1 : Int)) then bif Decidable.decide (Node.kind v ≠ (3 : Int)) then Option.some (Stp.out (Sum.inr Bool.false)) else Option.some (Stp.nx (Prod.fst x, Go.IntKind.wrap Go.IntKind.i64 (Prod.snd x + (1 : Int)))) else Option.some (Stp.nx (Prod.fst x, Go.IntKind.wrap Go.IntKind.i64 (Prod.snd x + (1 : Int)))) else Option.some (Stp.nx (Prod.fst x, Go.IntKind.wrap Go.IntKind.i64 (Prod.snd x + (1 : Int)))) else Option.some (Stp.out (Sum.inl (Prod.fst x)))

noncomputable def m_spec_Shaped : Tup p_spec_Shaped → Option (Tup q_spec_Shaped) := fun (x : List Node) => bif Decidable.decide ((↑(List.length x) : Int) = (0 : Int)) then Option.some Bool.false else Option.bind (atI x (0 : Int)) fun (v : Node) => bif Decidable.decide (Node.kind v ≠ (1 : Int)) then Option.some Bool.false else Option.bind (atI x (0 : Int)) fun (v : Node) => bif Decidable.decide (Node.size v ≠ (↑(List.length x) : Int)) then Option.some Bool.false else Option.bind (loopO m_spec_Shaped_0 (x, (0 : Int))) fun (y : List Node ⊕ Bool) => selim (fun (y : List Node) => Option.bind (m_spec_sized big (y, (0 : Int), (↑(List.length y) : Int), (2000 : Int))) fun (r : Bool) => Option.some r) (fun (y : Bool) => Option.some y) y

noncomputable def cx_spec_Shaped : Cx := ⟨tb, lookE [(39, e_spec_sized)], lookS []⟩

theorem ck_spec_Shaped : CxOK Try.prog (cx_spec_Shaped) := cx_ok tb_ok (.cons ok_spec_sized Try.call39 .nil)

noncomputable def c_spec_Shaped_0 : Code := loopAt (Go.Proofs.Try.f55.body.getD .skip) 0

noncomputable def l_spec_Shaped_0 : LEnt := ⟨p_spec_Shaped_0, x_spec_Shaped_0, loopO (m_spec_Shaped_0)⟩

theorem lo_spec_Shaped_0 : LOK Try.prog 82 0 false (l_spec_Shaped_0) c_spec_Shaped_0 := loop_ok (body := m_spec_Shaped_0) (L := lookL []) (ck_spec_Shaped) mixed (ls_ok (l := []) (by kernel_rfl) .nil) (by intro x; kernel_rfl) (fun x y h => loopO_iff.1 h)

noncomputable def e_spec_Shaped : Ent := ⟨0, p_spec_Shaped, q_spec_Shaped, m_spec_Shaped⟩
theorem ok_spec_Shaped : FnOK Try.prog 55 e_spec_Shaped := fn_ok (L := lookL [(0, l_spec_Shaped_0)]) ck_spec_Shaped mixed Try.func55 rfl (by kernel_rfl) (by kernel_rfl) (ls_ok (l := [(0, c_spec_Shaped_0)]) (by kernel_rfl) (.cons rfl (lo_spec_Shaped_0) .nil)) (by intro x; kernel_rfl)

end Go.Proofs.Ytfmlpodcldhgdaa.V
