/-
  Models of functions, and that they are what the code does (written by a program).
-/
import Derived.Test.YtldldchdkcmojaaKTab
import Derived.Test.YtldldchdkcmojaaSpecA
import Derived.Test.YtldldchdkcmojaaImplA
set_option linter.unusedVariables false
set_option linter.unusedSimpArgs false
namespace Go.Proofs.Ytldldchdkcmojaa.V
open Go Go.Proofs

/-! cascadia.zzIndexAny -/
abbrev p_cascadia_zzIndexAny : Pt := [(0, .str), (1, .str)]
abbrev q_cascadia_zzIndexAny : Pt := [(0, .int .i64)]

abbrev p_cascadia_zzIndexAny_0_0 : Pt := [(1, .str), (5, .int .i64), (6, .int .i32), (10, .sit), (16, .sit)]
abbrev x_cascadia_zzIndexAny_0_0 : List (Xt × Pt) := [(.ex 2, [(1, .str), (10, .sit)]), (.rt, [(4, .int .i64)])]
noncomputable def m_cascadia_zzIndexAny_0_0 : Tup p_cascadia_zzIndexAny_0_0 → Option (Stp (Tup p_cascadia_zzIndexAny_0_0) (SumT (x_cascadia_zzIndexAny_0_0.map (·.2)))) := fun (x : List UInt8 × Int × Int × (List UInt8 × Nat) × List UInt8 × Nat) => bif Decidable.decide (Prod.snd (Prod.snd (Prod.snd (Prod.snd (Prod.snd x)))) < List.length (Prod.fst (Prod.snd (Prod.snd (Prod.snd (Prod.snd x)))))) then bif Decidable.decide (Prod.fst (Prod.snd (Prod.snd x)) = (↑(Prod.fst (dec8 (Prod.fst (Prod.snd (Prod.snd (Prod.snd (Prod.snd x))))) (Prod.snd (Prod.snd (Prod.snd (Prod.snd (Prod.snd x))))))) : Int)) then Option.some (Stp.out (Sum.inr (Prod.fst (Prod.snd x)))) else Option.some (Stp.nx (Prod.fst x, Prod.fst (Prod.snd x), Prod.fst (Prod.snd (Prod.snd x)), (Prod.fst (Prod.fst (Prod.snd (Prod.snd (Prod.snd x)))), Prod.snd (Prod.fst (Prod.snd (Prod.snd (Prod.snd x))))), Prod.fst (Prod.snd (Prod.snd (Prod.snd (Prod.snd x)))), Prod.snd (Prod.snd (Prod.snd (Prod.snd (Prod.snd x)))) + Prod.snd (dec8 (Prod.fst (Prod.snd (Prod.snd (Prod.snd (Prod.snd x))))) (Prod.snd (Prod.snd (Prod.snd (Prod.snd (Prod.snd x)))))))) else Option.some (Stp.out (Sum.inl (Prod.fst x, Prod.fst (Prod.fst (Prod.snd (Prod.snd (Prod.snd x)))), Prod.snd (Prod.fst (Prod.snd (Prod.snd (Prod.snd x)))))))

abbrev p_cascadia_zzIndexAny_0 : Pt := [(1, .str), (10, .sit)]
abbrev x_cascadia_zzIndexAny_0 : List (Xt × Pt) := [(.ex 0, []), (.rt, [(4, .int .i64)])]
noncomputable def m_cascadia_zzIndexAny_0 : Tup p_cascadia_zzIndexAny_0 → Option (Stp (Tup p_cascadia_zzIndexAny_0) (SumT (x_cascadia_zzIndexAny_0.map (·.2)))) := fun (x : List UInt8 × List UInt8 × Nat) => bif Decidable.decide (Prod.snd (Prod.snd x) < List.length (Prod.fst (Prod.snd x))) then Option.bind (loopO m_cascadia_zzIndexAny_0_0 (Prod.fst x, (↑(Prod.snd (Prod.snd x)) : Int), (↑(Prod.fst (dec8 (Prod.fst (Prod.snd x)) (Prod.snd (Prod.snd x)))) : Int), (Prod.fst (Prod.snd x), Prod.snd (Prod.snd x) + Prod.snd (dec8 (Prod.fst (Prod.snd x)) (Prod.snd (Prod.snd x)))), Prod.fst x, (0 : Nat))) fun (y : List UInt8 × List UInt8 × Nat ⊕ Int) => selim (fun (y : List UInt8 × List UInt8 × Nat) => Option.some (Stp.nx (Prod.fst y, Prod.fst (Prod.snd y), Prod.snd (Prod.snd y)))) (fun (y : Int) => Option.some (Stp.out (Sum.inr y))) y else Option.some (Stp.out (Sum.inl PUnit.unit))

noncomputable def m_cascadia_zzIndexAny : Tup p_cascadia_zzIndexAny → Option (Tup q_cascadia_zzIndexAny) := fun (x : List UInt8 × List UInt8) => Option.bind (loopO m_cascadia_zzIndexAny_0 (Prod.snd x, Prod.fst x, (0 : Nat))) fun (y : PUnit ⊕ Int) => selim (fun (y : PUnit) => Option.some (-1 : Int)) (fun (y : Int) => Option.some y) y

noncomputable def cx_cascadia_zzIndexAny : Cx := ⟨tb, lookE []⟩

theorem ck_cascadia_zzIndexAny : CxOK Try.prog (cx_cascadia_zzIndexAny) := cx_ok tb_ok .nil

noncomputable def c_cascadia_zzIndexAny_0_0 : Code := loopAt (loopAt (Go.Proofs.Try.f122.body.getD .skip) 0) 0

noncomputable def l_cascadia_zzIndexAny_0_0 : LEnt := ⟨p_cascadia_zzIndexAny_0_0, x_cascadia_zzIndexAny_0_0, loopO (m_cascadia_zzIndexAny_0_0)⟩

theorem lo_cascadia_zzIndexAny_0_0 : LOK Try.prog 24 0 false (l_cascadia_zzIndexAny_0_0) c_cascadia_zzIndexAny_0_0 := loop_ok (body := m_cascadia_zzIndexAny_0_0) (L := lookL []) (ck_cascadia_zzIndexAny) mixed (ls_ok (l := []) (by kernel_rfl) .nil) (by intro x; kernel_rfl) (fun x y h => loopO_iff.1 h)

noncomputable def c_cascadia_zzIndexAny_0 : Code := loopAt (Go.Proofs.Try.f122.body.getD .skip) 0

noncomputable def l_cascadia_zzIndexAny_0 : LEnt := ⟨p_cascadia_zzIndexAny_0, x_cascadia_zzIndexAny_0, loopO (m_cascadia_zzIndexAny_0)⟩

theorem lo_cascadia_zzIndexAny_0 : LOK Try.prog 24 0 false (l_cascadia_zzIndexAny_0) c_cascadia_zzIndexAny_0 := loop_ok (body := m_cascadia_zzIndexAny_0) (L := lookL [(2, l_cascadia_zzIndexAny_0_0)]) (ck_cascadia_zzIndexAny) mixed (ls_ok (l := [(2, c_cascadia_zzIndexAny_0_0)]) (by kernel_rfl) (.cons rfl (lo_cascadia_zzIndexAny_0_0) .nil)) (by intro x; kernel_rfl) (fun x y h => loopO_iff.1 h)

noncomputable def e_cascadia_zzIndexAny : Ent := ⟨0, p_cascadia_zzIndexAny, q_cascadia_zzIndexAny, m_cascadia_zzIndexAny⟩
theorem ok_cascadia_zzIndexAny : FnOK Try.prog 122 e_cascadia_zzIndexAny := fn_ok (L := lookL [(0, l_cascadia_zzIndexAny_0)]) ck_cascadia_zzIndexAny mixed Try.func122 rfl (by kernel_rfl) (by kernel_rfl) (ls_ok (l := [(0, c_cascadia_zzIndexAny_0)]) (by kernel_rfl) (.cons rfl (lo_cascadia_zzIndexAny_0) .nil)) (by intro x; kernel_rfl)

/-! cascadia.zzToLower -/
abbrev p_cascadia_zzToLower : Pt := [(0, .str)]
abbrev q_cascadia_zzToLower : Pt := [(0, .str)]

abbrev p_cascadia_zzToLower_0 : Pt := [(3, .own .u8 5), (8, .al 3), (9, .int .i64), (10, .int .i64)]
abbrev x_cascadia_zzToLower_0 : List (Xt × Pt) := [(.ex 0, [(3, .own .u8 5)])]
noncomputable def m_cascadia_zzToLower_0 : Tup p_cascadia_zzToLower_0 → Option (Stp (Tup p_cascadia_zzToLower_0) (SumT (x_cascadia_zzToLower_0.map (·.2)))) := fun (x : List UInt8 × PUnit × Int × Int) => bif Decidable.decide (Prod.snd (Prod.snd (Prod.snd x)) < Prod.fst (Prod.snd (Prod.snd x))) then Option.bind (atI (Prod.fst x) (Prod.snd (Prod.snd (Prod.snd x)))) fun (x_1 : UInt8) => Option.bind (Prod.fst x)[Int.toNat (Prod.snd (Prod.snd (Prod.snd x)))]? fun (v : UInt8) => bif Decidable.decide ((65 : Int) ≤ (↑(UInt8.toNat v) : Int)) then bif Decidable.decide ((↑(UInt8.toNat v) : Int) ≤ (90 : Int)) then Option.bind (atI (Prod.fst x) (Prod.snd (Prod.snd (Prod.snd x)))) fun (x_2 : UInt8) => Option.bind (Prod.fst x)[Int.toNat (Prod.snd (Prod.snd (Prod.snd x)))]? fun (v_1 : UInt8) => Option.bind (byteI (Go.IntKind.wrap Go.IntKind.u8 (Go.IntKind.wrap Go.IntKind.u8 ((↑(UInt8.toNat v) : Int) + (97 : Int)) - (65 : Int)))) fun (v : UInt8) => Option.some (Stp.nx (List.set (Prod.fst x) (Int.toNat (Prod.snd (Prod.snd (Prod.snd x)))) v, PUnit.unit, Prod.fst (Prod.snd (Prod.snd x)), Go.IntKind.wrap Go.IntKind.i64 (Prod.snd (Prod.snd (Prod.snd x)) + (1 : Int)))) else Option.some (Stp.nx (Prod.fst x, PUnit.unit, Prod.fst (Prod.snd (Prod.snd x)), Go.IntKind.wrap Go.IntKind.i64 (Prod.snd (Prod.snd (Prod.snd x)) + (1 : Int)))) else Option.some (Stp.nx (Prod.fst x, PUnit.unit, Prod.fst (Prod.snd (Prod.snd x)), Go.IntKind.wrap Go.IntKind.i64 (Prod.snd (Prod.snd (Prod.snd x)) + (1 : Int)))) else Option.some (Stp.out (Prod.fst x))

noncomputable def m_cascadia_zzToLower : Tup p_cascadia_zzToLower → Option (Tup q_cascadia_zzToLower) := fun (x : List UInt8) => Option.bind (loopO m_cascadia_zzToLower_0 (x, (), (↑(List.length x) : Int), (0 : Int))) fun (y : List UInt8) => Option.bind (castE E.u8 E.u8 y) fun (xs : List UInt8) => Option.some xs

noncomputable def cx_cascadia_zzToLower : Cx := ⟨tb, lookE []⟩

theorem ck_cascadia_zzToLower : CxOK Try.prog (cx_cascadia_zzToLower) := cx_ok tb_ok .nil

noncomputable def c_cascadia_zzToLower_0 : Code := loopAt (Go.Proofs.Try.f128.body.getD .skip) 0

noncomputable def l_cascadia_zzToLower_0 : LEnt := ⟨p_cascadia_zzToLower_0, x_cascadia_zzToLower_0, loopO (m_cascadia_zzToLower_0)⟩

theorem lo_cascadia_zzToLower_0 : LOK Try.prog 30 0 false (l_cascadia_zzToLower_0) c_cascadia_zzToLower_0 := loop_ok (body := m_cascadia_zzToLower_0) (L := lookL []) (ck_cascadia_zzToLower) mixed (ls_ok (l := []) (by kernel_rfl) .nil) (by intro x; kernel_rfl) (fun x y h => loopO_iff.1 h)

noncomputable def e_cascadia_zzToLower : Ent := ⟨0, p_cascadia_zzToLower, q_cascadia_zzToLower, m_cascadia_zzToLower⟩
theorem ok_cascadia_zzToLower : FnOK Try.prog 128 e_cascadia_zzToLower := fn_ok (L := lookL [(0, l_cascadia_zzToLower_0)]) ck_cascadia_zzToLower mixed Try.func128 rfl (by kernel_rfl) (by kernel_rfl) (ls_ok (l := [(0, c_cascadia_zzToLower_0)]) (by kernel_rfl) (.cons rfl (lo_cascadia_zzToLower_0) .nil)) (by intro x; kernel_rfl)

/-! cascadia.zzEqualFold -/
abbrev p_cascadia_zzEqualFold : Pt := [(0, .str), (1, .str)]
abbrev q_cascadia_zzEqualFold : Pt := [(0, .bool)]

noncomputable def m_cascadia_zzEqualFold : Tup p_cascadia_zzEqualFold → Option (Tup q_cascadia_zzEqualFold) := fun (x : List UInt8 × List UInt8) => Option.bind (m_cascadia_zzToLower (Prod.fst x)) fun (r : List UInt8) => Option.bind (m_cascadia_zzToLower (Prod.snd x)) fun (r_1 : List UInt8) => Option.some (Decidable.decide (r = r_1))

noncomputable def cx_cascadia_zzEqualFold : Cx := ⟨tb, lookE [(128, e_cascadia_zzToLower)]⟩

theorem ck_cascadia_zzEqualFold : CxOK Try.prog (cx_cascadia_zzEqualFold) := cx_ok tb_ok (.cons ok_cascadia_zzToLower Try.call128 .nil)

noncomputable def e_cascadia_zzEqualFold : Ent := ⟨0, p_cascadia_zzEqualFold, q_cascadia_zzEqualFold, m_cascadia_zzEqualFold⟩
theorem ok_cascadia_zzEqualFold : FnOK Try.prog 123 e_cascadia_zzEqualFold := fn_ok (L := lookL []) ck_cascadia_zzEqualFold mixed Try.func123 rfl (by kernel_rfl) (by kernel_rfl) (ls_ok (l := []) (by kernel_rfl) .nil) (by intro x; kernel_rfl)

/-! cascadia.matchInsensitiveValue -/
abbrev p_cascadia_matchInsensitiveValue : Pt := [(0, .str), (1, .str), (2, .bool)]
abbrev q_cascadia_matchInsensitiveValue : Pt := [(0, .bool)]

noncomputable def m_cascadia_matchInsensitiveValue : Tup p_cascadia_matchInsensitiveValue → Option (Tup q_cascadia_matchInsensitiveValue) := fun (x : List UInt8 × List UInt8 × Bool) => bif Prod.snd (Prod.snd x) then Option.bind (m_cascadia_zzEqualFold (Prod.fst x, Prod.fst (Prod.snd x))) fun (r : Bool) => Option.some r else Option.some (Decidable.decide (Prod.fst x = Prod.fst (Prod.snd x)))

noncomputable def cx_cascadia_matchInsensitiveValue : Cx := ⟨tb, lookE [(123, e_cascadia_zzEqualFold)]⟩

theorem ck_cascadia_matchInsensitiveValue : CxOK Try.prog (cx_cascadia_matchInsensitiveValue) := cx_ok tb_ok (.cons ok_cascadia_zzEqualFold Try.call123 .nil)

noncomputable def e_cascadia_matchInsensitiveValue : Ent := ⟨0, p_cascadia_matchInsensitiveValue, q_cascadia_matchInsensitiveValue, m_cascadia_matchInsensitiveValue⟩
theorem ok_cascadia_matchInsensitiveValue : FnOK Try.prog 105 e_cascadia_matchInsensitiveValue := fn_ok (L := lookL []) ck_cascadia_matchInsensitiveValue mixed Try.func105 rfl (by kernel_rfl) (by kernel_rfl) (ls_ok (l := []) (by kernel_rfl) .nil) (by intro x; kernel_rfl)

/-! cascadia.matchInclude -/
abbrev p_cascadia_matchInclude : Pt := [(0, .str), (1, .str), (2, .bool)]
abbrev q_cascadia_matchInclude : Pt := [(0, .bool)]

abbrev p_cascadia_matchInclude_0 : Pt := [(0, .str), (1, .str), (2, .bool)]
abbrev x_cascadia_matchInclude_0 : List (Xt × Pt) := [(.ex 0, []), (.rt, [(6, .bool)])]
noncomputable def m_cascadia_matchInclude_0 : Tup p_cascadia_matchInclude_0 → Option (Stp (Tup p_cascadia_matchInclude_0) (SumT (x_cascadia_matchInclude_0.map (·.2)))) := fun (x : List UInt8 × List UInt8 × Bool) => bif Decidable.decide (Prod.fst (Prod.snd x) ≠ Array.toList (ByteArray.data { data := #[] })) then Option.bind (m_cascadia_zzIndexAny (Prod.fst (Prod.snd x), [(32 : UInt8), (9 : UInt8), (13 : UInt8), (10 : UInt8), (12 : UInt8)])) fun (r : Int) => bif Decidable.decide (r = (-1 : Int)) then Option.bind (m_cascadia_matchInsensitiveValue (Prod.fst (Prod.snd x), Prod.fst x, Prod.snd (Prod.snd x))) fun (r : Bool) => Option.some (Stp.out (Sum.inr r)) else Option.bind (subL (Prod.fst (Prod.snd x)) (0 : Int) r) fun (m : List UInt8) => Option.bind (m_cascadia_matchInsensitiveValue (m, Prod.fst x, Prod.snd (Prod.snd x))) fun (r_1 : Bool) => bif r_1 then Option.some (Stp.out (Sum.inr Bool.true)) else Option.bind (subL (Prod.fst (Prod.snd x)) (Go.IntKind.wrap Go.IntKind.i64 (r + (1 : Int))) (↑(List.length (Prod.fst (Prod.snd x))) : Int)) fun (m : List UInt8) => Option.some (Stp.nx (Prod.fst x, m, Prod.snd (Prod.snd x))) else Option.some (Stp.out (Sum.inl PUnit.unit))

noncomputable def m_cascadia_matchInclude : Tup p_cascadia_matchInclude → Option (Tup q_cascadia_matchInclude) := fun (x : List UInt8 × List UInt8 × Bool) => Option.bind (loopO m_cascadia_matchInclude_0 (Prod.fst x, Prod.fst (Prod.snd x), Prod.snd (Prod.snd x))) fun (y : PUnit ⊕ Bool) => selim (fun (y : PUnit) => Option.some Bool.false) (fun (y : Bool) => Option.some y) y

noncomputable def cx_cascadia_matchInclude : Cx := ⟨tb, lookE [(122, e_cascadia_zzIndexAny), (105, e_cascadia_matchInsensitiveValue)]⟩

theorem ck_cascadia_matchInclude : CxOK Try.prog (cx_cascadia_matchInclude) := cx_ok tb_ok (.cons ok_cascadia_zzIndexAny Try.call122 (.cons ok_cascadia_matchInsensitiveValue Try.call105 .nil))

noncomputable def c_cascadia_matchInclude_0 : Code := loopAt (Go.Proofs.Try.f102.body.getD .skip) 0

noncomputable def l_cascadia_matchInclude_0 : LEnt := ⟨p_cascadia_matchInclude_0, x_cascadia_matchInclude_0, loopO (m_cascadia_matchInclude_0)⟩

theorem lo_cascadia_matchInclude_0 : LOK Try.prog 28 0 false (l_cascadia_matchInclude_0) c_cascadia_matchInclude_0 := loop_ok (body := m_cascadia_matchInclude_0) (L := lookL []) (ck_cascadia_matchInclude) mixed (ls_ok (l := []) (by kernel_rfl) .nil) (by intro x; kernel_rfl) (fun x y h => loopO_iff.1 h)

noncomputable def e_cascadia_matchInclude : Ent := ⟨0, p_cascadia_matchInclude, q_cascadia_matchInclude, m_cascadia_matchInclude⟩
theorem ok_cascadia_matchInclude : FnOK Try.prog 102 e_cascadia_matchInclude := fn_ok (L := lookL [(0, l_cascadia_matchInclude_0)]) ck_cascadia_matchInclude mixed Try.func102 rfl (by kernel_rfl) (by kernel_rfl) (ls_ok (l := [(0, c_cascadia_matchInclude_0)]) (by kernel_rfl) (.cons rfl (lo_cascadia_matchInclude_0) .nil)) (by intro x; kernel_rfl)

/-! (cascadia.classSelector).Match$1 -/
abbrev p_cascadia_classSelector_Match_1 : Pt := [(0, .str), (1, .fp (.rc .str [] 0))]
abbrev q_cascadia_classSelector_Match_1 : Pt := [(0, .bool)]

noncomputable def m_cascadia_classSelector_Match_1 : Tup p_cascadia_classSelector_Match_1 → Option (Tup q_cascadia_classSelector_Match_1) := fun (x : List UInt8 × List UInt8) => Option.bind (m_cascadia_matchInclude (Prod.snd x, Prod.fst x, Bool.false)) fun (r : Bool) => Option.some r

noncomputable def cx_cascadia_classSelector_Match_1 : Cx := ⟨tb, lookE [(102, e_cascadia_matchInclude)]⟩

theorem ck_cascadia_classSelector_Match_1 : CxOK Try.prog (cx_cascadia_classSelector_Match_1) := cx_ok tb_ok (.cons ok_cascadia_matchInclude Try.call102 .nil)

noncomputable def e_cascadia_classSelector_Match_1 : Ent := ⟨0, p_cascadia_classSelector_Match_1, q_cascadia_classSelector_Match_1, m_cascadia_classSelector_Match_1⟩
theorem ok_cascadia_classSelector_Match_1 : FnOK Try.prog 101 e_cascadia_classSelector_Match_1 := fn_ok (L := lookL []) ck_cascadia_classSelector_Match_1 mixed Try.func101 rfl (by kernel_rfl) (by kernel_rfl) (ls_ok (l := []) (by kernel_rfl) .nil) (by intro x; kernel_rfl)

/-! cascadia.matchAttribute@class -/
abbrev p_cascadia_matchAttribute_class : Pt := [(0, .np), (1, .str), (2, .clo 101 [(.rc .str [] 0)]), (NTR, .nsr)]
abbrev q_cascadia_matchAttribute_class : Pt := [(0, .bool)]

abbrev p_cascadia_matchAttribute_class_0 : Pt := [(1, .str), (2, .clo 101 [(.rc .str [] 0)]), (17, .lst .hattr), (18, .int .i64), (19, .int .i64), (NTR, .nsr)]
abbrev x_cascadia_matchAttribute_class_0 : List (Xt × Pt) := [(.ex 0, [(NTR, .nsr)]), (.rt, [(6, .bool), (NTR, .nsr)])]
noncomputable def m_cascadia_matchAttribute_class_0 : Tup p_cascadia_matchAttribute_class_0 → Option (Stp (Tup p_cascadia_matchAttribute_class_0) (SumT (x_cascadia_matchAttribute_class_0.map (·.2)))) := fun (x : List UInt8 × List UInt8 × List HAttr × Int × Int × List HN) => bif Decidable.decide (Prod.fst (Prod.snd (Prod.snd (Prod.snd (Prod.snd x)))) < Prod.fst (Prod.snd (Prod.snd (Prod.snd x)))) then Option.bind (atI (Prod.fst (Prod.snd (Prod.snd x))) (Prod.fst (Prod.snd (Prod.snd (Prod.snd (Prod.snd x)))))) fun (v : HAttr) => bif Decidable.decide (HAttr.key v = Prod.fst x) then Option.bind (m_cascadia_classSelector_Match_1 (HAttr.val v, Prod.fst (Prod.snd x))) fun (r : Bool) => bif r then Option.some (Stp.out (Sum.inr (Bool.true, Prod.snd (Prod.snd (Prod.snd (Prod.snd (Prod.snd x))))))) else Option.some (Stp.nx (Prod.fst x, Prod.fst (Prod.snd x), Prod.fst (Prod.snd (Prod.snd x)), Prod.fst (Prod.snd (Prod.snd (Prod.snd x))), Go.IntKind.wrap Go.IntKind.i64 (Prod.fst (Prod.snd (Prod.snd (Prod.snd (Prod.snd x)))) + (1 : Int)), Prod.snd (Prod.snd (Prod.snd (Prod.snd (Prod.snd x)))))) else Option.some (Stp.nx (Prod.fst x, Prod.fst (Prod.snd x), Prod.fst (Prod.snd (Prod.snd x)), Prod.fst (Prod.snd (Prod.snd (Prod.snd x))), Go.IntKind.wrap Go.IntKind.i64 (Prod.fst (Prod.snd (Prod.snd (Prod.snd (Prod.snd x)))) + (1 : Int)), Prod.snd (Prod.snd (Prod.snd (Prod.snd (Prod.snd x)))))) else Option.some (Stp.out (Sum.inl (Prod.snd (Prod.snd (Prod.snd (Prod.snd (Prod.snd x)))))))

noncomputable def m_cascadia_matchAttribute_class : Tup p_cascadia_matchAttribute_class → Option (Tup q_cascadia_matchAttribute_class) := fun (x : Option Nat × List UInt8 × List UInt8 × List HN) => Option.bind (Prod.fst x) fun (i : Nat) => Option.bind (Option.some i) fun (i : Nat) => Option.bind (Prod.snd (Prod.snd (Prod.snd x)))[i]? fun (h : HN) => bif Decidable.decide (HN.ty h ≠ (3 : Int)) then Option.some Bool.false else Option.bind (Prod.fst x) fun (i : Nat) => Option.bind (Option.some i) fun (i : Nat) => Option.bind (Prod.snd (Prod.snd (Prod.snd x)))[i]? fun (h : HN) => Option.bind (loopO m_cascadia_matchAttribute_class_0 (Prod.fst (Prod.snd x), Prod.fst (Prod.snd (Prod.snd x)), HN.attrs h, (↑(List.length (HN.attrs h)) : Int), (0 : Int), Prod.snd (Prod.snd (Prod.snd x)))) fun (y : List HN ⊕ Bool × List HN) => selim (fun (y : List HN) => Option.some Bool.false) (fun (y : Bool × List HN) => Option.some (Prod.fst y)) y

noncomputable def cx_cascadia_matchAttribute_class : Cx := ⟨tb, lookE [(101, e_cascadia_classSelector_Match_1)]⟩

theorem ck_cascadia_matchAttribute_class : CxOK Try.prog (cx_cascadia_matchAttribute_class) := cx_ok tb_ok (.cons ok_cascadia_classSelector_Match_1 Try.call101 .nil)

noncomputable def c_cascadia_matchAttribute_class_0 : Code := loopAt (Go.Proofs.Try.f100.body.getD .skip) 0

noncomputable def l_cascadia_matchAttribute_class_0 : LEnt := ⟨p_cascadia_matchAttribute_class_0, x_cascadia_matchAttribute_class_0, loopO (m_cascadia_matchAttribute_class_0)⟩

theorem lo_cascadia_matchAttribute_class_0 : LOK Try.prog 34 0 false (l_cascadia_matchAttribute_class_0) c_cascadia_matchAttribute_class_0 := loop_ok (body := m_cascadia_matchAttribute_class_0) (L := lookL []) (ck_cascadia_matchAttribute_class) mixed (ls_ok (l := []) (by kernel_rfl) .nil) (by intro x; kernel_rfl) (fun x y h => loopO_iff.1 h)

noncomputable def e_cascadia_matchAttribute_class : Ent := ⟨0, p_cascadia_matchAttribute_class, q_cascadia_matchAttribute_class, m_cascadia_matchAttribute_class⟩
theorem ok_cascadia_matchAttribute_class : FnOK Try.prog 100 e_cascadia_matchAttribute_class := fn_ok (L := lookL [(0, l_cascadia_matchAttribute_class_0)]) ck_cascadia_matchAttribute_class mixed Try.func100 rfl (by kernel_rfl) (by kernel_rfl) (ls_ok (l := [(0, c_cascadia_matchAttribute_class_0)]) (by kernel_rfl) (.cons rfl (lo_cascadia_matchAttribute_class_0) .nil)) (by intro x; kernel_rfl)

/-! (cascadia.classSelector).Match -/
abbrev p_cascadia_classSelector_Match : Pt := [(0, .el (.rc .str [] 0)), (1, .np), (NTR, .nsr)]
abbrev q_cascadia_classSelector_Match : Pt := [(0, .bool)]

noncomputable def m_cascadia_classSelector_Match : Tup p_cascadia_classSelector_Match → Option (Tup q_cascadia_classSelector_Match) := fun (x : List UInt8 × Option Nat × List HN) => Option.bind (m_cascadia_matchAttribute_class (Prod.fst (Prod.snd x), [(99 : UInt8), (108 : UInt8), (97 : UInt8), (115 : UInt8), (115 : UInt8)], Prod.fst x, Prod.snd (Prod.snd x))) fun (r : Bool) => Option.some r

noncomputable def cx_cascadia_classSelector_Match : Cx := ⟨tb, lookE [(100, e_cascadia_matchAttribute_class), (101, e_cascadia_classSelector_Match_1)]⟩

theorem ck_cascadia_classSelector_Match : CxOK Try.prog (cx_cascadia_classSelector_Match) := cx_ok tb_ok (.cons ok_cascadia_matchAttribute_class Try.call100 (.cons ok_cascadia_classSelector_Match_1 Try.call101 .nil))

noncomputable def e_cascadia_classSelector_Match : Ent := ⟨0, p_cascadia_classSelector_Match, q_cascadia_classSelector_Match, m_cascadia_classSelector_Match⟩
theorem ok_cascadia_classSelector_Match : FnOK Try.prog 67 e_cascadia_classSelector_Match := fn_ok (L := lookL []) ck_cascadia_classSelector_Match mixed Try.func67 rfl (by kernel_rfl) (by kernel_rfl) (ls_ok (l := []) (by kernel_rfl) .nil) (by intro x; kernel_rfl)

/-! cascadia.IsClass -/
abbrev p_cascadia_IsClass : Pt := [(0, .np), (1, .str), (NTR, .nsr)]
abbrev q_cascadia_IsClass : Pt := [(0, .bool)]

noncomputable def m_cascadia_IsClass : Tup p_cascadia_IsClass → Option (Tup q_cascadia_IsClass) := fun (x : Option Nat × List UInt8 × List HN) => Option.bind (m_cascadia_classSelector_Match (Prod.fst (Prod.snd x), Prod.fst x, Prod.snd (Prod.snd x))) fun (r : Bool) => Option.some r

noncomputable def cx_cascadia_IsClass : Cx := ⟨tb, lookE [(67, e_cascadia_classSelector_Match)]⟩

theorem ck_cascadia_IsClass : CxOK Try.prog (cx_cascadia_IsClass) := cx_ok tb_ok (.cons ok_cascadia_classSelector_Match Try.call67 .nil)

noncomputable def e_cascadia_IsClass : Ent := ⟨0, p_cascadia_IsClass, q_cascadia_IsClass, m_cascadia_IsClass⟩
theorem ok_cascadia_IsClass : FnOK Try.prog 32 e_cascadia_IsClass := fn_ok (L := lookL []) ck_cascadia_IsClass mixed Try.func32 rfl (by kernel_rfl) (by kernel_rfl) (ls_ok (l := []) (by kernel_rfl) .nil) (by intro x; kernel_rfl)

/-! impl.IsClass -/
abbrev p_impl_IsClass : Pt := [(0, .lst .node), (1, .int .i64), (2, .str), (NT, .ns 115 111)]
abbrev q_impl_IsClass : Pt := [(0, .bool), (1, .bool), (NT, .ns 115 111)]

noncomputable def m_impl_IsClass : Tup p_impl_IsClass → Option (Tup q_impl_IsClass) := fun (x : List Node × Int × List UInt8 × List HN) => Option.bind (m_impl_grown (Prod.fst x, Prod.snd (Prod.snd (Prod.snd x)))) fun (r : List (Option Nat) × Bool × List HN) => bif !Prod.fst (Prod.snd r) then Option.some (Bool.false, Bool.false, Prod.snd (Prod.snd r)) else bif Decidable.decide (Prod.fst (Prod.snd x) < (0 : Int)) then Option.some (Bool.false, Bool.false, Prod.snd (Prod.snd r)) else bif Decidable.decide ((↑(List.length (Prod.fst r)) : Int) ≤ Prod.fst (Prod.snd x)) then Option.some (Bool.false, Bool.false, Prod.snd (Prod.snd r)) else Option.bind (atI (Prod.fst r) (Prod.fst (Prod.snd x))) fun (x_1 : Option Nat) => Option.bind (Prod.fst r)[Int.toNat (Prod.fst (Prod.snd x))]? fun (v : Option Nat) => Option.bind (m_cascadia_IsClass (v, Prod.fst (Prod.snd (Prod.snd x)), Prod.snd (Prod.snd r))) fun (r_1 : Bool) => Option.some (r_1, Bool.true, Prod.snd (Prod.snd r))

noncomputable def cx_impl_IsClass : Cx := ⟨tb, lookE [(31, e_impl_grown), (32, e_cascadia_IsClass)]⟩

theorem ck_impl_IsClass : CxOK Try.prog (cx_impl_IsClass) := cx_ok tb_ok (.cons ok_impl_grown Try.call31 (.cons ok_cascadia_IsClass Try.call32 .nil))

noncomputable def e_impl_IsClass : Ent := ⟨0, p_impl_IsClass, q_impl_IsClass, m_impl_IsClass⟩
theorem ok_impl_IsClass : FnOK Try.prog 11 e_impl_IsClass := fn_ok (L := lookL []) ck_impl_IsClass mixed Try.func11 rfl (by kernel_rfl) (by kernel_rfl) (ls_ok (l := []) (by kernel_rfl) .nil) (by intro x; kernel_rfl)

end Go.Proofs.Ytldldchdkcmojaa.V
