/-
  Models of functions, and that they are what the code does (written by a program).
-/
import Derived.Test.YtldldchdkcmojaaKTab
import Derived.Test.YtldldchdkcmojaaCascA
set_option linter.unusedVariables false
set_option linter.unusedSimpArgs false
namespace Go.Proofs.Ytldldchdkcmojaa.V
open Go Go.Proofs

/-! cascadia.zzIsSpace -/
abbrev p_cascadia_zzIsSpace : Pt := [(0, .int .i32)]
abbrev q_cascadia_zzIsSpace : Pt := [(0, .bool)]

noncomputable def m_cascadia_zzIsSpace : Tup p_cascadia_zzIsSpace → Option (Tup q_cascadia_zzIsSpace) := fun (x : Int) => bif Decidable.decide (x = (9 : Int)) then Option.some Bool.true else bif Decidable.decide (x = (10 : Int)) then Option.some Bool.true else bif Decidable.decide (x = (11 : Int)) then Option.some Bool.true else bif Decidable.decide (x = (12 : Int)) then Option.some Bool.true else bif Decidable.decide (x = (13 : Int)) then Option.some Bool.true else bif Decidable.decide (x = (32 : Int)) then Option.some Bool.true else bif Decidable.decide (x = (133 : Int)) then Option.some Bool.true else bif Decidable.decide (x = (160 : Int)) then Option.some Bool.true else bif Decidable.decide (x = (5760 : Int)) then Option.some Bool.true else bif Decidable.decide (x = (8232 : Int)) then Option.some Bool.true else bif Decidable.decide (x = (8233 : Int)) then Option.some Bool.true else bif Decidable.decide (x = (8239 : Int)) then Option.some Bool.true else bif Decidable.decide (x = (8287 : Int)) then Option.some Bool.true else bif Decidable.decide (x = (12288 : Int)) then Option.some Bool.true else bif Decidable.decide ((8192 : Int) ≤ x) then Option.some (Decidable.decide (x ≤ (8202 : Int))) else Option.some Bool.false

noncomputable def cx_cascadia_zzIsSpace : Cx := ⟨tb, lookE []⟩

theorem ck_cascadia_zzIsSpace : CxOK Try.prog (cx_cascadia_zzIsSpace) := cx_ok tb_ok .nil

noncomputable def e_cascadia_zzIsSpace : Ent := ⟨0, p_cascadia_zzIsSpace, q_cascadia_zzIsSpace, m_cascadia_zzIsSpace⟩
theorem ok_cascadia_zzIsSpace : FnOK Try.prog 138 e_cascadia_zzIsSpace := fn_ok (L := lookL []) ck_cascadia_zzIsSpace mixed Try.func138 rfl (by kernel_rfl) (by kernel_rfl) (ls_ok (l := []) (by kernel_rfl) .nil) (by intro x; kernel_rfl)

/-! cascadia.zzTrimSpace -/
abbrev p_cascadia_zzTrimSpace : Pt := [(0, .str)]
abbrev q_cascadia_zzTrimSpace : Pt := [(0, .str)]

abbrev p_cascadia_zzTrimSpace_0_0 : Pt := [(0, .str), (3, .int .i64), (4, .int .i64), (10, .sit)]
abbrev x_cascadia_zzTrimSpace_0_0 : List (Xt × Pt) := [(.ex 2, [(0, .str), (3, .int .i64), (4, .int .i64), (10, .sit)])]
noncomputable def m_cascadia_zzTrimSpace_0_0 : Tup p_cascadia_zzTrimSpace_0_0 → Option (Stp (Tup p_cascadia_zzTrimSpace_0_0) (SumT (x_cascadia_zzTrimSpace_0_0.map (·.2)))) := fun (x : List UInt8 × Int × Int × List UInt8 × Nat) => bif Decidable.decide (Prod.fst (Prod.snd (Prod.snd x)) < (↑(List.length (Prod.fst x)) : Int)) then Option.bind (atI (Prod.fst x) (Prod.fst (Prod.snd (Prod.snd x)))) fun (c : UInt8) => bif Decidable.decide ((128 : Int) ≤ (↑(UInt8.toNat c) : Int)) then Option.bind (atI (Prod.fst x) (Prod.fst (Prod.snd (Prod.snd x)))) fun (c : UInt8) => bif Decidable.decide ((↑(UInt8.toNat c) : Int) < (192 : Int)) then Option.some (Stp.nx (Prod.fst x, Prod.fst (Prod.snd x), Go.IntKind.wrap Go.IntKind.i64 (Prod.fst (Prod.snd (Prod.snd x)) + (1 : Int)), Prod.fst (Prod.snd (Prod.snd (Prod.snd x))), Prod.snd (Prod.snd (Prod.snd (Prod.snd x))))) else Option.some (Stp.out (Prod.fst x, Prod.fst (Prod.snd x), Prod.fst (Prod.snd (Prod.snd x)), Prod.fst (Prod.snd (Prod.snd (Prod.snd x))), Prod.snd (Prod.snd (Prod.snd (Prod.snd x))))) else Option.some (Stp.out (Prod.fst x, Prod.fst (Prod.snd x), Prod.fst (Prod.snd (Prod.snd x)), Prod.fst (Prod.snd (Prod.snd (Prod.snd x))), Prod.snd (Prod.snd (Prod.snd (Prod.snd x))))) else Option.some (Stp.out (Prod.fst x, Prod.fst (Prod.snd x), Prod.fst (Prod.snd (Prod.snd x)), Prod.fst (Prod.snd (Prod.snd (Prod.snd x))), Prod.snd (Prod.snd (Prod.snd (Prod.snd x)))))

abbrev p_cascadia_zzTrimSpace_0 : Pt := [(0, .str), (3, .int .i64), (4, .int .i64), (10, .sit)]
abbrev x_cascadia_zzTrimSpace_0 : List (Xt × Pt) := [(.ex 0, [(0, .str), (3, .int .i64), (4, .int .i64)])]
noncomputable def m_cascadia_zzTrimSpace_0 : Tup p_cascadia_zzTrimSpace_0 → Option (Stp (Tup p_cascadia_zzTrimSpace_0) (SumT (x_cascadia_zzTrimSpace_0.map (·.2)))) := fun (x : List UInt8 × Int × Int × List UInt8 × Nat) => bif Decidable.decide (Prod.snd (Prod.snd (Prod.snd (Prod.snd x))) < List.length (Prod.fst (Prod.snd (Prod.snd (Prod.snd x))))) then Option.bind (m_cascadia_zzIsSpace (↑(Prod.fst (dec8 (Prod.fst (Prod.snd (Prod.snd (Prod.snd x)))) (Prod.snd (Prod.snd (Prod.snd (Prod.snd x)))))) : Int)) fun (r : Bool) => bif !r then Option.bind (loopO m_cascadia_zzTrimSpace_0_0 (Prod.fst x, if (↑(Prod.snd (Prod.snd (Prod.snd (Prod.snd x)))) : Int) < Prod.fst (Prod.snd x) then (↑(Prod.snd (Prod.snd (Prod.snd (Prod.snd x)))) : Int) else Prod.fst (Prod.snd x), Go.IntKind.wrap Go.IntKind.i64 ((↑(Prod.snd (Prod.snd (Prod.snd (Prod.snd x)))) : Int) + (1 : Int)), Prod.fst (Prod.snd (Prod.snd (Prod.snd x))), Prod.snd (Prod.snd (Prod.snd (Prod.snd x))) + Prod.snd (dec8 (Prod.fst (Prod.snd (Prod.snd (Prod.snd x)))) (Prod.snd (Prod.snd (Prod.snd (Prod.snd x))))))) fun (y : List UInt8 × Int × Int × List UInt8 × Nat) => Option.some (Stp.nx (Prod.fst y, Prod.fst (Prod.snd y), Prod.fst (Prod.snd (Prod.snd y)), Prod.fst (Prod.snd (Prod.snd (Prod.snd y))), Prod.snd (Prod.snd (Prod.snd (Prod.snd y))))) else Option.some (Stp.nx (Prod.fst x, Prod.fst (Prod.snd x), Prod.fst (Prod.snd (Prod.snd x)), Prod.fst (Prod.snd (Prod.snd (Prod.snd x))), Prod.snd (Prod.snd (Prod.snd (Prod.snd x))) + Prod.snd (dec8 (Prod.fst (Prod.snd (Prod.snd (Prod.snd x)))) (Prod.snd (Prod.snd (Prod.snd (Prod.snd x))))))) else Option.some (Stp.out (Prod.fst x, Prod.fst (Prod.snd x), Prod.fst (Prod.snd (Prod.snd x))))

noncomputable def m_cascadia_zzTrimSpace : Tup p_cascadia_zzTrimSpace → Option (Tup q_cascadia_zzTrimSpace) := fun (x : List UInt8) => Option.bind (loopO m_cascadia_zzTrimSpace_0 (x, (↑(List.length x) : Int), (0 : Int), x, (0 : Nat))) fun (y : List UInt8 × Int × Int) => bif Decidable.decide (Prod.snd (Prod.snd y) ≤ Prod.fst (Prod.snd y)) then Option.some [] else Option.bind (subL (Prod.fst y) (Prod.fst (Prod.snd y)) (Prod.snd (Prod.snd y))) fun (m : List UInt8) => Option.some m

noncomputable def cx_cascadia_zzTrimSpace : Cx := ⟨tb, lookE [(138, e_cascadia_zzIsSpace)]⟩

theorem ck_cascadia_zzTrimSpace : CxOK Try.prog (cx_cascadia_zzTrimSpace) := cx_ok tb_ok (.cons ok_cascadia_zzIsSpace Try.call138 .nil)

noncomputable def c_cascadia_zzTrimSpace_0_0 : Code := loopAt (loopAt (Go.Proofs.Try.f126.body.getD .skip) 0) 0

noncomputable def l_cascadia_zzTrimSpace_0_0 : LEnt := ⟨p_cascadia_zzTrimSpace_0_0, x_cascadia_zzTrimSpace_0_0, loopO (m_cascadia_zzTrimSpace_0_0)⟩

theorem lo_cascadia_zzTrimSpace_0_0 : LOK Try.prog 48 0 false (l_cascadia_zzTrimSpace_0_0) c_cascadia_zzTrimSpace_0_0 := loop_ok (body := m_cascadia_zzTrimSpace_0_0) (L := lookL []) (ck_cascadia_zzTrimSpace) mixed (ls_ok (l := []) (by kernel_rfl) .nil) (by intro x; kernel_rfl) (fun x y h => loopO_iff.1 h)

noncomputable def c_cascadia_zzTrimSpace_0 : Code := loopAt (Go.Proofs.Try.f126.body.getD .skip) 0

noncomputable def l_cascadia_zzTrimSpace_0 : LEnt := ⟨p_cascadia_zzTrimSpace_0, x_cascadia_zzTrimSpace_0, loopO (m_cascadia_zzTrimSpace_0)⟩

theorem lo_cascadia_zzTrimSpace_0 : LOK Try.prog 48 0 false (l_cascadia_zzTrimSpace_0) c_cascadia_zzTrimSpace_0 := loop_ok (body := m_cascadia_zzTrimSpace_0) (L := lookL [(2, l_cascadia_zzTrimSpace_0_0)]) (ck_cascadia_zzTrimSpace) mixed (ls_ok (l := [(2, c_cascadia_zzTrimSpace_0_0)]) (by kernel_rfl) (.cons rfl (lo_cascadia_zzTrimSpace_0_0) .nil)) (by intro x; kernel_rfl) (fun x y h => loopO_iff.1 h)

noncomputable def e_cascadia_zzTrimSpace : Ent := ⟨0, p_cascadia_zzTrimSpace, q_cascadia_zzTrimSpace, m_cascadia_zzTrimSpace⟩
theorem ok_cascadia_zzTrimSpace : FnOK Try.prog 126 e_cascadia_zzTrimSpace := fn_ok (L := lookL [(0, l_cascadia_zzTrimSpace_0)]) ck_cascadia_zzTrimSpace mixed Try.func126 rfl (by kernel_rfl) (by kernel_rfl) (ls_ok (l := [(0, c_cascadia_zzTrimSpace_0)]) (by kernel_rfl) (.cons rfl (lo_cascadia_zzTrimSpace_0) .nil)) (by intro x; kernel_rfl)

/-! stringslite.HasPrefix -/
abbrev p_internal_stringslite_HasPrefix : Pt := [(0, .str), (1, .str)]
abbrev q_internal_stringslite_HasPrefix : Pt := [(0, .bool)]

noncomputable def m_internal_stringslite_HasPrefix : Tup p_internal_stringslite_HasPrefix → Option (Tup q_internal_stringslite_HasPrefix) := fun (x : List UInt8 × List UInt8) => bif Decidable.decide ((↑(List.length (Prod.snd x)) : Int) ≤ (↑(List.length (Prod.fst x)) : Int)) then Option.bind (subL (Prod.fst x) (0 : Int) (↑(List.length (Prod.snd x)) : Int)) fun (m : List UInt8) => Option.some (Decidable.decide (m = Prod.snd x)) else Option.some Bool.false

noncomputable def cx_internal_stringslite_HasPrefix : Cx := ⟨tb, lookE []⟩

theorem ck_internal_stringslite_HasPrefix : CxOK Try.prog (cx_internal_stringslite_HasPrefix) := cx_ok tb_ok .nil

noncomputable def e_internal_stringslite_HasPrefix : Ent := ⟨0, p_internal_stringslite_HasPrefix, q_internal_stringslite_HasPrefix, m_internal_stringslite_HasPrefix⟩
theorem ok_internal_stringslite_HasPrefix : FnOK Try.prog 139 e_internal_stringslite_HasPrefix := fn_ok (L := lookL []) ck_internal_stringslite_HasPrefix mixed Try.func139 rfl (by kernel_rfl) (by kernel_rfl) (ls_ok (l := []) (by kernel_rfl) .nil) (by intro x; kernel_rfl)

/-! strings.HasPrefix -/
abbrev p_strings_HasPrefix : Pt := [(0, .str), (1, .str)]
abbrev q_strings_HasPrefix : Pt := [(0, .bool)]

noncomputable def m_strings_HasPrefix : Tup p_strings_HasPrefix → Option (Tup q_strings_HasPrefix) := fun (x : List UInt8 × List UInt8) => Option.bind (m_internal_stringslite_HasPrefix (Prod.fst x, Prod.snd x)) fun (r : Bool) => Option.some r

noncomputable def cx_strings_HasPrefix : Cx := ⟨tb, lookE [(139, e_internal_stringslite_HasPrefix)]⟩

theorem ck_strings_HasPrefix : CxOK Try.prog (cx_strings_HasPrefix) := cx_ok tb_ok (.cons ok_internal_stringslite_HasPrefix Try.call139 .nil)

noncomputable def e_strings_HasPrefix : Ent := ⟨0, p_strings_HasPrefix, q_strings_HasPrefix, m_strings_HasPrefix⟩
theorem ok_strings_HasPrefix : FnOK Try.prog 127 e_strings_HasPrefix := fn_ok (L := lookL []) ck_strings_HasPrefix mixed Try.func127 rfl (by kernel_rfl) (by kernel_rfl) (ls_ok (l := []) (by kernel_rfl) .nil) (by intro x; kernel_rfl)

/-! stringslite.HasSuffix -/
abbrev p_internal_stringslite_HasSuffix : Pt := [(0, .str), (1, .str)]
abbrev q_internal_stringslite_HasSuffix : Pt := [(0, .bool)]

noncomputable def m_internal_stringslite_HasSuffix : Tup p_internal_stringslite_HasSuffix → Option (Tup q_internal_stringslite_HasSuffix) := fun (x : List UInt8 × List UInt8) => bif Decidable.decide ((↑(List.length (Prod.snd x)) : Int) ≤ (↑(List.length (Prod.fst x)) : Int)) then Option.bind (subL (Prod.fst x) (Go.IntKind.wrap Go.IntKind.i64 ((↑(List.length (Prod.fst x)) : Int) - (↑(List.length (Prod.snd x)) : Int))) (↑(List.length (Prod.fst x)) : Int)) fun (m : List UInt8) => Option.some (Decidable.decide (m = Prod.snd x)) else Option.some Bool.false

noncomputable def cx_internal_stringslite_HasSuffix : Cx := ⟨tb, lookE []⟩

theorem ck_internal_stringslite_HasSuffix : CxOK Try.prog (cx_internal_stringslite_HasSuffix) := cx_ok tb_ok .nil

noncomputable def e_internal_stringslite_HasSuffix : Ent := ⟨0, p_internal_stringslite_HasSuffix, q_internal_stringslite_HasSuffix, m_internal_stringslite_HasSuffix⟩
theorem ok_internal_stringslite_HasSuffix : FnOK Try.prog 140 e_internal_stringslite_HasSuffix := fn_ok (L := lookL []) ck_internal_stringslite_HasSuffix mixed Try.func140 rfl (by kernel_rfl) (by kernel_rfl) (ls_ok (l := []) (by kernel_rfl) .nil) (by intro x; kernel_rfl)

/-! strings.HasSuffix -/
abbrev p_strings_HasSuffix : Pt := [(0, .str), (1, .str)]
abbrev q_strings_HasSuffix : Pt := [(0, .bool)]

noncomputable def m_strings_HasSuffix : Tup p_strings_HasSuffix → Option (Tup q_strings_HasSuffix) := fun (x : List UInt8 × List UInt8) => Option.bind (m_internal_stringslite_HasSuffix (Prod.fst x, Prod.snd x)) fun (r : Bool) => Option.some r

noncomputable def cx_strings_HasSuffix : Cx := ⟨tb, lookE [(140, e_internal_stringslite_HasSuffix)]⟩

theorem ck_strings_HasSuffix : CxOK Try.prog (cx_strings_HasSuffix) := cx_ok tb_ok (.cons ok_internal_stringslite_HasSuffix Try.call140 .nil)

noncomputable def e_strings_HasSuffix : Ent := ⟨0, p_strings_HasSuffix, q_strings_HasSuffix, m_strings_HasSuffix⟩
theorem ok_strings_HasSuffix : FnOK Try.prog 130 e_strings_HasSuffix := fn_ok (L := lookL []) ck_strings_HasSuffix mixed Try.func130 rfl (by kernel_rfl) (by kernel_rfl) (ls_ok (l := []) (by kernel_rfl) .nil) (by intro x; kernel_rfl)

/-! cascadia.zzIndex -/
abbrev p_cascadia_zzIndex : Pt := [(0, .str), (1, .str)]
abbrev q_cascadia_zzIndex : Pt := [(0, .int .i64)]

abbrev p_cascadia_zzIndex_0 : Pt := [(0, .str), (1, .str), (5, .int .i64)]
abbrev x_cascadia_zzIndex_0 : List (Xt × Pt) := [(.ex 0, []), (.rt, [(4, .int .i64)])]
noncomputable def m_cascadia_zzIndex_0 : Tup p_cascadia_zzIndex_0 → Option (Stp (Tup p_cascadia_zzIndex_0) (SumT (x_cascadia_zzIndex_0.map (·.2)))) := fun (x : List UInt8 × List UInt8 × Int) => bif Decidable.decide (Go.IntKind.wrap Go.IntKind.i64 (Prod.snd (Prod.snd x) + (↑(List.length (Prod.fst (Prod.snd x))) : Int)) ≤ (↑(List.length (Prod.fst x)) : Int)) then Option.bind (subL (Prod.fst x) (Prod.snd (Prod.snd x)) (Go.IntKind.wrap Go.IntKind.i64 (Prod.snd (Prod.snd x) + (↑(List.length (Prod.fst (Prod.snd x))) : Int)))) fun (m : List UInt8) => bif Decidable.decide (m = Prod.fst (Prod.snd x)) then Option.some (Stp.out (Sum.inr (Prod.snd (Prod.snd x)))) else Option.some (Stp.nx (Prod.fst x, Prod.fst (Prod.snd x), Go.IntKind.wrap Go.IntKind.i64 (Prod.snd (Prod.snd x) + (1 : Int)))) else Option.some (Stp.out (Sum.inl PUnit.unit))

noncomputable def m_cascadia_zzIndex : Tup p_cascadia_zzIndex → Option (Tup q_cascadia_zzIndex) := fun (x : List UInt8 × List UInt8) => Option.bind (loopO m_cascadia_zzIndex_0 (Prod.fst x, Prod.snd x, (0 : Int))) fun (y : PUnit ⊕ Int) => selim (fun (y : PUnit) => Option.some (-1 : Int)) (fun (y : Int) => Option.some y) y

noncomputable def cx_cascadia_zzIndex : Cx := ⟨tb, lookE []⟩

theorem ck_cascadia_zzIndex : CxOK Try.prog (cx_cascadia_zzIndex) := cx_ok tb_ok .nil

noncomputable def c_cascadia_zzIndex_0 : Code := loopAt (Go.Proofs.Try.f141.body.getD .skip) 0

noncomputable def l_cascadia_zzIndex_0 : LEnt := ⟨p_cascadia_zzIndex_0, x_cascadia_zzIndex_0, loopO (m_cascadia_zzIndex_0)⟩

theorem lo_cascadia_zzIndex_0 : LOK Try.prog 25 0 false (l_cascadia_zzIndex_0) c_cascadia_zzIndex_0 := loop_ok (body := m_cascadia_zzIndex_0) (L := lookL []) (ck_cascadia_zzIndex) mixed (ls_ok (l := []) (by kernel_rfl) .nil) (by intro x; kernel_rfl) (fun x y h => loopO_iff.1 h)

noncomputable def e_cascadia_zzIndex : Ent := ⟨0, p_cascadia_zzIndex, q_cascadia_zzIndex, m_cascadia_zzIndex⟩
theorem ok_cascadia_zzIndex : FnOK Try.prog 141 e_cascadia_zzIndex := fn_ok (L := lookL [(0, l_cascadia_zzIndex_0)]) ck_cascadia_zzIndex mixed Try.func141 rfl (by kernel_rfl) (by kernel_rfl) (ls_ok (l := [(0, c_cascadia_zzIndex_0)]) (by kernel_rfl) (.cons rfl (lo_cascadia_zzIndex_0) .nil)) (by intro x; kernel_rfl)

/-! cascadia.zzContains -/
abbrev p_cascadia_zzContains : Pt := [(0, .str), (1, .str)]
abbrev q_cascadia_zzContains : Pt := [(0, .bool)]

noncomputable def m_cascadia_zzContains : Tup p_cascadia_zzContains → Option (Tup q_cascadia_zzContains) := fun (x : List UInt8 × List UInt8) => Option.bind (m_cascadia_zzIndex (Prod.fst x, Prod.snd x)) fun (r : Int) => Option.some (Decidable.decide ((0 : Int) ≤ r))

noncomputable def cx_cascadia_zzContains : Cx := ⟨tb, lookE [(141, e_cascadia_zzIndex)]⟩

theorem ck_cascadia_zzContains : CxOK Try.prog (cx_cascadia_zzContains) := cx_ok tb_ok (.cons ok_cascadia_zzIndex Try.call141 .nil)

noncomputable def e_cascadia_zzContains : Ent := ⟨0, p_cascadia_zzContains, q_cascadia_zzContains, m_cascadia_zzContains⟩
theorem ok_cascadia_zzContains : FnOK Try.prog 132 e_cascadia_zzContains := fn_ok (L := lookL []) ck_cascadia_zzContains mixed Try.func132 rfl (by kernel_rfl) (by kernel_rfl) (ls_ok (l := []) (by kernel_rfl) .nil) (by intro x; kernel_rfl)

/-! (cascadia.attrSelector).Match$1 -/
abbrev p_cascadia_attrSelector_Match_1 : Pt := [(0, .str)]
abbrev q_cascadia_attrSelector_Match_1 : Pt := [(0, .bool)]

noncomputable def m_cascadia_attrSelector_Match_1 : Tup p_cascadia_attrSelector_Match_1 → Option (Tup q_cascadia_attrSelector_Match_1) := fun (x : List UInt8) => Option.some Bool.true

noncomputable def cx_cascadia_attrSelector_Match_1 : Cx := ⟨tb, lookE []⟩

theorem ck_cascadia_attrSelector_Match_1 : CxOK Try.prog (cx_cascadia_attrSelector_Match_1) := cx_ok tb_ok .nil

noncomputable def e_cascadia_attrSelector_Match_1 : Ent := ⟨0, p_cascadia_attrSelector_Match_1, q_cascadia_attrSelector_Match_1, m_cascadia_attrSelector_Match_1⟩
theorem ok_cascadia_attrSelector_Match_1 : FnOK Try.prog 103 e_cascadia_attrSelector_Match_1 := fn_ok (L := lookL []) ck_cascadia_attrSelector_Match_1 mixed Try.func103 rfl (by kernel_rfl) (by kernel_rfl) (ls_ok (l := []) (by kernel_rfl) .nil) (by intro x; kernel_rfl)

/-! (cascadia.attrSelector).Match$2 -/
abbrev p_cascadia_attrSelector_Match_2 : Pt := [(0, .str), (1, .fp (.rc .str [.str, .str, .bool] 0))]
abbrev q_cascadia_attrSelector_Match_2 : Pt := [(0, .bool)]

noncomputable def m_cascadia_attrSelector_Match_2 : Tup p_cascadia_attrSelector_Match_2 → Option (Tup q_cascadia_attrSelector_Match_2) := fun (x : List UInt8 × List UInt8 × List UInt8 × List UInt8 × Bool) => Option.bind (m_cascadia_matchInsensitiveValue (Prod.fst x, Prod.fst (Prod.snd (Prod.snd x)), Prod.snd (Prod.snd (Prod.snd (Prod.snd x))))) fun (r : Bool) => Option.some r

noncomputable def cx_cascadia_attrSelector_Match_2 : Cx := ⟨tb, lookE [(105, e_cascadia_matchInsensitiveValue)]⟩

theorem ck_cascadia_attrSelector_Match_2 : CxOK Try.prog (cx_cascadia_attrSelector_Match_2) := cx_ok tb_ok (.cons ok_cascadia_matchInsensitiveValue Try.call105 .nil)

noncomputable def e_cascadia_attrSelector_Match_2 : Ent := ⟨0, p_cascadia_attrSelector_Match_2, q_cascadia_attrSelector_Match_2, m_cascadia_attrSelector_Match_2⟩
theorem ok_cascadia_attrSelector_Match_2 : FnOK Try.prog 104 e_cascadia_attrSelector_Match_2 := fn_ok (L := lookL []) ck_cascadia_attrSelector_Match_2 mixed Try.func104 rfl (by kernel_rfl) (by kernel_rfl) (ls_ok (l := []) (by kernel_rfl) .nil) (by intro x; kernel_rfl)

/-! (cascadia.attrSelector).Match$3 -/
abbrev p_cascadia_attrSelector_Match_3 : Pt := [(0, .str), (1, .fp (.rc .str [.str, .str, .bool] 0))]
abbrev q_cascadia_attrSelector_Match_3 : Pt := [(0, .bool)]

noncomputable def m_cascadia_attrSelector_Match_3 : Tup p_cascadia_attrSelector_Match_3 → Option (Tup q_cascadia_attrSelector_Match_3) := fun (x : List UInt8 × List UInt8 × List UInt8 × List UInt8 × Bool) => Option.bind (m_cascadia_matchInclude (Prod.fst (Prod.snd (Prod.snd x)), Prod.fst x, Prod.snd (Prod.snd (Prod.snd (Prod.snd x))))) fun (r : Bool) => Option.some r

noncomputable def cx_cascadia_attrSelector_Match_3 : Cx := ⟨tb, lookE [(102, e_cascadia_matchInclude)]⟩

theorem ck_cascadia_attrSelector_Match_3 : CxOK Try.prog (cx_cascadia_attrSelector_Match_3) := cx_ok tb_ok (.cons ok_cascadia_matchInclude Try.call102 .nil)

noncomputable def e_cascadia_attrSelector_Match_3 : Ent := ⟨0, p_cascadia_attrSelector_Match_3, q_cascadia_attrSelector_Match_3, m_cascadia_attrSelector_Match_3⟩
theorem ok_cascadia_attrSelector_Match_3 : FnOK Try.prog 107 e_cascadia_attrSelector_Match_3 := fn_ok (L := lookL []) ck_cascadia_attrSelector_Match_3 mixed Try.func107 rfl (by kernel_rfl) (by kernel_rfl) (ls_ok (l := []) (by kernel_rfl) .nil) (by intro x; kernel_rfl)

/-! cascadia.matchAttribute@m1 -/
abbrev p_cascadia_matchAttribute_m1 : Pt := [(0, .np), (1, .str), (2, .clo 103 []), (NTR, .nsr)]
abbrev q_cascadia_matchAttribute_m1 : Pt := [(0, .bool)]

abbrev p_cascadia_matchAttribute_m1_0 : Pt := [(1, .str), (2, .clo 103 []), (17, .lst .hattr), (18, .int .i64), (19, .int .i64), (NTR, .nsr)]
abbrev x_cascadia_matchAttribute_m1_0 : List (Xt × Pt) := [(.ex 0, [(NTR, .nsr)]), (.rt, [(6, .bool), (NTR, .nsr)])]
noncomputable def m_cascadia_matchAttribute_m1_0 : Tup p_cascadia_matchAttribute_m1_0 → Option (Stp (Tup p_cascadia_matchAttribute_m1_0) (SumT (x_cascadia_matchAttribute_m1_0.map (·.2)))) := fun (x : List UInt8 × PUnit × List HAttr × Int × Int × List HN) => bif Decidable.decide (Prod.fst (Prod.snd (Prod.snd (Prod.snd (Prod.snd x)))) < Prod.fst (Prod.snd (Prod.snd (Prod.snd x)))) then Option.bind (atI (Prod.fst (Prod.snd (Prod.snd x))) (Prod.fst (Prod.snd (Prod.snd (Prod.snd (Prod.snd x)))))) fun (v : HAttr) => bif Decidable.decide (HAttr.key v = Prod.fst x) then Option.bind (m_cascadia_attrSelector_Match_1 (HAttr.val v)) fun (r : Bool) => bif r then Option.some (Stp.out (Sum.inr (Bool.true, Prod.snd (Prod.snd (Prod.snd (Prod.snd (Prod.snd x))))))) else Option.some (Stp.nx (Prod.fst x, PUnit.unit, Prod.fst (Prod.snd (Prod.snd x)), Prod.fst (Prod.snd (Prod.snd (Prod.snd x))), Go.IntKind.wrap Go.IntKind.i64 (Prod.fst (Prod.snd (Prod.snd (Prod.snd (Prod.snd x)))) + (1 : Int)), Prod.snd (Prod.snd (Prod.snd (Prod.snd (Prod.snd x)))))) else Option.some (Stp.nx (Prod.fst x, PUnit.unit, Prod.fst (Prod.snd (Prod.snd x)), Prod.fst (Prod.snd (Prod.snd (Prod.snd x))), Go.IntKind.wrap Go.IntKind.i64 (Prod.fst (Prod.snd (Prod.snd (Prod.snd (Prod.snd x)))) + (1 : Int)), Prod.snd (Prod.snd (Prod.snd (Prod.snd (Prod.snd x)))))) else Option.some (Stp.out (Sum.inl (Prod.snd (Prod.snd (Prod.snd (Prod.snd (Prod.snd x)))))))

noncomputable def m_cascadia_matchAttribute_m1 : Tup p_cascadia_matchAttribute_m1 → Option (Tup q_cascadia_matchAttribute_m1) := fun (x : Option Nat × List UInt8 × PUnit × List HN) => Option.bind (Prod.fst x) fun (i : Nat) => Option.bind (Option.some i) fun (i : Nat) => Option.bind (Prod.snd (Prod.snd (Prod.snd x)))[i]? fun (h : HN) => bif Decidable.decide (HN.ty h ≠ (3 : Int)) then Option.some Bool.false else Option.bind (Prod.fst x) fun (i : Nat) => Option.bind (Option.some i) fun (i : Nat) => Option.bind (Prod.snd (Prod.snd (Prod.snd x)))[i]? fun (h : HN) => Option.bind (loopO m_cascadia_matchAttribute_m1_0 (Prod.fst (Prod.snd x), (), HN.attrs h, (↑(List.length (HN.attrs h)) : Int), (0 : Int), Prod.snd (Prod.snd (Prod.snd x)))) fun (y : List HN ⊕ Bool × List HN) => selim (fun (y : List HN) => Option.some Bool.false) (fun (y : Bool × List HN) => Option.some (Prod.fst y)) y

noncomputable def cx_cascadia_matchAttribute_m1 : Cx := ⟨tb, lookE [(103, e_cascadia_attrSelector_Match_1)]⟩

theorem ck_cascadia_matchAttribute_m1 : CxOK Try.prog (cx_cascadia_matchAttribute_m1) := cx_ok tb_ok (.cons ok_cascadia_attrSelector_Match_1 Try.call103 .nil)

noncomputable def c_cascadia_matchAttribute_m1_0 : Code := loopAt (Go.Proofs.Try.f100.body.getD .skip) 0

noncomputable def l_cascadia_matchAttribute_m1_0 : LEnt := ⟨p_cascadia_matchAttribute_m1_0, x_cascadia_matchAttribute_m1_0, loopO (m_cascadia_matchAttribute_m1_0)⟩

theorem lo_cascadia_matchAttribute_m1_0 : LOK Try.prog 34 0 false (l_cascadia_matchAttribute_m1_0) c_cascadia_matchAttribute_m1_0 := loop_ok (body := m_cascadia_matchAttribute_m1_0) (L := lookL []) (ck_cascadia_matchAttribute_m1) mixed (ls_ok (l := []) (by kernel_rfl) .nil) (by intro x; kernel_rfl) (fun x y h => loopO_iff.1 h)

noncomputable def e_cascadia_matchAttribute_m1 : Ent := ⟨0, p_cascadia_matchAttribute_m1, q_cascadia_matchAttribute_m1, m_cascadia_matchAttribute_m1⟩
theorem ok_cascadia_matchAttribute_m1 : FnOK Try.prog 100 e_cascadia_matchAttribute_m1 := fn_ok (L := lookL [(0, l_cascadia_matchAttribute_m1_0)]) ck_cascadia_matchAttribute_m1 mixed Try.func100 rfl (by kernel_rfl) (by kernel_rfl) (ls_ok (l := [(0, c_cascadia_matchAttribute_m1_0)]) (by kernel_rfl) (.cons rfl (lo_cascadia_matchAttribute_m1_0) .nil)) (by intro x; kernel_rfl)

/-! cascadia.matchAttribute@m2 -/
abbrev p_cascadia_matchAttribute_m2 : Pt := [(0, .np), (1, .str), (2, .clo 104 [(.rc .str [.str, .str, .bool] 0)]), (NTR, .nsr)]
abbrev q_cascadia_matchAttribute_m2 : Pt := [(0, .bool)]

abbrev p_cascadia_matchAttribute_m2_0 : Pt := [(1, .str), (2, .clo 104 [(.rc .str [.str, .str, .bool] 0)]), (17, .lst .hattr), (18, .int .i64), (19, .int .i64), (NTR, .nsr)]
abbrev x_cascadia_matchAttribute_m2_0 : List (Xt × Pt) := [(.ex 0, [(NTR, .nsr)]), (.rt, [(6, .bool), (NTR, .nsr)])]
noncomputable def m_cascadia_matchAttribute_m2_0 : Tup p_cascadia_matchAttribute_m2_0 → Option (Stp (Tup p_cascadia_matchAttribute_m2_0) (SumT (x_cascadia_matchAttribute_m2_0.map (·.2)))) := fun (x : List UInt8 × (List UInt8 × List UInt8 × List UInt8 × Bool) × List HAttr × Int × Int × List HN) => bif Decidable.decide (Prod.fst (Prod.snd (Prod.snd (Prod.snd (Prod.snd x)))) < Prod.fst (Prod.snd (Prod.snd (Prod.snd x)))) then Option.bind (atI (Prod.fst (Prod.snd (Prod.snd x))) (Prod.fst (Prod.snd (Prod.snd (Prod.snd (Prod.snd x)))))) fun (v : HAttr) => bif Decidable.decide (HAttr.key v = Prod.fst x) then Option.bind (m_cascadia_attrSelector_Match_2 (HAttr.val v, Prod.fst (Prod.fst (Prod.snd x)), Prod.fst (Prod.snd (Prod.fst (Prod.snd x))), Prod.fst (Prod.snd (Prod.snd (Prod.fst (Prod.snd x)))), Prod.snd (Prod.snd (Prod.snd (Prod.fst (Prod.snd x)))))) fun (r : Bool) => bif r then Option.some (Stp.out (Sum.inr (Bool.true, Prod.snd (Prod.snd (Prod.snd (Prod.snd (Prod.snd x))))))) else Option.some (Stp.nx (Prod.fst x, (Prod.fst (Prod.fst (Prod.snd x)), Prod.fst (Prod.snd (Prod.fst (Prod.snd x))), Prod.fst (Prod.snd (Prod.snd (Prod.fst (Prod.snd x)))), Prod.snd (Prod.snd (Prod.snd (Prod.fst (Prod.snd x))))), Prod.fst (Prod.snd (Prod.snd x)), Prod.fst (Prod.snd (Prod.snd (Prod.snd x))), Go.IntKind.wrap Go.IntKind.i64 (Prod.fst (Prod.snd (Prod.snd (Prod.snd (Prod.snd x)))) + (1 : Int)), Prod.snd (Prod.snd (Prod.snd (Prod.snd (Prod.snd x)))))) else Option.some (Stp.nx (Prod.fst x, (Prod.fst (Prod.fst (Prod.snd x)), Prod.fst (Prod.snd (Prod.fst (Prod.snd x))), Prod.fst (Prod.snd (Prod.snd (Prod.fst (Prod.snd x)))), Prod.snd (Prod.snd (Prod.snd (Prod.fst (Prod.snd x))))), Prod.fst (Prod.snd (Prod.snd x)), Prod.fst (Prod.snd (Prod.snd (Prod.snd x))), Go.IntKind.wrap Go.IntKind.i64 (Prod.fst (Prod.snd (Prod.snd (Prod.snd (Prod.snd x)))) + (1 : Int)), Prod.snd (Prod.snd (Prod.snd (Prod.snd (Prod.snd x)))))) else Option.some (Stp.out (Sum.inl (Prod.snd (Prod.snd (Prod.snd (Prod.snd (Prod.snd x)))))))

noncomputable def m_cascadia_matchAttribute_m2 : Tup p_cascadia_matchAttribute_m2 → Option (Tup q_cascadia_matchAttribute_m2) := fun (x : Option Nat × List UInt8 × (List UInt8 × List UInt8 × List UInt8 × Bool) × List HN) => Option.bind (Prod.fst x) fun (i : Nat) => Option.bind (Option.some i) fun (i : Nat) => Option.bind (Prod.snd (Prod.snd (Prod.snd x)))[i]? fun (h : HN) => bif Decidable.decide (HN.ty h ≠ (3 : Int)) then Option.some Bool.false else Option.bind (Prod.fst x) fun (i : Nat) => Option.bind (Option.some i) fun (i : Nat) => Option.bind (Prod.snd (Prod.snd (Prod.snd x)))[i]? fun (h : HN) => Option.bind (loopO m_cascadia_matchAttribute_m2_0 (Prod.fst (Prod.snd x), (Prod.fst (Prod.fst (Prod.snd (Prod.snd x))), Prod.fst (Prod.snd (Prod.fst (Prod.snd (Prod.snd x)))), Prod.fst (Prod.snd (Prod.snd (Prod.fst (Prod.snd (Prod.snd x))))), Prod.snd (Prod.snd (Prod.snd (Prod.fst (Prod.snd (Prod.snd x)))))), HN.attrs h, (↑(List.length (HN.attrs h)) : Int), (0 : Int), Prod.snd (Prod.snd (Prod.snd x)))) fun (y : List HN ⊕ Bool × List HN) => selim (fun (y : List HN) => Option.some Bool.false) (fun (y : Bool × List HN) => Option.some (Prod.fst y)) y

noncomputable def cx_cascadia_matchAttribute_m2 : Cx := ⟨tb, lookE [(104, e_cascadia_attrSelector_Match_2)]⟩

theorem ck_cascadia_matchAttribute_m2 : CxOK Try.prog (cx_cascadia_matchAttribute_m2) := cx_ok tb_ok (.cons ok_cascadia_attrSelector_Match_2 Try.call104 .nil)

noncomputable def c_cascadia_matchAttribute_m2_0 : Code := loopAt (Go.Proofs.Try.f100.body.getD .skip) 0

noncomputable def l_cascadia_matchAttribute_m2_0 : LEnt := ⟨p_cascadia_matchAttribute_m2_0, x_cascadia_matchAttribute_m2_0, loopO (m_cascadia_matchAttribute_m2_0)⟩

theorem lo_cascadia_matchAttribute_m2_0 : LOK Try.prog 34 0 false (l_cascadia_matchAttribute_m2_0) c_cascadia_matchAttribute_m2_0 := loop_ok (body := m_cascadia_matchAttribute_m2_0) (L := lookL []) (ck_cascadia_matchAttribute_m2) mixed (ls_ok (l := []) (by kernel_rfl) .nil) (by intro x; kernel_rfl) (fun x y h => loopO_iff.1 h)

noncomputable def e_cascadia_matchAttribute_m2 : Ent := ⟨0, p_cascadia_matchAttribute_m2, q_cascadia_matchAttribute_m2, m_cascadia_matchAttribute_m2⟩
theorem ok_cascadia_matchAttribute_m2 : FnOK Try.prog 100 e_cascadia_matchAttribute_m2 := fn_ok (L := lookL [(0, l_cascadia_matchAttribute_m2_0)]) ck_cascadia_matchAttribute_m2 mixed Try.func100 rfl (by kernel_rfl) (by kernel_rfl) (ls_ok (l := [(0, c_cascadia_matchAttribute_m2_0)]) (by kernel_rfl) (.cons rfl (lo_cascadia_matchAttribute_m2_0) .nil)) (by intro x; kernel_rfl)

/-! cascadia.matchAttribute@m3 -/
abbrev p_cascadia_matchAttribute_m3 : Pt := [(0, .np), (1, .str), (2, .clo 107 [(.rc .str [.str, .str, .bool] 0)]), (NTR, .nsr)]
abbrev q_cascadia_matchAttribute_m3 : Pt := [(0, .bool)]

abbrev p_cascadia_matchAttribute_m3_0 : Pt := [(1, .str), (2, .clo 107 [(.rc .str [.str, .str, .bool] 0)]), (17, .lst .hattr), (18, .int .i64), (19, .int .i64), (NTR, .nsr)]
abbrev x_cascadia_matchAttribute_m3_0 : List (Xt × Pt) := [(.ex 0, [(NTR, .nsr)]), (.rt, [(6, .bool), (NTR, .nsr)])]
noncomputable def m_cascadia_matchAttribute_m3_0 : Tup p_cascadia_matchAttribute_m3_0 → Option (Stp (Tup p_cascadia_matchAttribute_m3_0) (SumT (x_cascadia_matchAttribute_m3_0.map (·.2)))) := fun (x : List UInt8 × (List UInt8 × List UInt8 × List UInt8 × Bool) × List HAttr × Int × Int × List HN) => bif Decidable.decide (Prod.fst (Prod.snd (Prod.snd (Prod.snd (Prod.snd x)))) < Prod.fst (Prod.snd (Prod.snd (Prod.snd x)))) then Option.bind (atI (Prod.fst (Prod.snd (Prod.snd x))) (Prod.fst (Prod.snd (Prod.snd (Prod.snd (Prod.snd x)))))) fun (v : HAttr) => bif Decidable.decide (HAttr.key v = Prod.fst x) then Option.bind (m_cascadia_attrSelector_Match_3 (HAttr.val v, Prod.fst (Prod.fst (Prod.snd x)), Prod.fst (Prod.snd (Prod.fst (Prod.snd x))), Prod.fst (Prod.snd (Prod.snd (Prod.fst (Prod.snd x)))), Prod.snd (Prod.snd (Prod.snd (Prod.fst (Prod.snd x)))))) fun (r : Bool) => bif r then Option.some (Stp.out (Sum.inr (Bool.true, Prod.snd (Prod.snd (Prod.snd (Prod.snd (Prod.snd x))))))) else Option.some (Stp.nx (Prod.fst x, (Prod.fst (Prod.fst (Prod.snd x)), Prod.fst (Prod.snd (Prod.fst (Prod.snd x))), Prod.fst (Prod.snd (Prod.snd (Prod.fst (Prod.snd x)))), Prod.snd (Prod.snd (Prod.snd (Prod.fst (Prod.snd x))))), Prod.fst (Prod.snd (Prod.snd x)), Prod.fst (Prod.snd (Prod.snd (Prod.snd x))), Go.IntKind.wrap Go.IntKind.i64 (Prod.fst (Prod.snd (Prod.snd (Prod.snd (Prod.snd x)))) + (1 : Int)), Prod.snd (Prod.snd (Prod.snd (Prod.snd (Prod.snd x)))))) else Option.some (Stp.nx (Prod.fst x, (Prod.fst (Prod.fst (Prod.snd x)), Prod.fst (Prod.snd (Prod.fst (Prod.snd x))), Prod.fst (Prod.snd (Prod.snd (Prod.fst (Prod.snd x)))), Prod.snd (Prod.snd (Prod.snd (Prod.fst (Prod.snd x))))), Prod.fst (Prod.snd (Prod.snd x)), Prod.fst (Prod.snd (Prod.snd (Prod.snd x))), Go.IntKind.wrap Go.IntKind.i64 (Prod.fst (Prod.snd (Prod.snd (Prod.snd (Prod.snd x)))) + (1 : Int)), Prod.snd (Prod.snd (Prod.snd (Prod.snd (Prod.snd x)))))) else Option.some (Stp.out (Sum.inl (Prod.snd (Prod.snd (Prod.snd (Prod.snd (Prod.snd x)))))))

noncomputable def m_cascadia_matchAttribute_m3 : Tup p_cascadia_matchAttribute_m3 → Option (Tup q_cascadia_matchAttribute_m3) := fun (x : Option Nat × List UInt8 × (List UInt8 × List UInt8 × List UInt8 × Bool) × List HN) => Option.bind (Prod.fst x) fun (i : Nat) => Option.bind (Option.some i) fun (i : Nat) => Option.bind (Prod.snd (Prod.snd (Prod.snd x)))[i]? fun (h : HN) => bif Decidable.decide (HN.ty h ≠ (3 : Int)) then Option.some Bool.false else Option.bind (Prod.fst x) fun (i : Nat) => Option.bind (Option.some i) fun (i : Nat) => Option.bind (Prod.snd (Prod.snd (Prod.snd x)))[i]? fun (h : HN) => Option.bind (loopO m_cascadia_matchAttribute_m3_0 (Prod.fst (Prod.snd x), (Prod.fst (Prod.fst (Prod.snd (Prod.snd x))), Prod.fst (Prod.snd (Prod.fst (Prod.snd (Prod.snd x)))), Prod.fst (Prod.snd (Prod.snd (Prod.fst (Prod.snd (Prod.snd x))))), Prod.snd (Prod.snd (Prod.snd (Prod.fst (Prod.snd (Prod.snd x)))))), HN.attrs h, (↑(List.length (HN.attrs h)) : Int), (0 : Int), Prod.snd (Prod.snd (Prod.snd x)))) fun (y : List HN ⊕ Bool × List HN) => selim (fun (y : List HN) => Option.some Bool.false) (fun (y : Bool × List HN) => Option.some (Prod.fst y)) y

noncomputable def cx_cascadia_matchAttribute_m3 : Cx := ⟨tb, lookE [(107, e_cascadia_attrSelector_Match_3)]⟩

theorem ck_cascadia_matchAttribute_m3 : CxOK Try.prog (cx_cascadia_matchAttribute_m3) := cx_ok tb_ok (.cons ok_cascadia_attrSelector_Match_3 Try.call107 .nil)

noncomputable def c_cascadia_matchAttribute_m3_0 : Code := loopAt (Go.Proofs.Try.f100.body.getD .skip) 0

noncomputable def l_cascadia_matchAttribute_m3_0 : LEnt := ⟨p_cascadia_matchAttribute_m3_0, x_cascadia_matchAttribute_m3_0, loopO (m_cascadia_matchAttribute_m3_0)⟩

theorem lo_cascadia_matchAttribute_m3_0 : LOK Try.prog 34 0 false (l_cascadia_matchAttribute_m3_0) c_cascadia_matchAttribute_m3_0 := loop_ok (body := m_cascadia_matchAttribute_m3_0) (L := lookL []) (ck_cascadia_matchAttribute_m3) mixed (ls_ok (l := []) (by kernel_rfl) .nil) (by intro x; kernel_rfl) (fun x y h => loopO_iff.1 h)

noncomputable def e_cascadia_matchAttribute_m3 : Ent := ⟨0, p_cascadia_matchAttribute_m3, q_cascadia_matchAttribute_m3, m_cascadia_matchAttribute_m3⟩
theorem ok_cascadia_matchAttribute_m3 : FnOK Try.prog 100 e_cascadia_matchAttribute_m3 := fn_ok (L := lookL [(0, l_cascadia_matchAttribute_m3_0)]) ck_cascadia_matchAttribute_m3 mixed Try.func100 rfl (by kernel_rfl) (by kernel_rfl) (ls_ok (l := [(0, c_cascadia_matchAttribute_m3_0)]) (by kernel_rfl) (.cons rfl (lo_cascadia_matchAttribute_m3_0) .nil)) (by intro x; kernel_rfl)

/-! cascadia.attributeNotEqualMatch -/
abbrev p_cascadia_attributeNotEqualMatch : Pt := [(0, .str), (1, .str), (2, .np), (3, .bool), (NTR, .nsr)]
abbrev q_cascadia_attributeNotEqualMatch : Pt := [(0, .bool)]

abbrev p_cascadia_attributeNotEqualMatch_0 : Pt := [(0, .str), (1, .str), (3, .bool), (19, .lst .hattr), (20, .int .i64), (21, .int .i64), (NTR, .nsr)]
abbrev x_cascadia_attributeNotEqualMatch_0 : List (Xt × Pt) := [(.ex 0, [(NTR, .nsr)]), (.rt, [(8, .bool), (NTR, .nsr)])]
noncomputable def m_cascadia_attributeNotEqualMatch_0 : Tup p_cascadia_attributeNotEqualMatch_0 → Option (Stp (Tup p_cascadia_attributeNotEqualMatch_0) (SumT (x_cascadia_attributeNotEqualMatch_0.map (·.2)))) := fun (x : List UInt8 × List UInt8 × Bool × List HAttr × Int × Int × List HN) => bif Decidable.decide (Prod.fst (Prod.snd (Prod.snd (Prod.snd (Prod.snd (Prod.snd x))))) < Prod.fst (Prod.snd (Prod.snd (Prod.snd (Prod.snd x))))) then Option.bind (atI (Prod.fst (Prod.snd (Prod.snd (Prod.snd x)))) (Prod.fst (Prod.snd (Prod.snd (Prod.snd (Prod.snd (Prod.snd x))))))) fun (v : HAttr) => bif Decidable.decide (HAttr.key v = Prod.fst x) then Option.bind (m_cascadia_matchInsensitiveValue (HAttr.val v, Prod.fst (Prod.snd x), Prod.fst (Prod.snd (Prod.snd x)))) fun (r : Bool) => bif r then Option.some (Stp.out (Sum.inr (Bool.false, Prod.snd (Prod.snd (Prod.snd (Prod.snd (Prod.snd (Prod.snd x)))))))) else Option.some (Stp.nx (Prod.fst x, Prod.fst (Prod.snd x), Prod.fst (Prod.snd (Prod.snd x)), Prod.fst (Prod.snd (Prod.snd (Prod.snd x))), Prod.fst (Prod.snd (Prod.snd (Prod.snd (Prod.snd x)))), Go.IntKind.wrap Go.IntKind.i64 (Prod.fst (Prod.snd (Prod.snd (Prod.snd (Prod.snd (Prod.snd x))))) + (1 : Int)), Prod.snd (Prod.snd (Prod.snd (Prod.snd (Prod.snd (Prod.snd x))))))) else Option.some (Stp.nx (Prod.fst x, Prod.fst (Prod.snd x), Prod.fst (Prod.snd (Prod.snd x)), Prod.fst (Prod.snd (Prod.snd (Prod.snd x))), Prod.fst (Prod.snd (Prod.snd (Prod.snd (Prod.snd x)))), Go.IntKind.wrap Go.IntKind.i64 (Prod.fst (Prod.snd (Prod.snd (Prod.snd (Prod.snd (Prod.snd x))))) + (1 : Int)), Prod.snd (Prod.snd (Prod.snd (Prod.snd (Prod.snd (Prod.snd x))))))) else Option.some (Stp.out (Sum.inl (Prod.snd (Prod.snd (Prod.snd (Prod.snd (Prod.snd (Prod.snd x))))))))

noncomputable def m_cascadia_attributeNotEqualMatch : Tup p_cascadia_attributeNotEqualMatch → Option (Tup q_cascadia_attributeNotEqualMatch) := fun (x : List UInt8 × List UInt8 × Option Nat × Bool × List HN) => Option.bind (Prod.fst (Prod.snd (Prod.snd x))) fun (i : Nat) => Option.bind (Option.some i) fun (i : Nat) => Option.bind (Prod.snd (Prod.snd (Prod.snd (Prod.snd x))))[i]? fun (h : HN) => bif Decidable.decide (HN.ty h ≠ (3 : Int)) then Option.some Bool.false else Option.bind (Prod.fst (Prod.snd (Prod.snd x))) fun (i : Nat) => Option.bind (Option.some i) fun (i : Nat) => Option.bind (Prod.snd (Prod.snd (Prod.snd (Prod.snd x))))[i]? fun (h : HN) => Option.bind (loopO m_cascadia_attributeNotEqualMatch_0 (Prod.fst x, Prod.fst (Prod.snd x), Prod.fst (Prod.snd (Prod.snd (Prod.snd x))), HN.attrs h, (↑(List.length (HN.attrs h)) : Int), (0 : Int), Prod.snd (Prod.snd (Prod.snd (Prod.snd x))))) fun (y : List HN ⊕ Bool × List HN) => selim (fun (y : List HN) => Option.some Bool.true) (fun (y : Bool × List HN) => Option.some (Prod.fst y)) y

noncomputable def cx_cascadia_attributeNotEqualMatch : Cx := ⟨tb, lookE [(105, e_cascadia_matchInsensitiveValue)]⟩

theorem ck_cascadia_attributeNotEqualMatch : CxOK Try.prog (cx_cascadia_attributeNotEqualMatch) := cx_ok tb_ok (.cons ok_cascadia_matchInsensitiveValue Try.call105 .nil)

noncomputable def c_cascadia_attributeNotEqualMatch_0 : Code := loopAt (Go.Proofs.Try.f106.body.getD .skip) 0

noncomputable def l_cascadia_attributeNotEqualMatch_0 : LEnt := ⟨p_cascadia_attributeNotEqualMatch_0, x_cascadia_attributeNotEqualMatch_0, loopO (m_cascadia_attributeNotEqualMatch_0)⟩

theorem lo_cascadia_attributeNotEqualMatch_0 : LOK Try.prog 37 0 false (l_cascadia_attributeNotEqualMatch_0) c_cascadia_attributeNotEqualMatch_0 := loop_ok (body := m_cascadia_attributeNotEqualMatch_0) (L := lookL []) (ck_cascadia_attributeNotEqualMatch) mixed (ls_ok (l := []) (by kernel_rfl) .nil) (by intro x; kernel_rfl) (fun x y h => loopO_iff.1 h)

noncomputable def e_cascadia_attributeNotEqualMatch : Ent := ⟨0, p_cascadia_attributeNotEqualMatch, q_cascadia_attributeNotEqualMatch, m_cascadia_attributeNotEqualMatch⟩
theorem ok_cascadia_attributeNotEqualMatch : FnOK Try.prog 106 e_cascadia_attributeNotEqualMatch := fn_ok (L := lookL [(0, l_cascadia_attributeNotEqualMatch_0)]) ck_cascadia_attributeNotEqualMatch mixed Try.func106 rfl (by kernel_rfl) (by kernel_rfl) (ls_ok (l := [(0, c_cascadia_attributeNotEqualMatch_0)]) (by kernel_rfl) (.cons rfl (lo_cascadia_attributeNotEqualMatch_0) .nil)) (by intro x; kernel_rfl)

/-! cascadia.attributeDashMatch$1 -/
abbrev p_cascadia_attributeDashMatch_1 : Pt := [(0, .str), (1, .fp .str), (2, .fp .bool)]
abbrev q_cascadia_attributeDashMatch_1 : Pt := [(0, .bool)]

noncomputable def m_cascadia_attributeDashMatch_1 : Tup p_cascadia_attributeDashMatch_1 → Option (Tup q_cascadia_attributeDashMatch_1) := fun (x : List UInt8 × List UInt8 × Bool) => Option.bind (m_cascadia_matchInsensitiveValue (Prod.fst x, Prod.fst (Prod.snd x), Prod.snd (Prod.snd x))) fun (r : Bool) => bif r then Option.some Bool.true else bif Decidable.decide ((↑(List.length (Prod.fst x)) : Int) ≤ (↑(List.length (Prod.fst (Prod.snd x))) : Int)) then Option.some Bool.false else Option.bind (subL (Prod.fst x) (0 : Int) (↑(List.length (Prod.fst (Prod.snd x))) : Int)) fun (m : List UInt8) => Option.bind (m_cascadia_matchInsensitiveValue (m, Prod.fst (Prod.snd x), Prod.snd (Prod.snd x))) fun (r : Bool) => bif r then Option.bind (atI (Prod.fst x) (↑(List.length (Prod.fst (Prod.snd x))) : Int)) fun (c : UInt8) => bif Decidable.decide ((↑(UInt8.toNat c) : Int) = (45 : Int)) then Option.some Bool.true else Option.some Bool.false else Option.some Bool.false

noncomputable def cx_cascadia_attributeDashMatch_1 : Cx := ⟨tb, lookE [(105, e_cascadia_matchInsensitiveValue)]⟩

theorem ck_cascadia_attributeDashMatch_1 : CxOK Try.prog (cx_cascadia_attributeDashMatch_1) := cx_ok tb_ok (.cons ok_cascadia_matchInsensitiveValue Try.call105 .nil)

noncomputable def e_cascadia_attributeDashMatch_1 : Ent := ⟨0, p_cascadia_attributeDashMatch_1, q_cascadia_attributeDashMatch_1, m_cascadia_attributeDashMatch_1⟩
theorem ok_cascadia_attributeDashMatch_1 : FnOK Try.prog 124 e_cascadia_attributeDashMatch_1 := fn_ok (L := lookL []) ck_cascadia_attributeDashMatch_1 mixed Try.func124 rfl (by kernel_rfl) (by kernel_rfl) (ls_ok (l := []) (by kernel_rfl) .nil) (by intro x; kernel_rfl)

/-! cascadia.matchAttribute@Dash -/
abbrev p_cascadia_matchAttribute_Dash : Pt := [(0, .np), (1, .str), (2, .clo 124 [.str, .bool]), (NTR, .nsr)]
abbrev q_cascadia_matchAttribute_Dash : Pt := [(0, .bool)]

abbrev p_cascadia_matchAttribute_Dash_0 : Pt := [(1, .str), (2, .clo 124 [.str, .bool]), (17, .lst .hattr), (18, .int .i64), (19, .int .i64), (NTR, .nsr)]
abbrev x_cascadia_matchAttribute_Dash_0 : List (Xt × Pt) := [(.ex 0, [(NTR, .nsr)]), (.rt, [(6, .bool), (NTR, .nsr)])]
noncomputable def m_cascadia_matchAttribute_Dash_0 : Tup p_cascadia_matchAttribute_Dash_0 → Option (Stp (Tup p_cascadia_matchAttribute_Dash_0) (SumT (x_cascadia_matchAttribute_Dash_0.map (·.2)))) := fun (x : List UInt8 × (List UInt8 × Bool) × List HAttr × Int × Int × List HN) => bif Decidable.decide (Prod.fst (Prod.snd (Prod.snd (Prod.snd (Prod.snd x)))) < Prod.fst (Prod.snd (Prod.snd (Prod.snd x)))) then Option.bind (atI (Prod.fst (Prod.snd (Prod.snd x))) (Prod.fst (Prod.snd (Prod.snd (Prod.snd (Prod.snd x)))))) fun (v : HAttr) => bif Decidable.decide (HAttr.key v = Prod.fst x) then Option.bind (m_cascadia_attributeDashMatch_1 (HAttr.val v, Prod.fst (Prod.fst (Prod.snd x)), Prod.snd (Prod.fst (Prod.snd x)))) fun (r : Bool) => bif r then Option.some (Stp.out (Sum.inr (Bool.true, Prod.snd (Prod.snd (Prod.snd (Prod.snd (Prod.snd x))))))) else Option.some (Stp.nx (Prod.fst x, (Prod.fst (Prod.fst (Prod.snd x)), Prod.snd (Prod.fst (Prod.snd x))), Prod.fst (Prod.snd (Prod.snd x)), Prod.fst (Prod.snd (Prod.snd (Prod.snd x))), Go.IntKind.wrap Go.IntKind.i64 (Prod.fst (Prod.snd (Prod.snd (Prod.snd (Prod.snd x)))) + (1 : Int)), Prod.snd (Prod.snd (Prod.snd (Prod.snd (Prod.snd x)))))) else Option.some (Stp.nx (Prod.fst x, (Prod.fst (Prod.fst (Prod.snd x)), Prod.snd (Prod.fst (Prod.snd x))), Prod.fst (Prod.snd (Prod.snd x)), Prod.fst (Prod.snd (Prod.snd (Prod.snd x))), Go.IntKind.wrap Go.IntKind.i64 (Prod.fst (Prod.snd (Prod.snd (Prod.snd (Prod.snd x)))) + (1 : Int)), Prod.snd (Prod.snd (Prod.snd (Prod.snd (Prod.snd x)))))) else Option.some (Stp.out (Sum.inl (Prod.snd (Prod.snd (Prod.snd (Prod.snd (Prod.snd x)))))))

noncomputable def m_cascadia_matchAttribute_Dash : Tup p_cascadia_matchAttribute_Dash → Option (Tup q_cascadia_matchAttribute_Dash) := fun (x : Option Nat × List UInt8 × (List UInt8 × Bool) × List HN) => Option.bind (Prod.fst x) fun (i : Nat) => Option.bind (Option.some i) fun (i : Nat) => Option.bind (Prod.snd (Prod.snd (Prod.snd x)))[i]? fun (h : HN) => bif Decidable.decide (HN.ty h ≠ (3 : Int)) then Option.some Bool.false else Option.bind (Prod.fst x) fun (i : Nat) => Option.bind (Option.some i) fun (i : Nat) => Option.bind (Prod.snd (Prod.snd (Prod.snd x)))[i]? fun (h : HN) => Option.bind (loopO m_cascadia_matchAttribute_Dash_0 (Prod.fst (Prod.snd x), (Prod.fst (Prod.fst (Prod.snd (Prod.snd x))), Prod.snd (Prod.fst (Prod.snd (Prod.snd x)))), HN.attrs h, (↑(List.length (HN.attrs h)) : Int), (0 : Int), Prod.snd (Prod.snd (Prod.snd x)))) fun (y : List HN ⊕ Bool × List HN) => selim (fun (y : List HN) => Option.some Bool.false) (fun (y : Bool × List HN) => Option.some (Prod.fst y)) y

noncomputable def cx_cascadia_matchAttribute_Dash : Cx := ⟨tb, lookE [(124, e_cascadia_attributeDashMatch_1)]⟩

theorem ck_cascadia_matchAttribute_Dash : CxOK Try.prog (cx_cascadia_matchAttribute_Dash) := cx_ok tb_ok (.cons ok_cascadia_attributeDashMatch_1 Try.call124 .nil)

noncomputable def c_cascadia_matchAttribute_Dash_0 : Code := loopAt (Go.Proofs.Try.f100.body.getD .skip) 0

noncomputable def l_cascadia_matchAttribute_Dash_0 : LEnt := ⟨p_cascadia_matchAttribute_Dash_0, x_cascadia_matchAttribute_Dash_0, loopO (m_cascadia_matchAttribute_Dash_0)⟩

theorem lo_cascadia_matchAttribute_Dash_0 : LOK Try.prog 34 0 false (l_cascadia_matchAttribute_Dash_0) c_cascadia_matchAttribute_Dash_0 := loop_ok (body := m_cascadia_matchAttribute_Dash_0) (L := lookL []) (ck_cascadia_matchAttribute_Dash) mixed (ls_ok (l := []) (by kernel_rfl) .nil) (by intro x; kernel_rfl) (fun x y h => loopO_iff.1 h)

noncomputable def e_cascadia_matchAttribute_Dash : Ent := ⟨0, p_cascadia_matchAttribute_Dash, q_cascadia_matchAttribute_Dash, m_cascadia_matchAttribute_Dash⟩
theorem ok_cascadia_matchAttribute_Dash : FnOK Try.prog 100 e_cascadia_matchAttribute_Dash := fn_ok (L := lookL [(0, l_cascadia_matchAttribute_Dash_0)]) ck_cascadia_matchAttribute_Dash mixed Try.func100 rfl (by kernel_rfl) (by kernel_rfl) (ls_ok (l := [(0, c_cascadia_matchAttribute_Dash_0)]) (by kernel_rfl) (.cons rfl (lo_cascadia_matchAttribute_Dash_0) .nil)) (by intro x; kernel_rfl)

/-! cascadia.attributeDashMatch -/
abbrev p_cascadia_attributeDashMatch : Pt := [(0, .str), (1, .str), (2, .np), (3, .bool), (NTR, .nsr)]
abbrev q_cascadia_attributeDashMatch : Pt := [(0, .bool)]

noncomputable def m_cascadia_attributeDashMatch : Tup p_cascadia_attributeDashMatch → Option (Tup q_cascadia_attributeDashMatch) := fun (x : List UInt8 × List UInt8 × Option Nat × Bool × List HN) => Option.bind (m_cascadia_matchAttribute_Dash (Prod.fst (Prod.snd (Prod.snd x)), Prod.fst x, (Prod.fst (Prod.snd x), Prod.fst (Prod.snd (Prod.snd (Prod.snd x)))), Prod.snd (Prod.snd (Prod.snd (Prod.snd x))))) fun (r : Bool) => Option.some r

noncomputable def cx_cascadia_attributeDashMatch : Cx := ⟨tb, lookE [(100, e_cascadia_matchAttribute_Dash), (124, e_cascadia_attributeDashMatch_1)]⟩

theorem ck_cascadia_attributeDashMatch : CxOK Try.prog (cx_cascadia_attributeDashMatch) := cx_ok tb_ok (.cons ok_cascadia_matchAttribute_Dash Try.call100 (.cons ok_cascadia_attributeDashMatch_1 Try.call124 .nil))

noncomputable def e_cascadia_attributeDashMatch : Ent := ⟨0, p_cascadia_attributeDashMatch, q_cascadia_attributeDashMatch, m_cascadia_attributeDashMatch⟩
theorem ok_cascadia_attributeDashMatch : FnOK Try.prog 108 e_cascadia_attributeDashMatch := fn_ok (L := lookL []) ck_cascadia_attributeDashMatch mixed Try.func108 rfl (by kernel_rfl) (by kernel_rfl) (ls_ok (l := []) (by kernel_rfl) .nil) (by intro x; kernel_rfl)

/-! cascadia.attributePrefixMatch$1 -/
abbrev p_cascadia_attributePrefixMatch_1 : Pt := [(0, .str), (1, .fp .bool), (2, .fp .str)]
abbrev q_cascadia_attributePrefixMatch_1 : Pt := [(0, .bool)]

noncomputable def m_cascadia_attributePrefixMatch_1 : Tup p_cascadia_attributePrefixMatch_1 → Option (Tup q_cascadia_attributePrefixMatch_1) := fun (x : List UInt8 × Bool × List UInt8) => Option.bind (m_cascadia_zzTrimSpace (Prod.fst x)) fun (r : List UInt8) => bif Decidable.decide (r = Array.toList (ByteArray.data { data := #[] })) then Option.some Bool.false else bif Prod.fst (Prod.snd x) then Option.bind (m_cascadia_zzToLower (Prod.fst x)) fun (r : List UInt8) => Option.bind (m_cascadia_zzToLower (Prod.snd (Prod.snd x))) fun (r_1 : List UInt8) => Option.bind (m_strings_HasPrefix (r, r_1)) fun (r : Bool) => Option.some r else Option.bind (m_strings_HasPrefix (Prod.fst x, Prod.snd (Prod.snd x))) fun (r : Bool) => Option.some r

noncomputable def cx_cascadia_attributePrefixMatch_1 : Cx := ⟨tb, lookE [(126, e_cascadia_zzTrimSpace), (128, e_cascadia_zzToLower), (127, e_strings_HasPrefix)]⟩

theorem ck_cascadia_attributePrefixMatch_1 : CxOK Try.prog (cx_cascadia_attributePrefixMatch_1) := cx_ok tb_ok (.cons ok_cascadia_zzTrimSpace Try.call126 (.cons ok_cascadia_zzToLower Try.call128 (.cons ok_strings_HasPrefix Try.call127 .nil)))

noncomputable def e_cascadia_attributePrefixMatch_1 : Ent := ⟨0, p_cascadia_attributePrefixMatch_1, q_cascadia_attributePrefixMatch_1, m_cascadia_attributePrefixMatch_1⟩
theorem ok_cascadia_attributePrefixMatch_1 : FnOK Try.prog 125 e_cascadia_attributePrefixMatch_1 := fn_ok (L := lookL []) ck_cascadia_attributePrefixMatch_1 mixed Try.func125 rfl (by kernel_rfl) (by kernel_rfl) (ls_ok (l := []) (by kernel_rfl) .nil) (by intro x; kernel_rfl)

/-! cascadia.matchAttribute@Prefix -/
abbrev p_cascadia_matchAttribute_Prefix : Pt := [(0, .np), (1, .str), (2, .clo 125 [.bool, .str]), (NTR, .nsr)]
abbrev q_cascadia_matchAttribute_Prefix : Pt := [(0, .bool)]

abbrev p_cascadia_matchAttribute_Prefix_0 : Pt := [(1, .str), (2, .clo 125 [.bool, .str]), (17, .lst .hattr), (18, .int .i64), (19, .int .i64), (NTR, .nsr)]
abbrev x_cascadia_matchAttribute_Prefix_0 : List (Xt × Pt) := [(.ex 0, [(NTR, .nsr)]), (.rt, [(6, .bool), (NTR, .nsr)])]
noncomputable def m_cascadia_matchAttribute_Prefix_0 : Tup p_cascadia_matchAttribute_Prefix_0 → Option (Stp (Tup p_cascadia_matchAttribute_Prefix_0) (SumT (x_cascadia_matchAttribute_Prefix_0.map (·.2)))) := fun (x : List UInt8 × (Bool × List UInt8) × List HAttr × Int × Int × List HN) => bif Decidable.decide (Prod.fst (Prod.snd (Prod.snd (Prod.snd (Prod.snd x)))) < Prod.fst (Prod.snd (Prod.snd (Prod.snd x)))) then Option.bind (atI (Prod.fst (Prod.snd (Prod.snd x))) (Prod.fst (Prod.snd (Prod.snd (Prod.snd (Prod.snd x)))))) fun (v : HAttr) => bif Decidable.decide (HAttr.key v = Prod.fst x) then Option.bind (m_cascadia_attributePrefixMatch_1 (HAttr.val v, Prod.fst (Prod.fst (Prod.snd x)), Prod.snd (Prod.fst (Prod.snd x)))) fun (r : Bool) => bif r then Option.some (Stp.out (Sum.inr (Bool.true, Prod.snd (Prod.snd (Prod.snd (Prod.snd (Prod.snd x))))))) else Option.some (Stp.nx (Prod.fst x, (Prod.fst (Prod.fst (Prod.snd x)), Prod.snd (Prod.fst (Prod.snd x))), Prod.fst (Prod.snd (Prod.snd x)), Prod.fst (Prod.snd (Prod.snd (Prod.snd x))), Go.IntKind.wrap Go.IntKind.i64 (Prod.fst (Prod.snd (Prod.snd (Prod.snd (Prod.snd x)))) + (1 : Int)), Prod.snd (Prod.snd (Prod.snd (Prod.snd (Prod.snd x)))))) else Option.some (Stp.nx (Prod.fst x, (Prod.fst (Prod.fst (Prod.snd x)), Prod.snd (Prod.fst (Prod.snd x))), Prod.fst (Prod.snd (Prod.snd x)), Prod.fst (Prod.snd (Prod.snd (Prod.snd x))), Go.IntKind.wrap Go.IntKind.i64 (Prod.fst (Prod.snd (Prod.snd (Prod.snd (Prod.snd x)))) + (1 : Int)), Prod.snd (Prod.snd (Prod.snd (Prod.snd (Prod.snd x)))))) else Option.some (Stp.out (Sum.inl (Prod.snd (Prod.snd (Prod.snd (Prod.snd (Prod.snd x)))))))

noncomputable def m_cascadia_matchAttribute_Prefix : Tup p_cascadia_matchAttribute_Prefix → Option (Tup q_cascadia_matchAttribute_Prefix) := fun (x : Option Nat × List UInt8 × (Bool × List UInt8) × List HN) => Option.bind (Prod.fst x) fun (i : Nat) => Option.bind (Option.some i) fun (i : Nat) => Option.bind (Prod.snd (Prod.snd (Prod.snd x)))[i]? fun (h : HN) => bif Decidable.decide (HN.ty h ≠ (3 : Int)) then Option.some Bool.false else Option.bind (Prod.fst x) fun (i : Nat) => Option.bind (Option.some i) fun (i : Nat) => Option.bind (Prod.snd (Prod.snd (Prod.snd x)))[i]? fun (h : HN) => Option.bind (loopO m_cascadia_matchAttribute_Prefix_0 (Prod.fst (Prod.snd x), (Prod.fst (Prod.fst (Prod.snd (Prod.snd x))), Prod.snd (Prod.fst (Prod.snd (Prod.snd x)))), HN.attrs h, (↑(List.length (HN.attrs h)) : Int), (0 : Int), Prod.snd (Prod.snd (Prod.snd x)))) fun (y : List HN ⊕ Bool × List HN) => selim (fun (y : List HN) => Option.some Bool.false) (fun (y : Bool × List HN) => Option.some (Prod.fst y)) y

noncomputable def cx_cascadia_matchAttribute_Prefix : Cx := ⟨tb, lookE [(125, e_cascadia_attributePrefixMatch_1)]⟩

theorem ck_cascadia_matchAttribute_Prefix : CxOK Try.prog (cx_cascadia_matchAttribute_Prefix) := cx_ok tb_ok (.cons ok_cascadia_attributePrefixMatch_1 Try.call125 .nil)

noncomputable def c_cascadia_matchAttribute_Prefix_0 : Code := loopAt (Go.Proofs.Try.f100.body.getD .skip) 0

noncomputable def l_cascadia_matchAttribute_Prefix_0 : LEnt := ⟨p_cascadia_matchAttribute_Prefix_0, x_cascadia_matchAttribute_Prefix_0, loopO (m_cascadia_matchAttribute_Prefix_0)⟩

theorem lo_cascadia_matchAttribute_Prefix_0 : LOK Try.prog 34 0 false (l_cascadia_matchAttribute_Prefix_0) c_cascadia_matchAttribute_Prefix_0 := loop_ok (body := m_cascadia_matchAttribute_Prefix_0) (L := lookL []) (ck_cascadia_matchAttribute_Prefix) mixed (ls_ok (l := []) (by kernel_rfl) .nil) (by intro x; kernel_rfl) (fun x y h => loopO_iff.1 h)

noncomputable def e_cascadia_matchAttribute_Prefix : Ent := ⟨0, p_cascadia_matchAttribute_Prefix, q_cascadia_matchAttribute_Prefix, m_cascadia_matchAttribute_Prefix⟩
theorem ok_cascadia_matchAttribute_Prefix : FnOK Try.prog 100 e_cascadia_matchAttribute_Prefix := fn_ok (L := lookL [(0, l_cascadia_matchAttribute_Prefix_0)]) ck_cascadia_matchAttribute_Prefix mixed Try.func100 rfl (by kernel_rfl) (by kernel_rfl) (ls_ok (l := [(0, c_cascadia_matchAttribute_Prefix_0)]) (by kernel_rfl) (.cons rfl (lo_cascadia_matchAttribute_Prefix_0) .nil)) (by intro x; kernel_rfl)

/-! cascadia.attributePrefixMatch -/
abbrev p_cascadia_attributePrefixMatch : Pt := [(0, .str), (1, .str), (2, .np), (3, .bool), (NTR, .nsr)]
abbrev q_cascadia_attributePrefixMatch : Pt := [(0, .bool)]

noncomputable def m_cascadia_attributePrefixMatch : Tup p_cascadia_attributePrefixMatch → Option (Tup q_cascadia_attributePrefixMatch) := fun (x : List UInt8 × List UInt8 × Option Nat × Bool × List HN) => Option.bind (m_cascadia_matchAttribute_Prefix (Prod.fst (Prod.snd (Prod.snd x)), Prod.fst x, (Prod.fst (Prod.snd (Prod.snd (Prod.snd x))), Prod.fst (Prod.snd x)), Prod.snd (Prod.snd (Prod.snd (Prod.snd x))))) fun (r : Bool) => Option.some r

noncomputable def cx_cascadia_attributePrefixMatch : Cx := ⟨tb, lookE [(100, e_cascadia_matchAttribute_Prefix), (125, e_cascadia_attributePrefixMatch_1)]⟩

theorem ck_cascadia_attributePrefixMatch : CxOK Try.prog (cx_cascadia_attributePrefixMatch) := cx_ok tb_ok (.cons ok_cascadia_matchAttribute_Prefix Try.call100 (.cons ok_cascadia_attributePrefixMatch_1 Try.call125 .nil))

noncomputable def e_cascadia_attributePrefixMatch : Ent := ⟨0, p_cascadia_attributePrefixMatch, q_cascadia_attributePrefixMatch, m_cascadia_attributePrefixMatch⟩
theorem ok_cascadia_attributePrefixMatch : FnOK Try.prog 109 e_cascadia_attributePrefixMatch := fn_ok (L := lookL []) ck_cascadia_attributePrefixMatch mixed Try.func109 rfl (by kernel_rfl) (by kernel_rfl) (ls_ok (l := []) (by kernel_rfl) .nil) (by intro x; kernel_rfl)

/-! cascadia.attributeSuffixMatch$1 -/
abbrev p_cascadia_attributeSuffixMatch_1 : Pt := [(0, .str), (1, .fp .bool), (2, .fp .str)]
abbrev q_cascadia_attributeSuffixMatch_1 : Pt := [(0, .bool)]

noncomputable def m_cascadia_attributeSuffixMatch_1 : Tup p_cascadia_attributeSuffixMatch_1 → Option (Tup q_cascadia_attributeSuffixMatch_1) := fun (x : List UInt8 × Bool × List UInt8) => Option.bind (m_cascadia_zzTrimSpace (Prod.fst x)) fun (r : List UInt8) => bif Decidable.decide (r = Array.toList (ByteArray.data { data := #[] })) then Option.some Bool.false else bif Prod.fst (Prod.snd x) then Option.bind (m_cascadia_zzToLower (Prod.fst x)) fun (r : List UInt8) => Option.bind (m_cascadia_zzToLower (Prod.snd (Prod.snd x))) fun (r_1 : List UInt8) => Option.bind (m_strings_HasSuffix (r, r_1)) fun (r : Bool) => Option.some r else Option.bind (m_strings_HasSuffix (Prod.fst x, Prod.snd (Prod.snd x))) fun (r : Bool) => Option.some r

noncomputable def cx_cascadia_attributeSuffixMatch_1 : Cx := ⟨tb, lookE [(126, e_cascadia_zzTrimSpace), (128, e_cascadia_zzToLower), (130, e_strings_HasSuffix)]⟩

theorem ck_cascadia_attributeSuffixMatch_1 : CxOK Try.prog (cx_cascadia_attributeSuffixMatch_1) := cx_ok tb_ok (.cons ok_cascadia_zzTrimSpace Try.call126 (.cons ok_cascadia_zzToLower Try.call128 (.cons ok_strings_HasSuffix Try.call130 .nil)))

noncomputable def e_cascadia_attributeSuffixMatch_1 : Ent := ⟨0, p_cascadia_attributeSuffixMatch_1, q_cascadia_attributeSuffixMatch_1, m_cascadia_attributeSuffixMatch_1⟩
theorem ok_cascadia_attributeSuffixMatch_1 : FnOK Try.prog 129 e_cascadia_attributeSuffixMatch_1 := fn_ok (L := lookL []) ck_cascadia_attributeSuffixMatch_1 mixed Try.func129 rfl (by kernel_rfl) (by kernel_rfl) (ls_ok (l := []) (by kernel_rfl) .nil) (by intro x; kernel_rfl)

/-! cascadia.matchAttribute@Suffix -/
abbrev p_cascadia_matchAttribute_Suffix : Pt := [(0, .np), (1, .str), (2, .clo 129 [.bool, .str]), (NTR, .nsr)]
abbrev q_cascadia_matchAttribute_Suffix : Pt := [(0, .bool)]

abbrev p_cascadia_matchAttribute_Suffix_0 : Pt := [(1, .str), (2, .clo 129 [.bool, .str]), (17, .lst .hattr), (18, .int .i64), (19, .int .i64), (NTR, .nsr)]
abbrev x_cascadia_matchAttribute_Suffix_0 : List (Xt × Pt) := [(.ex 0, [(NTR, .nsr)]), (.rt, [(6, .bool), (NTR, .nsr)])]
noncomputable def m_cascadia_matchAttribute_Suffix_0 : Tup p_cascadia_matchAttribute_Suffix_0 → Option (Stp (Tup p_cascadia_matchAttribute_Suffix_0) (SumT (x_cascadia_matchAttribute_Suffix_0.map (·.2)))) := fun (x : List UInt8 × (Bool × List UInt8) × List HAttr × Int × Int × List HN) => bif Decidable.decide (Prod.fst (Prod.snd (Prod.snd (Prod.snd (Prod.snd x)))) < Prod.fst (Prod.snd (Prod.snd (Prod.snd x)))) then Option.bind (atI (Prod.fst (Prod.snd (Prod.snd x))) (Prod.fst (Prod.snd (Prod.snd (Prod.snd (Prod.snd x)))))) fun (v : HAttr) => bif Decidable.decide (HAttr.key v = Prod.fst x) then Option.bind (m_cascadia_attributeSuffixMatch_1 (HAttr.val v, Prod.fst (Prod.fst (Prod.snd x)), Prod.snd (Prod.fst (Prod.snd x)))) fun (r : Bool) => bif r then Option.some (Stp.out (Sum.inr (Bool.true, Prod.snd (Prod.snd (Prod.snd (Prod.snd (Prod.snd x))))))) else Option.some (Stp.nx (Prod.fst x, (Prod.fst (Prod.fst (Prod.snd x)), Prod.snd (Prod.fst (Prod.snd x))), Prod.fst (Prod.snd (Prod.snd x)), Prod.fst (Prod.snd (Prod.snd (Prod.snd x))), Go.IntKind.wrap Go.IntKind.i64 (Prod.fst (Prod.snd (Prod.snd (Prod.snd (Prod.snd x)))) + (1 : Int)), Prod.snd (Prod.snd (Prod.snd (Prod.snd (Prod.snd x)))))) else Option.some (Stp.nx (Prod.fst x, (Prod.fst (Prod.fst (Prod.snd x)), Prod.snd (Prod.fst (Prod.snd x))), Prod.fst (Prod.snd (Prod.snd x)), Prod.fst (Prod.snd (Prod.snd (Prod.snd x))), Go.IntKind.wrap Go.IntKind.i64 (Prod.fst (Prod.snd (Prod.snd (Prod.snd (Prod.snd x)))) + (1 : Int)), Prod.snd (Prod.snd (Prod.snd (Prod.snd (Prod.snd x)))))) else Option.some (Stp.out (Sum.inl (Prod.snd (Prod.snd (Prod.snd (Prod.snd (Prod.snd x)))))))

noncomputable def m_cascadia_matchAttribute_Suffix : Tup p_cascadia_matchAttribute_Suffix → Option (Tup q_cascadia_matchAttribute_Suffix) := fun (x : Option Nat × List UInt8 × (Bool × List UInt8) × List HN) => Option.bind (Prod.fst x) fun (i : Nat) => Option.bind (Option.some i) fun (i : Nat) => Option.bind (Prod.snd (Prod.snd (Prod.snd x)))[i]? fun (h : HN) => bif Decidable.decide (HN.ty h ≠ (3 : Int)) then Option.some Bool.false else Option.bind (Prod.fst x) fun (i : Nat) => Option.bind (Option.some i) fun (i : Nat) => Option.bind (Prod.snd (Prod.snd (Prod.snd x)))[i]? fun (h : HN) => Option.bind (loopO m_cascadia_matchAttribute_Suffix_0 (Prod.fst (Prod.snd x), (Prod.fst (Prod.fst (Prod.snd (Prod.snd x))), Prod.snd (Prod.fst (Prod.snd (Prod.snd x)))), HN.attrs h, (↑(List.length (HN.attrs h)) : Int), (0 : Int), Prod.snd (Prod.snd (Prod.snd x)))) fun (y : List HN ⊕ Bool × List HN) => selim (fun (y : List HN) => Option.some Bool.false) (fun (y : Bool × List HN) => Option.some (Prod.fst y)) y

noncomputable def cx_cascadia_matchAttribute_Suffix : Cx := ⟨tb, lookE [(129, e_cascadia_attributeSuffixMatch_1)]⟩

theorem ck_cascadia_matchAttribute_Suffix : CxOK Try.prog (cx_cascadia_matchAttribute_Suffix) := cx_ok tb_ok (.cons ok_cascadia_attributeSuffixMatch_1 Try.call129 .nil)

noncomputable def c_cascadia_matchAttribute_Suffix_0 : Code := loopAt (Go.Proofs.Try.f100.body.getD .skip) 0

noncomputable def l_cascadia_matchAttribute_Suffix_0 : LEnt := ⟨p_cascadia_matchAttribute_Suffix_0, x_cascadia_matchAttribute_Suffix_0, loopO (m_cascadia_matchAttribute_Suffix_0)⟩

theorem lo_cascadia_matchAttribute_Suffix_0 : LOK Try.prog 34 0 false (l_cascadia_matchAttribute_Suffix_0) c_cascadia_matchAttribute_Suffix_0 := loop_ok (body := m_cascadia_matchAttribute_Suffix_0) (L := lookL []) (ck_cascadia_matchAttribute_Suffix) mixed (ls_ok (l := []) (by kernel_rfl) .nil) (by intro x; kernel_rfl) (fun x y h => loopO_iff.1 h)

noncomputable def e_cascadia_matchAttribute_Suffix : Ent := ⟨0, p_cascadia_matchAttribute_Suffix, q_cascadia_matchAttribute_Suffix, m_cascadia_matchAttribute_Suffix⟩
theorem ok_cascadia_matchAttribute_Suffix : FnOK Try.prog 100 e_cascadia_matchAttribute_Suffix := fn_ok (L := lookL [(0, l_cascadia_matchAttribute_Suffix_0)]) ck_cascadia_matchAttribute_Suffix mixed Try.func100 rfl (by kernel_rfl) (by kernel_rfl) (ls_ok (l := [(0, c_cascadia_matchAttribute_Suffix_0)]) (by kernel_rfl) (.cons rfl (lo_cascadia_matchAttribute_Suffix_0) .nil)) (by intro x; kernel_rfl)

/-! cascadia.attributeSuffixMatch -/
abbrev p_cascadia_attributeSuffixMatch : Pt := [(0, .str), (1, .str), (2, .np), (3, .bool), (NTR, .nsr)]
abbrev q_cascadia_attributeSuffixMatch : Pt := [(0, .bool)]

noncomputable def m_cascadia_attributeSuffixMatch : Tup p_cascadia_attributeSuffixMatch → Option (Tup q_cascadia_attributeSuffixMatch) := fun (x : List UInt8 × List UInt8 × Option Nat × Bool × List HN) => Option.bind (m_cascadia_matchAttribute_Suffix (Prod.fst (Prod.snd (Prod.snd x)), Prod.fst x, (Prod.fst (Prod.snd (Prod.snd (Prod.snd x))), Prod.fst (Prod.snd x)), Prod.snd (Prod.snd (Prod.snd (Prod.snd x))))) fun (r : Bool) => Option.some r

noncomputable def cx_cascadia_attributeSuffixMatch : Cx := ⟨tb, lookE [(100, e_cascadia_matchAttribute_Suffix), (129, e_cascadia_attributeSuffixMatch_1)]⟩

theorem ck_cascadia_attributeSuffixMatch : CxOK Try.prog (cx_cascadia_attributeSuffixMatch) := cx_ok tb_ok (.cons ok_cascadia_matchAttribute_Suffix Try.call100 (.cons ok_cascadia_attributeSuffixMatch_1 Try.call129 .nil))

noncomputable def e_cascadia_attributeSuffixMatch : Ent := ⟨0, p_cascadia_attributeSuffixMatch, q_cascadia_attributeSuffixMatch, m_cascadia_attributeSuffixMatch⟩
theorem ok_cascadia_attributeSuffixMatch : FnOK Try.prog 110 e_cascadia_attributeSuffixMatch := fn_ok (L := lookL []) ck_cascadia_attributeSuffixMatch mixed Try.func110 rfl (by kernel_rfl) (by kernel_rfl) (ls_ok (l := []) (by kernel_rfl) .nil) (by intro x; kernel_rfl)

/-! cascadia.attributeSubstringMatch$1 -/
abbrev p_cascadia_attributeSubstringMatch_1 : Pt := [(0, .str), (1, .fp .bool), (2, .fp .str)]
abbrev q_cascadia_attributeSubstringMatch_1 : Pt := [(0, .bool)]

noncomputable def m_cascadia_attributeSubstringMatch_1 : Tup p_cascadia_attributeSubstringMatch_1 → Option (Tup q_cascadia_attributeSubstringMatch_1) := fun (x : List UInt8 × Bool × List UInt8) => Option.bind (m_cascadia_zzTrimSpace (Prod.fst x)) fun (r : List UInt8) => bif Decidable.decide (r = Array.toList (ByteArray.data { data := #[] })) then Option.some Bool.false else bif Prod.fst (Prod.snd x) then Option.bind (m_cascadia_zzToLower (Prod.fst x)) fun (r : List UInt8) => Option.bind (m_cascadia_zzToLower (Prod.snd (Prod.snd x))) fun (r_1 : List UInt8) => Option.bind (m_cascadia_zzContains (r, r_1)) fun (r : Bool) => Option.some r else Option.bind (m_cascadia_zzContains (Prod.fst x, Prod.snd (Prod.snd x))) fun (r : Bool) => Option.some r

noncomputable def cx_cascadia_attributeSubstringMatch_1 : Cx := ⟨tb, lookE [(126, e_cascadia_zzTrimSpace), (128, e_cascadia_zzToLower), (132, e_cascadia_zzContains)]⟩

theorem ck_cascadia_attributeSubstringMatch_1 : CxOK Try.prog (cx_cascadia_attributeSubstringMatch_1) := cx_ok tb_ok (.cons ok_cascadia_zzTrimSpace Try.call126 (.cons ok_cascadia_zzToLower Try.call128 (.cons ok_cascadia_zzContains Try.call132 .nil)))

noncomputable def e_cascadia_attributeSubstringMatch_1 : Ent := ⟨0, p_cascadia_attributeSubstringMatch_1, q_cascadia_attributeSubstringMatch_1, m_cascadia_attributeSubstringMatch_1⟩
theorem ok_cascadia_attributeSubstringMatch_1 : FnOK Try.prog 131 e_cascadia_attributeSubstringMatch_1 := fn_ok (L := lookL []) ck_cascadia_attributeSubstringMatch_1 mixed Try.func131 rfl (by kernel_rfl) (by kernel_rfl) (ls_ok (l := []) (by kernel_rfl) .nil) (by intro x; kernel_rfl)

/-! cascadia.matchAttribute@Substring -/
abbrev p_cascadia_matchAttribute_Substring : Pt := [(0, .np), (1, .str), (2, .clo 131 [.bool, .str]), (NTR, .nsr)]
abbrev q_cascadia_matchAttribute_Substring : Pt := [(0, .bool)]

abbrev p_cascadia_matchAttribute_Substring_0 : Pt := [(1, .str), (2, .clo 131 [.bool, .str]), (17, .lst .hattr), (18, .int .i64), (19, .int .i64), (NTR, .nsr)]
abbrev x_cascadia_matchAttribute_Substring_0 : List (Xt × Pt) := [(.ex 0, [(NTR, .nsr)]), (.rt, [(6, .bool), (NTR, .nsr)])]
noncomputable def m_cascadia_matchAttribute_Substring_0 : Tup p_cascadia_matchAttribute_Substring_0 → Option (Stp (Tup p_cascadia_matchAttribute_Substring_0) (SumT (x_cascadia_matchAttribute_Substring_0.map (·.2)))) := fun (x : List UInt8 × (Bool × List UInt8) × List HAttr × Int × Int × List HN) => bif Decidable.decide (Prod.fst (Prod.snd (Prod.snd (Prod.snd (Prod.snd x)))) < Prod.fst (Prod.snd (Prod.snd (Prod.snd x)))) then Option.bind (atI (Prod.fst (Prod.snd (Prod.snd x))) (Prod.fst (Prod.snd (Prod.snd (Prod.snd (Prod.snd x)))))) fun (v : HAttr) => bif Decidable.decide (HAttr.key v = Prod.fst x) then Option.bind (m_cascadia_attributeSubstringMatch_1 (HAttr.val v, Prod.fst (Prod.fst (Prod.snd x)), Prod.snd (Prod.fst (Prod.snd x)))) fun (r : Bool) => bif r then Option.some (Stp.out (Sum.inr (Bool.true, Prod.snd (Prod.snd (Prod.snd (Prod.snd (Prod.snd x))))))) else Option.some (Stp.nx (Prod.fst x, (Prod.fst (Prod.fst (Prod.snd x)), Prod.snd (Prod.fst (Prod.snd x))), Prod.fst (Prod.snd (Prod.snd x)), Prod.fst (Prod.snd (Prod.snd (Prod.snd x))), Go.IntKind.wrap Go.IntKind.i64 (Prod.fst (Prod.snd (Prod.snd (Prod.snd (Prod.snd x)))) + (1 : Int)), Prod.snd (Prod.snd (Prod.snd (Prod.snd (Prod.snd x)))))) else Option.some (Stp.nx (Prod.fst x, (Prod.fst (Prod.fst (Prod.snd x)), Prod.snd (Prod.fst (Prod.snd x))), Prod.fst (Prod.snd (Prod.snd x)), Prod.fst (Prod.snd (Prod.snd (Prod.snd x))), Go.IntKind.wrap Go.IntKind.i64 (Prod.fst (Prod.snd (Prod.snd (Prod.snd (Prod.snd x)))) + (1 : Int)), Prod.snd (Prod.snd (Prod.snd (Prod.snd (Prod.snd x)))))) else Option.some (Stp.out (Sum.inl (Prod.snd (Prod.snd (Prod.snd (Prod.snd (Prod.snd x)))))))

noncomputable def m_cascadia_matchAttribute_Substring : Tup p_cascadia_matchAttribute_Substring → Option (Tup q_cascadia_matchAttribute_Substring) := fun (x : Option Nat × List UInt8 × (Bool × List UInt8) × List HN) => Option.bind (Prod.fst x) fun (i : Nat) => Option.bind (Option.some i) fun (i : Nat) => Option.bind (Prod.snd (Prod.snd (Prod.snd x)))[i]? fun (h : HN) => bif Decidable.decide (HN.ty h ≠ (3 : Int)) then Option.some Bool.false else Option.bind (Prod.fst x) fun (i : Nat) => Option.bind (Option.some i) fun (i : Nat) => Option.bind (Prod.snd (Prod.snd (Prod.snd x)))[i]? fun (h : HN) => Option.bind (loopO m_cascadia_matchAttribute_Substring_0 (Prod.fst (Prod.snd x), (Prod.fst (Prod.fst (Prod.snd (Prod.snd x))), Prod.snd (Prod.fst (Prod.snd (Prod.snd x)))), HN.attrs h, (↑(List.length (HN.attrs h)) : Int), (0 : Int), Prod.snd (Prod.snd (Prod.snd x)))) fun (y : List HN ⊕ Bool × List HN) => selim (fun (y : List HN) => Option.some Bool.false) (fun (y : Bool × List HN) => Option.some (Prod.fst y)) y

noncomputable def cx_cascadia_matchAttribute_Substring : Cx := ⟨tb, lookE [(131, e_cascadia_attributeSubstringMatch_1)]⟩

theorem ck_cascadia_matchAttribute_Substring : CxOK Try.prog (cx_cascadia_matchAttribute_Substring) := cx_ok tb_ok (.cons ok_cascadia_attributeSubstringMatch_1 Try.call131 .nil)

noncomputable def c_cascadia_matchAttribute_Substring_0 : Code := loopAt (Go.Proofs.Try.f100.body.getD .skip) 0

noncomputable def l_cascadia_matchAttribute_Substring_0 : LEnt := ⟨p_cascadia_matchAttribute_Substring_0, x_cascadia_matchAttribute_Substring_0, loopO (m_cascadia_matchAttribute_Substring_0)⟩

theorem lo_cascadia_matchAttribute_Substring_0 : LOK Try.prog 34 0 false (l_cascadia_matchAttribute_Substring_0) c_cascadia_matchAttribute_Substring_0 := loop_ok (body := m_cascadia_matchAttribute_Substring_0) (L := lookL []) (ck_cascadia_matchAttribute_Substring) mixed (ls_ok (l := []) (by kernel_rfl) .nil) (by intro x; kernel_rfl) (fun x y h => loopO_iff.1 h)

noncomputable def e_cascadia_matchAttribute_Substring : Ent := ⟨0, p_cascadia_matchAttribute_Substring, q_cascadia_matchAttribute_Substring, m_cascadia_matchAttribute_Substring⟩
theorem ok_cascadia_matchAttribute_Substring : FnOK Try.prog 100 e_cascadia_matchAttribute_Substring := fn_ok (L := lookL [(0, l_cascadia_matchAttribute_Substring_0)]) ck_cascadia_matchAttribute_Substring mixed Try.func100 rfl (by kernel_rfl) (by kernel_rfl) (ls_ok (l := [(0, c_cascadia_matchAttribute_Substring_0)]) (by kernel_rfl) (.cons rfl (lo_cascadia_matchAttribute_Substring_0) .nil)) (by intro x; kernel_rfl)

/-! cascadia.attributeSubstringMatch -/
abbrev p_cascadia_attributeSubstringMatch : Pt := [(0, .str), (1, .str), (2, .np), (3, .bool), (NTR, .nsr)]
abbrev q_cascadia_attributeSubstringMatch : Pt := [(0, .bool)]

noncomputable def m_cascadia_attributeSubstringMatch : Tup p_cascadia_attributeSubstringMatch → Option (Tup q_cascadia_attributeSubstringMatch) := fun (x : List UInt8 × List UInt8 × Option Nat × Bool × List HN) => Option.bind (m_cascadia_matchAttribute_Substring (Prod.fst (Prod.snd (Prod.snd x)), Prod.fst x, (Prod.fst (Prod.snd (Prod.snd (Prod.snd x))), Prod.fst (Prod.snd x)), Prod.snd (Prod.snd (Prod.snd (Prod.snd x))))) fun (r : Bool) => Option.some r

noncomputable def cx_cascadia_attributeSubstringMatch : Cx := ⟨tb, lookE [(100, e_cascadia_matchAttribute_Substring), (131, e_cascadia_attributeSubstringMatch_1)]⟩

theorem ck_cascadia_attributeSubstringMatch : CxOK Try.prog (cx_cascadia_attributeSubstringMatch) := cx_ok tb_ok (.cons ok_cascadia_matchAttribute_Substring Try.call100 (.cons ok_cascadia_attributeSubstringMatch_1 Try.call131 .nil))

noncomputable def e_cascadia_attributeSubstringMatch : Ent := ⟨0, p_cascadia_attributeSubstringMatch, q_cascadia_attributeSubstringMatch, m_cascadia_attributeSubstringMatch⟩
theorem ok_cascadia_attributeSubstringMatch : FnOK Try.prog 111 e_cascadia_attributeSubstringMatch := fn_ok (L := lookL []) ck_cascadia_attributeSubstringMatch mixed Try.func111 rfl (by kernel_rfl) (by kernel_rfl) (ls_ok (l := []) (by kernel_rfl) .nil) (by intro x; kernel_rfl)

/-! (cascadia.attrSelector).Match -/
abbrev p_cascadia_attrSelector_Match : Pt := [(0, .el (.rc .str [.str, .str, .bool] 0)), (1, .np), (NTR, .nsr)]
abbrev q_cascadia_attrSelector_Match : Pt := [(0, .bool)]

noncomputable def m_cascadia_attrSelector_Match : Tup p_cascadia_attrSelector_Match → Option (Tup q_cascadia_attrSelector_Match) := fun (x : (List UInt8 × List UInt8 × List UInt8 × Bool) × Option Nat × List HN) => bif Decidable.decide (Prod.fst (Prod.snd (Prod.snd (Prod.fst x))) = Array.toList (ByteArray.data { data := #[] })) then Option.bind (m_cascadia_matchAttribute_m1 (Prod.fst (Prod.snd x), Prod.fst (Prod.fst x), (), Prod.snd (Prod.snd x))) fun (r : Bool) => Option.some r else bif Decidable.decide (Prod.fst (Prod.snd (Prod.snd (Prod.fst x))) = Array.toList (ByteArray.data { data := #[(61 : UInt8)] })) then Option.bind (m_cascadia_matchAttribute_m2 (Prod.fst (Prod.snd x), Prod.fst (Prod.fst x), (Prod.fst (Prod.fst x), Prod.fst (Prod.snd (Prod.fst x)), Prod.fst (Prod.snd (Prod.snd (Prod.fst x))), Prod.snd (Prod.snd (Prod.snd (Prod.fst x)))), Prod.snd (Prod.snd x))) fun (r : Bool) => Option.some r else bif Decidable.decide (Prod.fst (Prod.snd (Prod.snd (Prod.fst x))) = Array.toList (ByteArray.data { data := #[(33 : UInt8), (61 : UInt8)] })) then Option.bind (m_cascadia_attributeNotEqualMatch (Prod.fst (Prod.fst x), Prod.fst (Prod.snd (Prod.fst x)), Prod.fst (Prod.snd x), Prod.snd (Prod.snd (Prod.snd (Prod.fst x))), Prod.snd (Prod.snd x))) fun (r : Bool) => Option.some r else bif Decidable.decide (Prod.fst (Prod.snd (Prod.snd (Prod.fst x))) = Array.toList (ByteArray.data { data := #[(126 : UInt8), (61 : UInt8)] })) then Option.bind (m_cascadia_matchAttribute_m3 (Prod.fst (Prod.snd x), Prod.fst (Prod.fst x), (Prod.fst (Prod.fst x), Prod.fst (Prod.snd (Prod.fst x)), Prod.fst (Prod.snd (Prod.snd (Prod.fst x))), Prod.snd (Prod.snd (Prod.snd (Prod.fst x)))), Prod.snd (Prod.snd x))) fun (r : Bool) => Option.some r else bif Decidable.decide (Prod.fst (Prod.snd (Prod.snd (Prod.fst x))) = Array.toList (ByteArray.data { data := #[(124 : UInt8), (61 : UInt8)] })) then Option.bind (m_cascadia_attributeDashMatch (Prod.fst (Prod.fst x), Prod.fst (Prod.snd (Prod.fst x)), Prod.fst (Prod.snd x), Prod.snd (Prod.snd (Prod.snd (Prod.fst x))), Prod.snd (Prod.snd x))) fun (r : Bool) => Option.some r else bif Decidable.decide (Prod.fst (Prod.snd (Prod.snd (Prod.fst x))) = Array.toList (ByteArray.data { data := #[(94 : UInt8), (61 : UInt8)] })) then Option.bind (m_cascadia_attributePrefixMatch (Prod.fst (Prod.fst x), Prod.fst (Prod.snd (Prod.fst x)), Prod.fst (Prod.snd x), Prod.snd (Prod.snd (Prod.snd (Prod.fst x))), Prod.snd (Prod.snd x))) fun (r : Bool) => Option.some r else bif Decidable.decide (Prod.fst (Prod.snd (Prod.snd (Prod.fst x))) = Array.toList (ByteArray.data { data := #[(36 : UInt8), (61 : UInt8)] })) then Option.bind (m_cascadia_attributeSuffixMatch (Prod.fst (Prod.fst x), Prod.fst (Prod.snd (Prod.fst x)), Prod.fst (Prod.snd x), Prod.snd (Prod.snd (Prod.snd (Prod.fst x))), Prod.snd (Prod.snd x))) fun (r : Bool) => Option.some r else bif Decidable.decide (Prod.fst (Prod.snd (Prod.snd (Prod.fst x))) = Array.toList (ByteArray.data { data := #[(42 : UInt8), (61 : UInt8)] })) then Option.bind (m_cascadia_attributeSubstringMatch (Prod.fst (Prod.fst x), Prod.fst (Prod.snd (Prod.fst x)), Prod.fst (Prod.snd x), Prod.snd (Prod.snd (Prod.snd (Prod.fst x))), Prod.snd (Prod.snd x))) fun (r : Bool) => Option.some r else Option.none

noncomputable def cx_cascadia_attrSelector_Match : Cx := ⟨tb, lookE [(104000100, e_cascadia_matchAttribute_m1), (105000100, e_cascadia_matchAttribute_m2), (108000100, e_cascadia_matchAttribute_m3), (106, e_cascadia_attributeNotEqualMatch), (108, e_cascadia_attributeDashMatch), (109, e_cascadia_attributePrefixMatch), (110, e_cascadia_attributeSuffixMatch), (111, e_cascadia_attributeSubstringMatch), (104, e_cascadia_attrSelector_Match_2), (107, e_cascadia_attrSelector_Match_3)]⟩

theorem ck_cascadia_attrSelector_Match : CxOK Try.prog (cx_cascadia_attrSelector_Match) := cx_ok tb_ok (.cons ok_cascadia_matchAttribute_m1 Try.call100 (.cons ok_cascadia_matchAttribute_m2 Try.call100 (.cons ok_cascadia_matchAttribute_m3 Try.call100 (.cons ok_cascadia_attributeNotEqualMatch Try.call106 (.cons ok_cascadia_attributeDashMatch Try.call108 (.cons ok_cascadia_attributePrefixMatch Try.call109 (.cons ok_cascadia_attributeSuffixMatch Try.call110 (.cons ok_cascadia_attributeSubstringMatch Try.call111 (.cons ok_cascadia_attrSelector_Match_2 Try.call104 (.cons ok_cascadia_attrSelector_Match_3 Try.call107 .nil))))))))))

noncomputable def e_cascadia_attrSelector_Match : Ent := ⟨0, p_cascadia_attrSelector_Match, q_cascadia_attrSelector_Match, m_cascadia_attrSelector_Match⟩
theorem ok_cascadia_attrSelector_Match : FnOK Try.prog 73 e_cascadia_attrSelector_Match := fn_ok (L := lookL []) ck_cascadia_attrSelector_Match mixed Try.func73 rfl (by kernel_rfl) (by kernel_rfl) (ls_ok (l := []) (by kernel_rfl) .nil) (by intro x; kernel_rfl)

/-! cascadia.Test -/
abbrev p_cascadia_Test : Pt := [(0, .str), (1, .str), (2, .str), (3, .bool), (NT, .ns 115 111)]
abbrev q_cascadia_Test : Pt := [(0, .bool), (NT, .ns 115 111)]

noncomputable def m_cascadia_Test : Tup p_cascadia_Test → Option (Tup q_cascadia_Test) := fun (x : List UInt8 × List UInt8 × List UInt8 × Bool × List HN) => Option.bind (m_cascadia_attrSelector_Match (([(97 : UInt8)], Prod.fst (Prod.snd (Prod.snd x)), Prod.fst (Prod.snd x), Prod.fst (Prod.snd (Prod.snd (Prod.snd x)))), Option.some (List.length (Prod.snd (Prod.snd (Prod.snd (Prod.snd x))))), Prod.snd (Prod.snd (Prod.snd (Prod.snd x))) ++ [{ par := Option.none, fst := Option.none, lst := Option.none, prv := Option.none, nxt := Option.none, ty := (3 : Int), atom := (0 : Int), data := [], ns := [], attrs := [{ ns := [], key := [(97 : UInt8)], val := Prod.fst x }] }])) fun (r : Bool) => Option.some (r, Prod.snd (Prod.snd (Prod.snd (Prod.snd x))) ++ [{ par := Option.none, fst := Option.none, lst := Option.none, prv := Option.none, nxt := Option.none, ty := (3 : Int), atom := (0 : Int), data := [], ns := [], attrs := [{ ns := [], key := [(97 : UInt8)], val := Prod.fst x }] }])

noncomputable def cx_cascadia_Test : Cx := ⟨tb, lookE [(73, e_cascadia_attrSelector_Match)]⟩

theorem ck_cascadia_Test : CxOK Try.prog (cx_cascadia_Test) := cx_ok tb_ok (.cons ok_cascadia_attrSelector_Match Try.call73 .nil)

noncomputable def e_cascadia_Test : Ent := ⟨0, p_cascadia_Test, q_cascadia_Test, m_cascadia_Test⟩
theorem ok_cascadia_Test : FnOK Try.prog 35 e_cascadia_Test := fn_ok (L := lookL []) ck_cascadia_Test mixed Try.func35 rfl (by kernel_rfl) (by kernel_rfl) (ls_ok (l := []) (by kernel_rfl) .nil) (by intro x; kernel_rfl)

abbrev p_cascadia_Test_f : Pt := [(0, .str), (1, .str), (2, .str), (3, .bool)]
abbrev q_cascadia_Test_f : Pt := [(0, .bool)]
noncomputable def m_cascadia_Test_f : Tup p_cascadia_Test_f → Option (Tup q_cascadia_Test_f) := frT 0 p_cascadia_Test_f q_cascadia_Test_f 115 111 (m_cascadia_Test)
noncomputable def e_cascadia_Test_f : Ent := ⟨0, p_cascadia_Test_f, q_cascadia_Test_f, m_cascadia_Test_f⟩
theorem ok_cascadia_Test_f : FnOK Try.prog 35 e_cascadia_Test_f := fresh_ok (np := 0) (p := p_cascadia_Test_f) (q := q_cascadia_Test_f) (m := m_cascadia_Test) ok_cascadia_Test (by kernel_rfl) (by kernel_rfl)

/-! impl.attrOps -/
abbrev p_impl_attrOps : Pt := []
abbrev q_impl_attrOps : Pt := [(0, .own .str 9)]

noncomputable def m_impl_attrOps : Tup p_impl_attrOps → Option (Tup q_impl_attrOps) := fun (x : PUnit) => Option.some [[], [(61 : UInt8)], [(33 : UInt8), (61 : UInt8)], [(126 : UInt8), (61 : UInt8)], [(124 : UInt8), (61 : UInt8)], [(94 : UInt8), (61 : UInt8)], [(36 : UInt8), (61 : UInt8)], [(42 : UInt8), (61 : UInt8)]]

noncomputable def cx_impl_attrOps : Cx := ⟨tb, lookE []⟩

theorem ck_impl_attrOps : CxOK Try.prog (cx_impl_attrOps) := cx_ok tb_ok .nil

noncomputable def e_impl_attrOps : Ent := ⟨0, p_impl_attrOps, q_impl_attrOps, m_impl_attrOps⟩
theorem ok_impl_attrOps : FnOK Try.prog 36 e_impl_attrOps := fn_ok (L := lookL []) ck_impl_attrOps mixed Try.func36 rfl (by kernel_rfl) (by kernel_rfl) (ls_ok (l := []) (by kernel_rfl) .nil) (by intro x; kernel_rfl)

/-! impl.TestAttr -/
abbrev p_impl_TestAttr : Pt := [(0, .str), (1, .int .i64), (2, .str), (3, .int .i64)]
abbrev q_impl_TestAttr : Pt := [(0, .bool), (1, .bool)]

noncomputable def m_impl_TestAttr : Tup p_impl_TestAttr → Option (Tup q_impl_TestAttr) := fun (x : List UInt8 × Int × List UInt8 × Int) => bif Decidable.decide (Prod.fst (Prod.snd x) < (1 : Int)) then Option.some (Bool.false, Bool.false) else bif Decidable.decide ((8 : Int) < Prod.fst (Prod.snd x)) then Option.some (Bool.false, Bool.false) else Option.bind (m_impl_attrOps ()) fun (r : List (List UInt8)) => Option.bind (atI r (Go.IntKind.wrap Go.IntKind.i64 (Prod.fst (Prod.snd x) - (1 : Int)))) fun (x_1 : List UInt8) => Option.bind r[Int.toNat (Go.IntKind.wrap Go.IntKind.i64 (Prod.fst (Prod.snd x) - (1 : Int)))]? fun (v : List UInt8) => Option.bind (m_cascadia_Test_f (Prod.fst x, v, Prod.fst (Prod.snd (Prod.snd x)), Decidable.decide (Prod.snd (Prod.snd (Prod.snd x)) = (1 : Int)))) fun (r : Bool) => Option.some (r, Bool.true)

noncomputable def cx_impl_TestAttr : Cx := ⟨tb, lookE [(36, e_impl_attrOps), (35, e_cascadia_Test_f)]⟩

theorem ck_impl_TestAttr : CxOK Try.prog (cx_impl_TestAttr) := cx_ok tb_ok (.cons ok_impl_attrOps Try.call36 (.cons ok_cascadia_Test_f Try.call35 .nil))

noncomputable def e_impl_TestAttr : Ent := ⟨0, p_impl_TestAttr, q_impl_TestAttr, m_impl_TestAttr⟩
theorem ok_impl_TestAttr : FnOK Try.prog 14 e_impl_TestAttr := fn_ok (L := lookL []) ck_impl_TestAttr mixed Try.func14 rfl (by kernel_rfl) (by kernel_rfl) (ls_ok (l := []) (by kernel_rfl) .nil) (by intro x; kernel_rfl)

end Go.Proofs.Ytldldchdkcmojaa.V
