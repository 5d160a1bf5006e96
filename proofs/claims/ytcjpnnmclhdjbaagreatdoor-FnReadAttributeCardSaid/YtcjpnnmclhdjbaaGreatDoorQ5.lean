/-
  Plain facts and an evaluator for what a law needs.
-/
import Derived.Test.YtcjpnnmclhdjbaaGreatDoorQ4
set_option linter.unusedVariables false
set_option linter.unusedSimpArgs false
namespace Go.Proofs.YtcjpnnmclhdjbaaGreatDoor.V
open Go Go.Proofs
abbrev p_cascadia_nameStart : Pt := [(0, .int .u8)]
abbrev q_cascadia_nameStart : Pt := [(0, .bool)]
noncomputable def m_cascadia_nameStart : Tup p_cascadia_nameStart → Option (Tup q_cascadia_nameStart) := fun (x : Int) => bif decide ((97 : Int) ≤ x) then bif decide (x ≤ (122 : Int)) then some true else bif decide ((65 : Int) ≤ x) then bif decide (x ≤ (90 : Int)) then some true else bif decide (x = (95 : Int)) then some true else some (decide ((127 : Int) < x)) else bif decide (x = (95 : Int)) then some true else some (decide ((127 : Int) < x)) else bif decide ((65 : Int) ≤ x) then bif decide (x ≤ (90 : Int)) then some true else bif decide (x = (95 : Int)) then some true else some (decide ((127 : Int) < x)) else bif decide (x = (95 : Int)) then some true else some (decide ((127 : Int) < x))
noncomputable def cx_cascadia_nameStart : Cx := ⟨tb, lookE [], lookS []⟩
theorem ck_cascadia_nameStart : CxOK Tryz.prog (cx_cascadia_nameStart) := cx_ok tb_ok .nil
noncomputable def e_cascadia_nameStart : Ent := ⟨0, p_cascadia_nameStart, q_cascadia_nameStart, m_cascadia_nameStart⟩
theorem ok_cascadia_nameStart : FnOK Tryz.prog 43 e_cascadia_nameStart := fn_ok (L := lookL []) ck_cascadia_nameStart mixed Tryz.func43 rfl (by kernel_rfl) (by kernel_rfl) (ls_ok (l := []) (by kernel_rfl) .nil) (by intro x; kernel_rfl)
abbrev p_cascadia_nameChar : Pt := [(0, .int .u8)]
abbrev q_cascadia_nameChar : Pt := [(0, .bool)]
noncomputable def m_cascadia_nameChar : Tup p_cascadia_nameChar → Option (Tup q_cascadia_nameChar) := fun (x : Int) => bif decide ((97 : Int) ≤ x) then bif decide (x ≤ (122 : Int)) then some true else bif decide ((65 : Int) ≤ x) then bif decide (x ≤ (90 : Int)) then some true else bif decide (x = (95 : Int)) then some true else bif decide ((127 : Int) < x) then some true else bif decide (x = (45 : Int)) then some true else bif decide ((48 : Int) ≤ x) then some (decide (x ≤ (57 : Int))) else some false else bif decide (x = (95 : Int)) then some true else bif decide ((127 : Int) < x) then some true else bif decide (x = (45 : Int)) then some true else bif decide ((48 : Int) ≤ x) then some (decide (x ≤ (57 : Int))) else some false else bif decide ((65 : Int) ≤ x) then bif decide (x ≤ (90 : Int)) then some true else bif decide (x = (95 : Int)) then some true else bif decide ((127 : Int) < x) then some true else bif decide (x = (45 : Int)) then some true else bif decide ((48 : Int) ≤ x) then some (decide (x ≤ (57 : Int))) else some false else bif decide (x = (95 : Int)) then some true else bif decide ((127 : Int) < x) then some true else bif decide (x = (45 : Int)) then some true else bif decide ((48 : Int) ≤ x) then some (decide (x ≤ (57 : Int))) else some false
noncomputable def cx_cascadia_nameChar : Cx := ⟨tb, lookE [], lookS []⟩
theorem ck_cascadia_nameChar : CxOK Tryz.prog (cx_cascadia_nameChar) := cx_ok tb_ok .nil
noncomputable def e_cascadia_nameChar : Ent := ⟨0, p_cascadia_nameChar, q_cascadia_nameChar, m_cascadia_nameChar⟩
theorem ok_cascadia_nameChar : FnOK Tryz.prog 50 e_cascadia_nameChar := fn_ok (L := lookL []) ck_cascadia_nameChar mixed Tryz.func50 rfl (by kernel_rfl) (by kernel_rfl) (ls_ok (l := []) (by kernel_rfl) .nil) (by intro x; kernel_rfl)
abbrev p_cascadia_hexDigit : Pt := [(0, .int .u8)]
abbrev q_cascadia_hexDigit : Pt := [(0, .bool)]
noncomputable def m_cascadia_hexDigit : Tup p_cascadia_hexDigit → Option (Tup q_cascadia_hexDigit) := fun (x : Int) => bif decide ((48 : Int) ≤ x) then bif decide (x ≤ (57 : Int)) then some true else bif decide ((97 : Int) ≤ x) then bif decide (x ≤ (102 : Int)) then some true else bif decide ((65 : Int) ≤ x) then some (decide (x ≤ (70 : Int))) else some false else bif decide ((65 : Int) ≤ x) then some (decide (x ≤ (70 : Int))) else some false else bif decide ((97 : Int) ≤ x) then bif decide (x ≤ (102 : Int)) then some true else bif decide ((65 : Int) ≤ x) then some (decide (x ≤ (70 : Int))) else some false else bif decide ((65 : Int) ≤ x) then some (decide (x ≤ (70 : Int))) else some false
noncomputable def cx_cascadia_hexDigit : Cx := ⟨tb, lookE [], lookS []⟩
theorem ck_cascadia_hexDigit : CxOK Tryz.prog (cx_cascadia_hexDigit) := cx_ok tb_ok .nil
noncomputable def e_cascadia_hexDigit : Ent := ⟨0, p_cascadia_hexDigit, q_cascadia_hexDigit, m_cascadia_hexDigit⟩
theorem ok_cascadia_hexDigit : FnOK Tryz.prog 56 e_cascadia_hexDigit := fn_ok (L := lookL []) ck_cascadia_hexDigit mixed Tryz.func56 rfl (by kernel_rfl) (by kernel_rfl) (ls_ok (l := []) (by kernel_rfl) .nil) (by intro x; kernel_rfl)
abbrev p_errors_New : Pt := [(0, .str)]
abbrev q_errors_New : Pt := [(0, .err)]
noncomputable def m_errors_New : Tup p_errors_New → Option (Tup q_errors_New) := fun (x : List UInt8) => some true
noncomputable def cx_errors_New : Cx := ⟨tb, lookE [], lookS []⟩
theorem ck_errors_New : CxOK Tryz.prog (cx_errors_New) := cx_ok tb_ok .nil
noncomputable def e_errors_New : Ent := ⟨0, p_errors_New, q_errors_New, m_errors_New⟩
theorem ok_errors_New : FnOK Tryz.prog 33 e_errors_New := fn_ok (L := lookL []) ck_errors_New mixed Tryz.func33 rfl (by kernel_rfl) (by kernel_rfl) (ls_ok (l := []) (by kernel_rfl) .nil) (by intro x; kernel_rfl)
abbrev p_internal_strconv_lower : Pt := [(0, .int .u8)]
abbrev q_internal_strconv_lower : Pt := [(0, .int .u8)]
noncomputable def m_internal_strconv_lower : Tup p_internal_strconv_lower → Option (Tup q_internal_strconv_lower) := fun (x : Int) => some (orI Go.IntKind.u8 x (32 : Int))
noncomputable def cx_internal_strconv_lower : Cx := ⟨tb, lookE [], lookS []⟩
theorem ck_internal_strconv_lower : CxOK Tryz.prog (cx_internal_strconv_lower) := cx_ok tb_ok .nil
noncomputable def e_internal_strconv_lower : Ent := ⟨0, p_internal_strconv_lower, q_internal_strconv_lower, m_internal_strconv_lower⟩
theorem ok_internal_strconv_lower : FnOK Tryz.prog 66 e_internal_strconv_lower := fn_ok (L := lookL []) ck_internal_strconv_lower mixed Tryz.func66 rfl (by kernel_rfl) (by kernel_rfl) (ls_ok (l := []) (by kernel_rfl) .nil) (by intro x; kernel_rfl)
abbrev p_internal_strconv_ParseUint_16 : Pt := [(0, .str), (1, .intc .i64 16), (2, .intc .i64 64)]
abbrev q_internal_strconv_ParseUint_16 : Pt := [(0, .int .u64), (1, .err)]
abbrev p_internal_strconv_ParseUint_16_0 : Pt := [(1, .intc .i64 16), (8, .bool), (9, .str), (10, .int .u64), (11, .int .u64), (12, .bool), (13, .int .u64), (99, .own .u8 5), (100, .int .i64), (101, .int .i64)]
abbrev x_internal_strconv_ParseUint_16_0 : List (Xt × Pt) := [(.ex 3, [(9, .str), (12, .bool), (13, .int .u64)]), (.rt, [(6, .int .u64), (7, .err)])]
noncomputable def m_internal_strconv_ParseUint_16_0 : Tup p_internal_strconv_ParseUint_16_0 → Option (Stp (Tup p_internal_strconv_ParseUint_16_0) (SumT (x_internal_strconv_ParseUint_16_0.map (·.2)))) := fun (x : PUnit × Bool × List UInt8 × Int × Int × Bool × Int × List UInt8 × Int × Int) => bif decide (x.2.2.2.2.2.2.2.2.2 < x.2.2.2.2.2.2.2.2.1) then Option.bind (atI x.2.2.2.2.2.2.2.1 x.2.2.2.2.2.2.2.2.2) fun (x_1 : UInt8) => Option.bind x.2.2.2.2.2.2.2.1[Int.toNat x.2.2.2.2.2.2.2.2.2]? fun (v : UInt8) => bif decide ((↑(UInt8.toNat v) : Int) = (95 : Int)) then bif x.2.1 then some (Stp.nx ((), x.2.1, x.2.2.1, x.2.2.2.1, x.2.2.2.2.1, true, x.2.2.2.2.2.2.1, x.2.2.2.2.2.2.2.1, x.2.2.2.2.2.2.2.2.1, IntKind.wrap .i64 (x.2.2.2.2.2.2.2.2.2 + (1 : Int)))) else bif decide ((48 : Int) ≤ (↑(UInt8.toNat v) : Int)) then bif decide ((↑(UInt8.toNat v) : Int) ≤ (57 : Int)) then bif decide (Go.IntKind.wrap Go.IntKind.u8 (16 : Int) ≤ Go.IntKind.wrap Go.IntKind.u8 ((↑(UInt8.toNat v) : Int) - (48 : Int))) then some (Stp.out (Sum.inr ((0 : Int), true))) else bif decide (x.2.2.2.1 ≤ x.2.2.2.2.2.2.1) then some (Stp.out (Sum.inr (x.2.2.2.2.1, true))) else bif decide (Go.IntKind.wrap Go.IntKind.u64 (Go.IntKind.wrap Go.IntKind.u64 (x.2.2.2.2.2.2.1 * Go.IntKind.wrap Go.IntKind.u64 (16 : Int)) + Go.IntKind.wrap Go.IntKind.u64 (Go.IntKind.wrap Go.IntKind.u8 ((↑(UInt8.toNat v) : Int) - (48 : Int)))) < Go.IntKind.wrap Go.IntKind.u64 (x.2.2.2.2.2.2.1 * Go.IntKind.wrap Go.IntKind.u64 (16 : Int))) then some (Stp.out (Sum.inr (x.2.2.2.2.1, true))) else bif decide (x.2.2.2.2.1 < Go.IntKind.wrap Go.IntKind.u64 (Go.IntKind.wrap Go.IntKind.u64 (x.2.2.2.2.2.2.1 * Go.IntKind.wrap Go.IntKind.u64 (16 : Int)) + Go.IntKind.wrap Go.IntKind.u64 (Go.IntKind.wrap Go.IntKind.u8 ((↑(UInt8.toNat v) : Int) - (48 : Int))))) then some (Stp.out (Sum.inr (x.2.2.2.2.1, true))) else some (Stp.nx ((), x.2.1, x.2.2.1, x.2.2.2.1, x.2.2.2.2.1, x.2.2.2.2.2.1, Go.IntKind.wrap Go.IntKind.u64 (Go.IntKind.wrap Go.IntKind.u64 (x.2.2.2.2.2.2.1 * Go.IntKind.wrap Go.IntKind.u64 (16 : Int)) + Go.IntKind.wrap Go.IntKind.u64 (Go.IntKind.wrap Go.IntKind.u8 ((↑(UInt8.toNat v) : Int) - (48 : Int)))), x.2.2.2.2.2.2.2.1, x.2.2.2.2.2.2.2.2.1, IntKind.wrap .i64 (x.2.2.2.2.2.2.2.2.2 + (1 : Int)))) else Option.bind (m_internal_strconv_lower (↑(UInt8.toNat v) : Int)) fun (r : Int) => bif decide ((97 : Int) ≤ r) then Option.bind (m_internal_strconv_lower (↑(UInt8.toNat v) : Int)) fun (r : Int) => bif decide (r ≤ (122 : Int)) then Option.bind (m_internal_strconv_lower (↑(UInt8.toNat v) : Int)) fun (r : Int) => bif decide (Go.IntKind.wrap Go.IntKind.u8 (16 : Int) ≤ Go.IntKind.wrap Go.IntKind.u8 (Go.IntKind.wrap Go.IntKind.u8 (r - (97 : Int)) + (10 : Int))) then some (Stp.out (Sum.inr ((0 : Int), true))) else bif decide (x.2.2.2.1 ≤ x.2.2.2.2.2.2.1) then some (Stp.out (Sum.inr (x.2.2.2.2.1, true))) else bif decide (Go.IntKind.wrap Go.IntKind.u64 (Go.IntKind.wrap Go.IntKind.u64 (x.2.2.2.2.2.2.1 * Go.IntKind.wrap Go.IntKind.u64 (16 : Int)) + Go.IntKind.wrap Go.IntKind.u64 (Go.IntKind.wrap Go.IntKind.u8 (Go.IntKind.wrap Go.IntKind.u8 (r - (97 : Int)) + (10 : Int)))) < Go.IntKind.wrap Go.IntKind.u64 (x.2.2.2.2.2.2.1 * Go.IntKind.wrap Go.IntKind.u64 (16 : Int))) then some (Stp.out (Sum.inr (x.2.2.2.2.1, true))) else bif decide (x.2.2.2.2.1 < Go.IntKind.wrap Go.IntKind.u64 (Go.IntKind.wrap Go.IntKind.u64 (x.2.2.2.2.2.2.1 * Go.IntKind.wrap Go.IntKind.u64 (16 : Int)) + Go.IntKind.wrap Go.IntKind.u64 (Go.IntKind.wrap Go.IntKind.u8 (Go.IntKind.wrap Go.IntKind.u8 (r - (97 : Int)) + (10 : Int))))) then some (Stp.out (Sum.inr (x.2.2.2.2.1, true))) else some (Stp.nx ((), x.2.1, x.2.2.1, x.2.2.2.1, x.2.2.2.2.1, x.2.2.2.2.2.1, Go.IntKind.wrap Go.IntKind.u64 (Go.IntKind.wrap Go.IntKind.u64 (x.2.2.2.2.2.2.1 * Go.IntKind.wrap Go.IntKind.u64 (16 : Int)) + Go.IntKind.wrap Go.IntKind.u64 (Go.IntKind.wrap Go.IntKind.u8 (Go.IntKind.wrap Go.IntKind.u8 (r - (97 : Int)) + (10 : Int)))), x.2.2.2.2.2.2.2.1, x.2.2.2.2.2.2.2.2.1, IntKind.wrap .i64 (x.2.2.2.2.2.2.2.2.2 + (1 : Int)))) else some (Stp.out (Sum.inr ((0 : Int), true))) else some (Stp.out (Sum.inr ((0 : Int), true))) else Option.bind (m_internal_strconv_lower (↑(UInt8.toNat v) : Int)) fun (r : Int) => bif decide ((97 : Int) ≤ r) then Option.bind (m_internal_strconv_lower (↑(UInt8.toNat v) : Int)) fun (r : Int) => bif decide (r ≤ (122 : Int)) then Option.bind (m_internal_strconv_lower (↑(UInt8.toNat v) : Int)) fun (r : Int) => bif decide (Go.IntKind.wrap Go.IntKind.u8 (16 : Int) ≤ Go.IntKind.wrap Go.IntKind.u8 (Go.IntKind.wrap Go.IntKind.u8 (r - (97 : Int)) + (10 : Int))) then some (Stp.out (Sum.inr ((0 : Int), true))) else bif decide (x.2.2.2.1 ≤ x.2.2.2.2.2.2.1) then some (Stp.out (Sum.inr (x.2.2.2.2.1, true))) else bif decide (Go.IntKind.wrap Go.IntKind.u64 (Go.IntKind.wrap Go.IntKind.u64 (x.2.2.2.2.2.2.1 * Go.IntKind.wrap Go.IntKind.u64 (16 : Int)) + Go.IntKind.wrap Go.IntKind.u64 (Go.IntKind.wrap Go.IntKind.u8 (Go.IntKind.wrap Go.IntKind.u8 (r - (97 : Int)) + (10 : Int)))) < Go.IntKind.wrap Go.IntKind.u64 (x.2.2.2.2.2.2.1 * Go.IntKind.wrap Go.IntKind.u64 (16 : Int))) then some (Stp.out (Sum.inr (x.2.2.2.2.1, true))) else bif decide (x.2.2.2.2.1 < Go.IntKind.wrap Go.IntKind.u64 (Go.IntKind.wrap Go.IntKind.u64 (x.2.2.2.2.2.2.1 * Go.IntKind.wrap Go.IntKind.u64 (16 : Int)) + Go.IntKind.wrap Go.IntKind.u64 (Go.IntKind.wrap Go.IntKind.u8 (Go.IntKind.wrap Go.IntKind.u8 (r - (97 : Int)) + (10 : Int))))) then some (Stp.out (Sum.inr (x.2.2.2.2.1, true))) else some (Stp.nx ((), x.2.1, x.2.2.1, x.2.2.2.1, x.2.2.2.2.1, x.2.2.2.2.2.1, Go.IntKind.wrap Go.IntKind.u64 (Go.IntKind.wrap Go.IntKind.u64 (x.2.2.2.2.2.2.1 * Go.IntKind.wrap Go.IntKind.u64 (16 : Int)) + Go.IntKind.wrap Go.IntKind.u64 (Go.IntKind.wrap Go.IntKind.u8 (Go.IntKind.wrap Go.IntKind.u8 (r - (97 : Int)) + (10 : Int)))), x.2.2.2.2.2.2.2.1, x.2.2.2.2.2.2.2.2.1, IntKind.wrap .i64 (x.2.2.2.2.2.2.2.2.2 + (1 : Int)))) else some (Stp.out (Sum.inr ((0 : Int), true))) else some (Stp.out (Sum.inr ((0 : Int), true))) else bif decide ((48 : Int) ≤ (↑(UInt8.toNat v) : Int)) then bif decide ((↑(UInt8.toNat v) : Int) ≤ (57 : Int)) then bif decide (Go.IntKind.wrap Go.IntKind.u8 (16 : Int) ≤ Go.IntKind.wrap Go.IntKind.u8 ((↑(UInt8.toNat v) : Int) - (48 : Int))) then some (Stp.out (Sum.inr ((0 : Int), true))) else bif decide (x.2.2.2.1 ≤ x.2.2.2.2.2.2.1) then some (Stp.out (Sum.inr (x.2.2.2.2.1, true))) else bif decide (Go.IntKind.wrap Go.IntKind.u64 (Go.IntKind.wrap Go.IntKind.u64 (x.2.2.2.2.2.2.1 * Go.IntKind.wrap Go.IntKind.u64 (16 : Int)) + Go.IntKind.wrap Go.IntKind.u64 (Go.IntKind.wrap Go.IntKind.u8 ((↑(UInt8.toNat v) : Int) - (48 : Int)))) < Go.IntKind.wrap Go.IntKind.u64 (x.2.2.2.2.2.2.1 * Go.IntKind.wrap Go.IntKind.u64 (16 : Int))) then some (Stp.out (Sum.inr (x.2.2.2.2.1, true))) else bif decide (x.2.2.2.2.1 < Go.IntKind.wrap Go.IntKind.u64 (Go.IntKind.wrap Go.IntKind.u64 (x.2.2.2.2.2.2.1 * Go.IntKind.wrap Go.IntKind.u64 (16 : Int)) + Go.IntKind.wrap Go.IntKind.u64 (Go.IntKind.wrap Go.IntKind.u8 ((↑(UInt8.toNat v) : Int) - (48 : Int))))) then some (Stp.out (Sum.inr (x.2.2.2.2.1, true))) else some (Stp.nx ((), x.2.1, x.2.2.1, x.2.2.2.1, x.2.2.2.2.1, x.2.2.2.2.2.1, Go.IntKind.wrap Go.IntKind.u64 (Go.IntKind.wrap Go.IntKind.u64 (x.2.2.2.2.2.2.1 * Go.IntKind.wrap Go.IntKind.u64 (16 : Int)) + Go.IntKind.wrap Go.IntKind.u64 (Go.IntKind.wrap Go.IntKind.u8 ((↑(UInt8.toNat v) : Int) - (48 : Int)))), x.2.2.2.2.2.2.2.1, x.2.2.2.2.2.2.2.2.1, IntKind.wrap .i64 (x.2.2.2.2.2.2.2.2.2 + (1 : Int)))) else Option.bind (m_internal_strconv_lower (↑(UInt8.toNat v) : Int)) fun (r : Int) => bif decide ((97 : Int) ≤ r) then Option.bind (m_internal_strconv_lower (↑(UInt8.toNat v) : Int)) fun (r : Int) => bif decide (r ≤ (122 : Int)) then Option.bind (m_internal_strconv_lower (↑(UInt8.toNat v) : Int)) fun (r : Int) => bif decide (Go.IntKind.wrap Go.IntKind.u8 (16 : Int) ≤ Go.IntKind.wrap Go.IntKind.u8 (Go.IntKind.wrap Go.IntKind.u8 (r - (97 : Int)) + (10 : Int))) then some (Stp.out (Sum.inr ((0 : Int), true))) else bif decide (x.2.2.2.1 ≤ x.2.2.2.2.2.2.1) then some (Stp.out (Sum.inr (x.2.2.2.2.1, true))) else bif decide (Go.IntKind.wrap Go.IntKind.u64 (Go.IntKind.wrap Go.IntKind.u64 (x.2.2.2.2.2.2.1 * Go.IntKind.wrap Go.IntKind.u64 (16 : Int)) + Go.IntKind.wrap Go.IntKind.u64 (Go.IntKind.wrap Go.IntKind.u8 (Go.IntKind.wrap Go.IntKind.u8 (r - (97 : Int)) + (10 : Int)))) < Go.IntKind.wrap Go.IntKind.u64 (x.2.2.2.2.2.2.1 * Go.IntKind.wrap Go.IntKind.u64 (16 : Int))) then some (Stp.out (Sum.inr (x.2.2.2.2.1, true))) else bif decide (x.2.2.2.2.1 < Go.IntKind.wrap Go.IntKind.u64 (Go.IntKind.wrap Go.IntKind.u64 (x.2.2.2.2.2.2.1 * Go.IntKind.wrap Go.IntKind.u64 (16 : Int)) + Go.IntKind.wrap Go.IntKind.u64 (Go.IntKind.wrap Go.IntKind.u8 (Go.IntKind.wrap Go.IntKind.u8 (r - (97 : Int)) + (10 : Int))))) then some (Stp.out (Sum.inr (x.2.2.2.2.1, true))) else some (Stp.nx ((), x.2.1, x.2.2.1, x.2.2.2.1, x.2.2.2.2.1, x.2.2.2.2.2.1, Go.IntKind.wrap Go.IntKind.u64 (Go.IntKind.wrap Go.IntKind.u64 (x.2.2.2.2.2.2.1 * Go.IntKind.wrap Go.IntKind.u64 (16 : Int)) + Go.IntKind.wrap Go.IntKind.u64 (Go.IntKind.wrap Go.IntKind.u8 (Go.IntKind.wrap Go.IntKind.u8 (r - (97 : Int)) + (10 : Int)))), x.2.2.2.2.2.2.2.1, x.2.2.2.2.2.2.2.2.1, IntKind.wrap .i64 (x.2.2.2.2.2.2.2.2.2 + (1 : Int)))) else some (Stp.out (Sum.inr ((0 : Int), true))) else some (Stp.out (Sum.inr ((0 : Int), true))) else Option.bind (m_internal_strconv_lower (↑(UInt8.toNat v) : Int)) fun (r : Int) => bif decide ((97 : Int) ≤ r) then Option.bind (m_internal_strconv_lower (↑(UInt8.toNat v) : Int)) fun (r : Int) => bif decide (r ≤ (122 : Int)) then Option.bind (m_internal_strconv_lower (↑(UInt8.toNat v) : Int)) fun (r : Int) => bif decide (Go.IntKind.wrap Go.IntKind.u8 (16 : Int) ≤ Go.IntKind.wrap Go.IntKind.u8 (Go.IntKind.wrap Go.IntKind.u8 (r - (97 : Int)) + (10 : Int))) then some (Stp.out (Sum.inr ((0 : Int), true))) else bif decide (x.2.2.2.1 ≤ x.2.2.2.2.2.2.1) then some (Stp.out (Sum.inr (x.2.2.2.2.1, true))) else bif decide (Go.IntKind.wrap Go.IntKind.u64 (Go.IntKind.wrap Go.IntKind.u64 (x.2.2.2.2.2.2.1 * Go.IntKind.wrap Go.IntKind.u64 (16 : Int)) + Go.IntKind.wrap Go.IntKind.u64 (Go.IntKind.wrap Go.IntKind.u8 (Go.IntKind.wrap Go.IntKind.u8 (r - (97 : Int)) + (10 : Int)))) < Go.IntKind.wrap Go.IntKind.u64 (x.2.2.2.2.2.2.1 * Go.IntKind.wrap Go.IntKind.u64 (16 : Int))) then some (Stp.out (Sum.inr (x.2.2.2.2.1, true))) else bif decide (x.2.2.2.2.1 < Go.IntKind.wrap Go.IntKind.u64 (Go.IntKind.wrap Go.IntKind.u64 (x.2.2.2.2.2.2.1 * Go.IntKind.wrap Go.IntKind.u64 (16 : Int)) + Go.IntKind.wrap Go.IntKind.u64 (Go.IntKind.wrap Go.IntKind.u8 (Go.IntKind.wrap Go.IntKind.u8 (r - (97 : Int)) + (10 : Int))))) then some (Stp.out (Sum.inr (x.2.2.2.2.1, true))) else some (Stp.nx ((), x.2.1, x.2.2.1, x.2.2.2.1, x.2.2.2.2.1, x.2.2.2.2.2.1, Go.IntKind.wrap Go.IntKind.u64 (Go.IntKind.wrap Go.IntKind.u64 (x.2.2.2.2.2.2.1 * Go.IntKind.wrap Go.IntKind.u64 (16 : Int)) + Go.IntKind.wrap Go.IntKind.u64 (Go.IntKind.wrap Go.IntKind.u8 (Go.IntKind.wrap Go.IntKind.u8 (r - (97 : Int)) + (10 : Int)))), x.2.2.2.2.2.2.2.1, x.2.2.2.2.2.2.2.2.1, IntKind.wrap .i64 (x.2.2.2.2.2.2.2.2.2 + (1 : Int)))) else some (Stp.out (Sum.inr ((0 : Int), true))) else some (Stp.out (Sum.inr ((0 : Int), true))) else some (Stp.out (Sum.inl (x.2.2.1, x.2.2.2.2.2.1, x.2.2.2.2.2.2.1)))
noncomputable def m_internal_strconv_ParseUint_16 : Tup p_internal_strconv_ParseUint_16 → Option (Tup q_internal_strconv_ParseUint_16) := fun (x : List UInt8 × PUnit × PUnit) => bif decide (x.1 = Array.toList (ByteArray.data { data := #[] })) then some ((0 : Int), true) else Option.bind (shlI Go.IntKind.u64 (1 : Int) (Go.IntKind.wrap Go.IntKind.u64 (64 : Int))) fun (n : Int) => Option.bind (loopO m_internal_strconv_ParseUint_16_0 ((), decide ((16 : Int) = (0 : Int)), x.1, (1152921504606846976 : Int), Go.IntKind.wrap Go.IntKind.u64 (n - (1 : Int)), false, (0 : Int), x.1, (↑(List.length x.1) : Int), (0 : Int))) fun (y : List UInt8 × Bool × Int ⊕ Int × Bool) => selim (fun (y : List UInt8 × Bool × Int) => bif y.2.1 then none else some (y.2.2, false)) (fun (y : Int × Bool) => some (y.1, y.2)) y
noncomputable def cx_internal_strconv_ParseUint_16 : Cx := ⟨tb, lookE [(66, e_internal_strconv_lower)], lookS []⟩
theorem ck_internal_strconv_ParseUint_16 : CxOK Tryz.prog (cx_internal_strconv_ParseUint_16) := cx_ok tb_ok (.cons ok_internal_strconv_lower Tryz.call66 .nil)
noncomputable def c_internal_strconv_ParseUint_16_0 : Code := loopAt (Go.Proofs.Tryz.f62.body.getD .skip) 0
noncomputable def l_internal_strconv_ParseUint_16_0 : LEnt := ⟨p_internal_strconv_ParseUint_16_0, x_internal_strconv_ParseUint_16_0, loopO (m_internal_strconv_ParseUint_16_0)⟩
theorem lo_internal_strconv_ParseUint_16_0 : LOK Tryz.prog 172 0 false (l_internal_strconv_ParseUint_16_0) c_internal_strconv_ParseUint_16_0 := loop_ok (body := m_internal_strconv_ParseUint_16_0) (L := lookL []) (ck_internal_strconv_ParseUint_16) mixed (ls_ok (l := []) (by kernel_rfl) .nil) (by intro x; kernel_rfl) (fun x y h => loopO_iff.1 h)
noncomputable def e_internal_strconv_ParseUint_16 : Ent := ⟨0, p_internal_strconv_ParseUint_16, q_internal_strconv_ParseUint_16, m_internal_strconv_ParseUint_16⟩
theorem ok_internal_strconv_ParseUint_16 : FnOK Tryz.prog 62 e_internal_strconv_ParseUint_16 := fn_ok (L := lookL [(3, l_internal_strconv_ParseUint_16_0)]) ck_internal_strconv_ParseUint_16 mixed Tryz.func62 rfl (by kernel_rfl) (by kernel_rfl) (ls_ok (l := [(3, c_internal_strconv_ParseUint_16_0)]) (by kernel_rfl) (.cons rfl (lo_internal_strconv_ParseUint_16_0) .nil)) (by intro x; kernel_rfl)
abbrev p_strconv_ParseUint_16 : Pt := [(0, .str), (1, .intc .i64 16), (2, .intc .i64 64)]
abbrev q_strconv_ParseUint_16 : Pt := [(0, .int .u64), (1, .err)]
noncomputable def m_strconv_ParseUint_16 : Tup p_strconv_ParseUint_16 → Option (Tup q_strconv_ParseUint_16) := fun (x : List UInt8 × PUnit × PUnit) => Option.bind (m_internal_strconv_ParseUint_16 (x.1, (), ())) fun (r : Int × Bool) => bif !!r.2 then none else some (r.1, false)
noncomputable def cx_strconv_ParseUint_16 : Cx := ⟨tb, lookE [(62, e_internal_strconv_ParseUint_16)], lookS []⟩
theorem ck_strconv_ParseUint_16 : CxOK Tryz.prog (cx_strconv_ParseUint_16) := cx_ok tb_ok (.cons ok_internal_strconv_ParseUint_16 Tryz.call62 .nil)
noncomputable def e_strconv_ParseUint_16 : Ent := ⟨0, p_strconv_ParseUint_16, q_strconv_ParseUint_16, m_strconv_ParseUint_16⟩
theorem ok_strconv_ParseUint_16 : FnOK Tryz.prog 57 e_strconv_ParseUint_16 := fn_ok (L := lookL []) ck_strconv_ParseUint_16 mixed Tryz.func57 rfl (by kernel_rfl) (by kernel_rfl) (ls_ok (l := []) (by kernel_rfl) .nil) (by intro x; kernel_rfl)
abbrev p_cascadia_parser_parseEscape : Pt := [(0, .blk (.rc .str [(.int .i64), (.int .i64), .bool] 0) 56)]
abbrev q_cascadia_parser_parseEscape : Pt := [(0, .str), (1, .err), (1000, .blk (.rc .str [(.int .i64), (.int .i64), .bool] 0) 56)]
abbrev p_cascadia_parser_parseEscape_0 : Pt := [(0, .blk (.rc .str [(.int .i64), (.int .i64), .bool] 0) 56), (4, .int .i64), (6, .int .i64)]
abbrev x_cascadia_parser_parseEscape_0 : List (Xt × Pt) := [(.ex 1, [(0, .blk (.rc .str [(.int .i64), (.int .i64), .bool] 0) 56), (4, .int .i64), (6, .int .i64)])]
noncomputable def m_cascadia_parser_parseEscape_0 : Tup p_cascadia_parser_parseEscape_0 → Option (Stp (Tup p_cascadia_parser_parseEscape_0) (SumT (x_cascadia_parser_parseEscape_0.map (·.2)))) := fun (x : (List UInt8 × Int × Int × Bool) × Int × Int) => bif decide (x.2.2 < IntKind.wrap .i64 (x.2.1 + (6 : Int))) then bif decide (x.2.2 < (↑(List.length x.1.1) : Int)) then Option.bind (atI x.1.1 x.2.2) fun (c : UInt8) => Option.bind (m_cascadia_hexDigit (↑(UInt8.toNat c) : Int)) fun (r : Bool) => bif r then some (Stp.nx ((x.1.1, x.1.2.1, x.1.2.2.1, x.1.2.2.2), x.2.1, IntKind.wrap .i64 (x.2.2 + (1 : Int)))) else some (Stp.out ((x.1.1, x.1.2.1, x.1.2.2.1, x.1.2.2.2), x.2.1, x.2.2)) else some (Stp.out ((x.1.1, x.1.2.1, x.1.2.2.1, x.1.2.2.2), x.2.1, x.2.2)) else some (Stp.out ((x.1.1, x.1.2.1, x.1.2.2.1, x.1.2.2.2), x.2.1, x.2.2))
noncomputable def m_cascadia_parser_parseEscape : Tup p_cascadia_parser_parseEscape → Option (Tup q_cascadia_parser_parseEscape) := fun (x : List UInt8 × Int × Int × Bool) => bif decide ((↑(List.length x.1) : Int) < IntKind.wrap .i64 (x.2.1 + (2 : Int))) then Option.bind (m_errors_New [(105 : UInt8), (110 : UInt8), (118 : UInt8), (97 : UInt8), (108 : UInt8), (105 : UInt8), (100 : UInt8), (32 : UInt8), (101 : UInt8), (115 : UInt8), (99 : UInt8), (97 : UInt8), (112 : UInt8), (101 : UInt8), (32 : UInt8), (115 : UInt8), (101 : UInt8), (113 : UInt8), (117 : UInt8), (101 : UInt8), (110 : UInt8), (99 : UInt8), (101 : UInt8)]) fun (r : Bool) => some ([], r, x.1, x.2.1, x.2.2.1, x.2.2.2) else Option.bind (atI x.1 x.2.1) fun (c : UInt8) => bif decide ((↑(UInt8.toNat c) : Int) ≠ (92 : Int)) then Option.bind (m_errors_New [(105 : UInt8), (110 : UInt8), (118 : UInt8), (97 : UInt8), (108 : UInt8), (105 : UInt8), (100 : UInt8), (32 : UInt8), (101 : UInt8), (115 : UInt8), (99 : UInt8), (97 : UInt8), (112 : UInt8), (101 : UInt8), (32 : UInt8), (115 : UInt8), (101 : UInt8), (113 : UInt8), (117 : UInt8), (101 : UInt8), (110 : UInt8), (99 : UInt8), (101 : UInt8)]) fun (r : Bool) => some ([], r, x.1, x.2.1, x.2.2.1, x.2.2.2) else Option.bind (atI x.1 (IntKind.wrap .i64 (x.2.1 + (1 : Int)))) fun (c : UInt8) => bif decide ((↑(UInt8.toNat c) : Int) = (13 : Int)) then Option.bind (m_errors_New [(101 : UInt8), (115 : UInt8), (99 : UInt8), (97 : UInt8), (112 : UInt8), (101 : UInt8), (100 : UInt8), (32 : UInt8), (108 : UInt8), (105 : UInt8), (110 : UInt8), (101 : UInt8), (32 : UInt8), (101 : UInt8), (110 : UInt8), (100 : UInt8), (105 : UInt8), (110 : UInt8), (103 : UInt8), (32 : UInt8), (111 : UInt8), (117 : UInt8), (116 : UInt8), (115 : UInt8), (105 : UInt8), (100 : UInt8), (101 : UInt8), (32 : UInt8), (115 : UInt8), (116 : UInt8), (114 : UInt8), (105 : UInt8), (110 : UInt8), (103 : UInt8)]) fun (r : Bool) => some ([], r, x.1, x.2.1, x.2.2.1, x.2.2.2) else bif decide ((↑(UInt8.toNat c) : Int) = (10 : Int)) then Option.bind (m_errors_New [(101 : UInt8), (115 : UInt8), (99 : UInt8), (97 : UInt8), (112 : UInt8), (101 : UInt8), (100 : UInt8), (32 : UInt8), (108 : UInt8), (105 : UInt8), (110 : UInt8), (101 : UInt8), (32 : UInt8), (101 : UInt8), (110 : UInt8), (100 : UInt8), (105 : UInt8), (110 : UInt8), (103 : UInt8), (32 : UInt8), (111 : UInt8), (117 : UInt8), (116 : UInt8), (115 : UInt8), (105 : UInt8), (100 : UInt8), (101 : UInt8), (32 : UInt8), (115 : UInt8), (116 : UInt8), (114 : UInt8), (105 : UInt8), (110 : UInt8), (103 : UInt8)]) fun (r : Bool) => some ([], r, x.1, x.2.1, x.2.2.1, x.2.2.2) else bif decide ((↑(UInt8.toNat c) : Int) = (12 : Int)) then Option.bind (m_errors_New [(101 : UInt8), (115 : UInt8), (99 : UInt8), (97 : UInt8), (112 : UInt8), (101 : UInt8), (100 : UInt8), (32 : UInt8), (108 : UInt8), (105 : UInt8), (110 : UInt8), (101 : UInt8), (32 : UInt8), (101 : UInt8), (110 : UInt8), (100 : UInt8), (105 : UInt8), (110 : UInt8), (103 : UInt8), (32 : UInt8), (111 : UInt8), (117 : UInt8), (116 : UInt8), (115 : UInt8), (105 : UInt8), (100 : UInt8), (101 : UInt8), (32 : UInt8), (115 : UInt8), (116 : UInt8), (114 : UInt8), (105 : UInt8), (110 : UInt8), (103 : UInt8)]) fun (r : Bool) => some ([], r, x.1, x.2.1, x.2.2.1, x.2.2.2) else Option.bind (m_cascadia_hexDigit (↑(UInt8.toNat c) : Int)) fun (r : Bool) => bif r then Option.bind (loopO m_cascadia_parser_parseEscape_0 ((x.1, x.2.1, x.2.2.1, x.2.2.2), IntKind.wrap .i64 (x.2.1 + (1 : Int)), IntKind.wrap .i64 (x.2.1 + (1 : Int)))) fun (y : (List UInt8 × Int × Int × Bool) × Int × Int) => Option.bind (subL y.1.1 y.2.1 y.2.2) fun (m : List UInt8) => Option.bind (m_strconv_ParseUint_16 (m, (), ())) fun (r : Int × Bool) => bif decide (y.2.2 < (↑(List.length y.1.1) : Int)) then Option.bind (atI y.1.1 y.2.2) fun (c : UInt8) => bif decide ((↑(UInt8.toNat c) : Int) = (13 : Int)) then bif decide (IntKind.wrap .i64 (y.2.2 + (1 : Int)) < (↑(List.length y.1.1) : Int)) then Option.bind (atI y.1.1 (IntKind.wrap .i64 (y.2.2 + (1 : Int)))) fun (c : UInt8) => bif decide ((↑(UInt8.toNat c) : Int) = (10 : Int)) then some (enc8 (Go.IntKind.wrap Go.IntKind.i32 r.1), false, y.1.1, IntKind.wrap .i64 (IntKind.wrap .i64 (y.2.2 + (1 : Int)) + (1 : Int)), y.1.2.2.1, y.1.2.2.2) else some (enc8 (Go.IntKind.wrap Go.IntKind.i32 r.1), false, y.1.1, IntKind.wrap .i64 (y.2.2 + (1 : Int)), y.1.2.2.1, y.1.2.2.2) else some (enc8 (Go.IntKind.wrap Go.IntKind.i32 r.1), false, y.1.1, IntKind.wrap .i64 (y.2.2 + (1 : Int)), y.1.2.2.1, y.1.2.2.2) else bif decide ((↑(UInt8.toNat c) : Int) = (32 : Int)) then some (enc8 (Go.IntKind.wrap Go.IntKind.i32 r.1), false, y.1.1, IntKind.wrap .i64 (y.2.2 + (1 : Int)), y.1.2.2.1, y.1.2.2.2) else bif decide ((↑(UInt8.toNat c) : Int) = (9 : Int)) then some (enc8 (Go.IntKind.wrap Go.IntKind.i32 r.1), false, y.1.1, IntKind.wrap .i64 (y.2.2 + (1 : Int)), y.1.2.2.1, y.1.2.2.2) else bif decide ((↑(UInt8.toNat c) : Int) = (10 : Int)) then some (enc8 (Go.IntKind.wrap Go.IntKind.i32 r.1), false, y.1.1, IntKind.wrap .i64 (y.2.2 + (1 : Int)), y.1.2.2.1, y.1.2.2.2) else bif decide ((↑(UInt8.toNat c) : Int) = (12 : Int)) then some (enc8 (Go.IntKind.wrap Go.IntKind.i32 r.1), false, y.1.1, IntKind.wrap .i64 (y.2.2 + (1 : Int)), y.1.2.2.1, y.1.2.2.2) else some (enc8 (Go.IntKind.wrap Go.IntKind.i32 r.1), false, y.1.1, y.2.2, y.1.2.2.1, y.1.2.2.2) else some (enc8 (Go.IntKind.wrap Go.IntKind.i32 r.1), false, y.1.1, y.2.2, y.1.2.2.1, y.1.2.2.2) else Option.bind (subL x.1 (IntKind.wrap .i64 (x.2.1 + (1 : Int))) (IntKind.wrap .i64 (IntKind.wrap .i64 (x.2.1 + (1 : Int)) + (1 : Int)))) fun (m : List UInt8) => some (m, false, x.1, IntKind.wrap .i64 (x.2.1 + (2 : Int)), x.2.2.1, x.2.2.2)
noncomputable def cx_cascadia_parser_parseEscape : Cx := ⟨tb, lookE [(33, e_errors_New), (56, e_cascadia_hexDigit), (57, e_strconv_ParseUint_16)], lookS [(1, [(true, 0), (true, 1), (true, 2), (true, 3), (true, 4), (true, 5), (true, 6), (true, 7), (true, 8), (true, 9), (true, 10), (true, 11), (true, 12), (true, 13), (true, 14), (true, 15), (true, 16), (true, 17), (true, 18), (true, 19), (true, 20), (true, 21), (true, 22)])]⟩
theorem ck_cascadia_parser_parseEscape : CxOK Tryz.prog (cx_cascadia_parser_parseEscape) := cx_ok tb_ok (.cons ok_errors_New Tryz.call33 (.cons ok_cascadia_hexDigit Tryz.call56 (.cons ok_strconv_ParseUint_16 Tryz.call57 .nil)))
noncomputable def c_cascadia_parser_parseEscape_0 : Code := loopAt (Go.Proofs.Tryz.f46.body.getD .skip) 0
noncomputable def l_cascadia_parser_parseEscape_0 : LEnt := ⟨p_cascadia_parser_parseEscape_0, x_cascadia_parser_parseEscape_0, loopO (m_cascadia_parser_parseEscape_0)⟩
theorem lo_cascadia_parser_parseEscape_0 : LOK Tryz.prog 160 1 false (l_cascadia_parser_parseEscape_0) c_cascadia_parser_parseEscape_0 := loop_ok (body := m_cascadia_parser_parseEscape_0) (L := lookL []) (ck_cascadia_parser_parseEscape) mixed (ls_ok (l := []) (by kernel_rfl) .nil) (by intro x; kernel_rfl) (fun x y h => loopO_iff.1 h)
noncomputable def e_cascadia_parser_parseEscape : Ent := ⟨1, p_cascadia_parser_parseEscape, q_cascadia_parser_parseEscape, m_cascadia_parser_parseEscape⟩
theorem ok_cascadia_parser_parseEscape : FnOK Tryz.prog 46 e_cascadia_parser_parseEscape := fn_ok (L := lookL [(1, l_cascadia_parser_parseEscape_0)]) ck_cascadia_parser_parseEscape mixed Tryz.func46 rfl (by kernel_rfl) (by kernel_rfl) (ls_ok (l := [(1, c_cascadia_parser_parseEscape_0)]) (by kernel_rfl) (.cons rfl (lo_cascadia_parser_parseEscape_0) .nil)) (by intro x; kernel_rfl)
abbrev p_cascadia_parser_parseName : Pt := [(0, .blk (.rc .str [(.int .i64), (.int .i64), .bool] 0) 56)]
abbrev q_cascadia_parser_parseName : Pt := [(0, .str), (1, .err), (1000, .blk (.rc .str [(.int .i64), (.int .i64), .bool] 0) 56)]
abbrev p_cascadia_parser_parseName_0_0 : Pt := [(0, .blk (.rc .str [(.int .i64), (.int .i64), .bool] 0) 56), (2, .str), (4, .int .i64), (6, .int .i64)]
abbrev x_cascadia_parser_parseName_0_0 : List (Xt × Pt) := [(.ex 3, [(0, .blk (.rc .str [(.int .i64), (.int .i64), .bool] 0) 56), (2, .str), (4, .int .i64), (6, .int .i64)])]
noncomputable def m_cascadia_parser_parseName_0_0 : Tup p_cascadia_parser_parseName_0_0 → Option (Stp (Tup p_cascadia_parser_parseName_0_0) (SumT (x_cascadia_parser_parseName_0_0.map (·.2)))) := fun (x : (List UInt8 × Int × Int × Bool) × List UInt8 × Int × Int) => bif decide (x.2.2.1 < (↑(List.length x.1.1) : Int)) then Option.bind (atI x.1.1 x.2.2.1) fun (c : UInt8) => Option.bind (m_cascadia_nameChar (↑(UInt8.toNat c) : Int)) fun (r : Bool) => bif r then some (Stp.nx ((x.1.1, x.1.2.1, x.1.2.2.1, x.1.2.2.2), x.2.1, IntKind.wrap .i64 (x.2.2.1 + (1 : Int)), x.2.2.2)) else some (Stp.out ((x.1.1, x.1.2.1, x.1.2.2.1, x.1.2.2.2), x.2.1, x.2.2.1, x.2.2.2)) else some (Stp.out ((x.1.1, x.1.2.1, x.1.2.2.1, x.1.2.2.2), x.2.1, x.2.2.1, x.2.2.2))
abbrev p_cascadia_parser_parseName_0 : Pt := [(0, .blk (.rc .str [(.int .i64), (.int .i64), .bool] 0) 56), (2, .str), (4, .int .i64)]
abbrev x_cascadia_parser_parseName_0 : List (Xt × Pt) := [(.ex 0, [(0, .blk (.rc .str [(.int .i64), (.int .i64), .bool] 0) 56), (2, .str), (4, .int .i64)]), (.rt, [(0, .blk (.rc .str [(.int .i64), (.int .i64), .bool] 0) 56), (2, .str), (3, .err)])]
noncomputable def m_cascadia_parser_parseName_0 : Tup p_cascadia_parser_parseName_0 → Option (Stp (Tup p_cascadia_parser_parseName_0) (SumT (x_cascadia_parser_parseName_0.map (·.2)))) := fun (x : (List UInt8 × Int × Int × Bool) × List UInt8 × Int) => bif decide (x.2.2 < (↑(List.length x.1.1) : Int)) then Option.bind (atI x.1.1 x.2.2) fun (c : UInt8) => Option.bind (m_cascadia_nameChar (↑(UInt8.toNat c) : Int)) fun (r : Bool) => bif r then Option.bind (loopO m_cascadia_parser_parseName_0_0 ((x.1.1, x.1.2.1, x.1.2.2.1, x.1.2.2.2), x.2.1, x.2.2, x.2.2)) fun (y : (List UInt8 × Int × Int × Bool) × List UInt8 × Int × Int) => Option.bind (subL y.1.1 y.2.2.2 y.2.2.1) fun (m : List UInt8) => Option.bind (catS y.2.1 m) fun (r : List UInt8) => some (Stp.nx ((y.1.1, y.1.2.1, y.1.2.2.1, y.1.2.2.2), r, y.2.2.1)) else bif decide ((↑(UInt8.toNat c) : Int) = (92 : Int)) then Option.bind (m_cascadia_parser_parseEscape (x.1.1, x.2.2, x.1.2.2.1, x.1.2.2.2)) fun (r : List UInt8 × Bool × List UInt8 × Int × Int × Bool) => bif !!r.2.1 then some (Stp.out (Sum.inr ((r.2.2.1, r.2.2.2.1, r.2.2.2.2.1, r.2.2.2.2.2), [], r.2.1))) else Option.bind (catS x.2.1 r.1) fun (r_1 : List UInt8) => some (Stp.nx ((r.2.2.1, r.2.2.2.1, r.2.2.2.2.1, r.2.2.2.2.2), r_1, r.2.2.2.1)) else some (Stp.out (Sum.inl ((x.1.1, x.1.2.1, x.1.2.2.1, x.1.2.2.2), x.2.1, x.2.2))) else some (Stp.out (Sum.inl ((x.1.1, x.1.2.1, x.1.2.2.1, x.1.2.2.2), x.2.1, x.2.2)))
noncomputable def m_cascadia_parser_parseName : Tup p_cascadia_parser_parseName → Option (Tup q_cascadia_parser_parseName) := fun (x : List UInt8 × Int × Int × Bool) => Option.bind (loopO m_cascadia_parser_parseName_0 ((x.1, x.2.1, x.2.2.1, x.2.2.2), [], x.2.1)) fun (y : (List UInt8 × Int × Int × Bool) × List UInt8 × Int ⊕ (List UInt8 × Int × Int × Bool) × List UInt8 × Bool) => selim (fun (y : (List UInt8 × Int × Int × Bool) × List UInt8 × Int) => bif decide (y.2.1 = Array.toList (ByteArray.data { data := #[] })) then Option.bind (m_errors_New [(101 : UInt8), (120 : UInt8), (112 : UInt8), (101 : UInt8), (99 : UInt8), (116 : UInt8), (101 : UInt8), (100 : UInt8), (32 : UInt8), (110 : UInt8), (97 : UInt8), (109 : UInt8), (101 : UInt8), (44 : UInt8), (32 : UInt8), (102 : UInt8), (111 : UInt8), (117 : UInt8), (110 : UInt8), (100 : UInt8), (32 : UInt8), (69 : UInt8), (79 : UInt8), (70 : UInt8), (32 : UInt8), (105 : UInt8), (110 : UInt8), (115 : UInt8), (116 : UInt8), (101 : UInt8), (97 : UInt8), (100 : UInt8)]) fun (r : Bool) => some ([], r, y.1.1, y.1.2.1, y.1.2.2.1, y.1.2.2.2) else some (y.2.1, false, y.1.1, y.2.2, y.1.2.2.1, y.1.2.2.2)) (fun (y : (List UInt8 × Int × Int × Bool) × List UInt8 × Bool) => some (y.2.1, y.2.2, y.1.1, y.1.2.1, y.1.2.2.1, y.1.2.2.2)) y
noncomputable def cx_cascadia_parser_parseName : Cx := ⟨tb, lookE [(50, e_cascadia_nameChar), (46, e_cascadia_parser_parseEscape), (33, e_errors_New)], lookS []⟩
theorem ck_cascadia_parser_parseName : CxOK Tryz.prog (cx_cascadia_parser_parseName) := cx_ok tb_ok (.cons ok_cascadia_nameChar Tryz.call50 (.cons ok_cascadia_parser_parseEscape Tryz.call46 (.cons ok_errors_New Tryz.call33 .nil)))
noncomputable def c_cascadia_parser_parseName_0_0 : Code := loopAt (loopAt (Go.Proofs.Tryz.f44.body.getD .skip) 0) 0
noncomputable def l_cascadia_parser_parseName_0_0 : LEnt := ⟨p_cascadia_parser_parseName_0_0, x_cascadia_parser_parseName_0_0, loopO (m_cascadia_parser_parseName_0_0)⟩
theorem lo_cascadia_parser_parseName_0_0 : LOK Tryz.prog 87 1 false (l_cascadia_parser_parseName_0_0) c_cascadia_parser_parseName_0_0 := loop_ok (body := m_cascadia_parser_parseName_0_0) (L := lookL []) (ck_cascadia_parser_parseName) mixed (ls_ok (l := []) (by kernel_rfl) .nil) (by intro x; kernel_rfl) (fun x y h => loopO_iff.1 h)
noncomputable def c_cascadia_parser_parseName_0 : Code := loopAt (Go.Proofs.Tryz.f44.body.getD .skip) 0
noncomputable def l_cascadia_parser_parseName_0 : LEnt := ⟨p_cascadia_parser_parseName_0, x_cascadia_parser_parseName_0, loopO (m_cascadia_parser_parseName_0)⟩
theorem lo_cascadia_parser_parseName_0 : LOK Tryz.prog 87 1 false (l_cascadia_parser_parseName_0) c_cascadia_parser_parseName_0 := loop_ok (body := m_cascadia_parser_parseName_0) (L := lookL [(3, l_cascadia_parser_parseName_0_0)]) (ck_cascadia_parser_parseName) mixed (ls_ok (l := [(3, c_cascadia_parser_parseName_0_0)]) (by kernel_rfl) (.cons rfl (lo_cascadia_parser_parseName_0_0) .nil)) (by intro x; kernel_rfl) (fun x y h => loopO_iff.1 h)
noncomputable def e_cascadia_parser_parseName : Ent := ⟨1, p_cascadia_parser_parseName, q_cascadia_parser_parseName, m_cascadia_parser_parseName⟩
theorem ok_cascadia_parser_parseName : FnOK Tryz.prog 44 e_cascadia_parser_parseName := fn_ok (L := lookL [(0, l_cascadia_parser_parseName_0)]) ck_cascadia_parser_parseName mixed Tryz.func44 rfl (by kernel_rfl) (by kernel_rfl) (ls_ok (l := [(0, c_cascadia_parser_parseName_0)]) (by kernel_rfl) (.cons rfl (lo_cascadia_parser_parseName_0) .nil)) (by intro x; kernel_rfl)
abbrev p_cascadia_parser_parseString : Pt := [(0, .blk (.rc .str [(.int .i64), (.int .i64), .bool] 0) 56)]
abbrev q_cascadia_parser_parseString : Pt := [(0, .str), (1, .err), (1000, .blk (.rc .str [(.int .i64), (.int .i64), .bool] 0) 56)]
abbrev p_cascadia_parser_parseString_0_0 : Pt := [(0, .blk (.rc .str [(.int .i64), (.int .i64), .bool] 0) 56), (2, .str), (4, .int .i64), (5, .int .u8), (9, .int .i64)]
abbrev x_cascadia_parser_parseString_0_0 : List (Xt × Pt) := [(.ex 3, [(0, .blk (.rc .str [(.int .i64), (.int .i64), .bool] 0) 56), (2, .str), (4, .int .i64), (5, .int .u8), (9, .int .i64)])]
noncomputable def m_cascadia_parser_parseString_0_0 : Tup p_cascadia_parser_parseString_0_0 → Option (Stp (Tup p_cascadia_parser_parseString_0_0) (SumT (x_cascadia_parser_parseString_0_0.map (·.2)))) := fun (x : (List UInt8 × Int × Int × Bool) × List UInt8 × Int × Int × Int) => bif decide (x.2.2.1 < (↑(List.length x.1.1) : Int)) then Option.bind (atI x.1.1 x.2.2.1) fun (c : UInt8) => bif decide ((↑(UInt8.toNat c) : Int) = x.2.2.2.1) then some (Stp.out ((x.1.1, x.1.2.1, x.1.2.2.1, x.1.2.2.2), x.2.1, x.2.2.1, x.2.2.2.1, x.2.2.2.2)) else bif decide ((↑(UInt8.toNat c) : Int) = (92 : Int)) then some (Stp.out ((x.1.1, x.1.2.1, x.1.2.2.1, x.1.2.2.2), x.2.1, x.2.2.1, x.2.2.2.1, x.2.2.2.2)) else bif decide ((↑(UInt8.toNat c) : Int) = (13 : Int)) then some (Stp.out ((x.1.1, x.1.2.1, x.1.2.2.1, x.1.2.2.2), x.2.1, x.2.2.1, x.2.2.2.1, x.2.2.2.2)) else bif decide ((↑(UInt8.toNat c) : Int) = (10 : Int)) then some (Stp.out ((x.1.1, x.1.2.1, x.1.2.2.1, x.1.2.2.2), x.2.1, x.2.2.1, x.2.2.2.1, x.2.2.2.2)) else bif decide ((↑(UInt8.toNat c) : Int) = (12 : Int)) then some (Stp.out ((x.1.1, x.1.2.1, x.1.2.2.1, x.1.2.2.2), x.2.1, x.2.2.1, x.2.2.2.1, x.2.2.2.2)) else some (Stp.nx ((x.1.1, x.1.2.1, x.1.2.2.1, x.1.2.2.2), x.2.1, IntKind.wrap .i64 (x.2.2.1 + (1 : Int)), x.2.2.2.1, x.2.2.2.2)) else some (Stp.out ((x.1.1, x.1.2.1, x.1.2.2.1, x.1.2.2.2), x.2.1, x.2.2.1, x.2.2.2.1, x.2.2.2.2))
abbrev p_cascadia_parser_parseString_0 : Pt := [(0, .blk (.rc .str [(.int .i64), (.int .i64), .bool] 0) 56), (2, .str), (4, .int .i64), (5, .int .u8)]
abbrev x_cascadia_parser_parseString_0 : List (Xt × Pt) := [(.ex 0, [(0, .blk (.rc .str [(.int .i64), (.int .i64), .bool] 0) 56), (2, .str), (4, .int .i64)]), (.rt, [(0, .blk (.rc .str [(.int .i64), (.int .i64), .bool] 0) 56), (2, .str), (3, .err)])]
noncomputable def m_cascadia_parser_parseString_0 : Tup p_cascadia_parser_parseString_0 → Option (Stp (Tup p_cascadia_parser_parseString_0) (SumT (x_cascadia_parser_parseString_0.map (·.2)))) := fun (x : (List UInt8 × Int × Int × Bool) × List UInt8 × Int × Int) => bif decide (x.2.2.1 < (↑(List.length x.1.1) : Int)) then Option.bind (atI x.1.1 x.2.2.1) fun (c : UInt8) => bif decide ((↑(UInt8.toNat c) : Int) = (92 : Int)) then bif decide (IntKind.wrap .i64 (x.2.2.1 + (1 : Int)) < (↑(List.length x.1.1) : Int)) then Option.bind (atI x.1.1 (IntKind.wrap .i64 (x.2.2.1 + (1 : Int)))) fun (c : UInt8) => bif decide ((↑(UInt8.toNat c) : Int) = (13 : Int)) then bif decide (IntKind.wrap .i64 (x.2.2.1 + (2 : Int)) < (↑(List.length x.1.1) : Int)) then Option.bind (atI x.1.1 (IntKind.wrap .i64 (x.2.2.1 + (2 : Int)))) fun (c : UInt8) => bif decide ((↑(UInt8.toNat c) : Int) = (10 : Int)) then some (Stp.nx ((x.1.1, x.1.2.1, x.1.2.2.1, x.1.2.2.2), x.2.1, IntKind.wrap .i64 (x.2.2.1 + (3 : Int)), x.2.2.2)) else some (Stp.nx ((x.1.1, x.1.2.1, x.1.2.2.1, x.1.2.2.2), x.2.1, IntKind.wrap .i64 (x.2.2.1 + (2 : Int)), x.2.2.2)) else some (Stp.nx ((x.1.1, x.1.2.1, x.1.2.2.1, x.1.2.2.2), x.2.1, IntKind.wrap .i64 (x.2.2.1 + (2 : Int)), x.2.2.2)) else bif decide ((↑(UInt8.toNat c) : Int) = (10 : Int)) then some (Stp.nx ((x.1.1, x.1.2.1, x.1.2.2.1, x.1.2.2.2), x.2.1, IntKind.wrap .i64 (x.2.2.1 + (2 : Int)), x.2.2.2)) else bif decide ((↑(UInt8.toNat c) : Int) = (12 : Int)) then some (Stp.nx ((x.1.1, x.1.2.1, x.1.2.2.1, x.1.2.2.2), x.2.1, IntKind.wrap .i64 (x.2.2.1 + (2 : Int)), x.2.2.2)) else Option.bind (m_cascadia_parser_parseEscape (x.1.1, x.2.2.1, x.1.2.2.1, x.1.2.2.2)) fun (r : List UInt8 × Bool × List UInt8 × Int × Int × Bool) => bif !!r.2.1 then some (Stp.out (Sum.inr ((r.2.2.1, r.2.2.2.1, r.2.2.2.2.1, r.2.2.2.2.2), [], r.2.1))) else Option.bind (catS x.2.1 r.1) fun (r_1 : List UInt8) => some (Stp.nx ((r.2.2.1, r.2.2.2.1, r.2.2.2.2.1, r.2.2.2.2.2), r_1, r.2.2.2.1, x.2.2.2)) else Option.bind (m_cascadia_parser_parseEscape (x.1.1, x.2.2.1, x.1.2.2.1, x.1.2.2.2)) fun (r : List UInt8 × Bool × List UInt8 × Int × Int × Bool) => bif !!r.2.1 then some (Stp.out (Sum.inr ((r.2.2.1, r.2.2.2.1, r.2.2.2.2.1, r.2.2.2.2.2), [], r.2.1))) else Option.bind (catS x.2.1 r.1) fun (r_1 : List UInt8) => some (Stp.nx ((r.2.2.1, r.2.2.2.1, r.2.2.2.2.1, r.2.2.2.2.2), r_1, r.2.2.2.1, x.2.2.2)) else bif decide ((↑(UInt8.toNat c) : Int) = x.2.2.2) then some (Stp.out (Sum.inl ((x.1.1, x.1.2.1, x.1.2.2.1, x.1.2.2.2), x.2.1, x.2.2.1))) else bif decide ((↑(UInt8.toNat c) : Int) = (13 : Int)) then Option.bind (m_errors_New [(117 : UInt8), (110 : UInt8), (101 : UInt8), (120 : UInt8), (112 : UInt8), (101 : UInt8), (99 : UInt8), (116 : UInt8), (101 : UInt8), (100 : UInt8), (32 : UInt8), (101 : UInt8), (110 : UInt8), (100 : UInt8), (32 : UInt8), (111 : UInt8), (102 : UInt8), (32 : UInt8), (108 : UInt8), (105 : UInt8), (110 : UInt8), (101 : UInt8), (32 : UInt8), (105 : UInt8), (110 : UInt8), (32 : UInt8), (115 : UInt8), (116 : UInt8), (114 : UInt8), (105 : UInt8), (110 : UInt8), (103 : UInt8)]) fun (r : Bool) => some (Stp.out (Sum.inr ((x.1.1, x.1.2.1, x.1.2.2.1, x.1.2.2.2), [], r))) else bif decide ((↑(UInt8.toNat c) : Int) = (10 : Int)) then Option.bind (m_errors_New [(117 : UInt8), (110 : UInt8), (101 : UInt8), (120 : UInt8), (112 : UInt8), (101 : UInt8), (99 : UInt8), (116 : UInt8), (101 : UInt8), (100 : UInt8), (32 : UInt8), (101 : UInt8), (110 : UInt8), (100 : UInt8), (32 : UInt8), (111 : UInt8), (102 : UInt8), (32 : UInt8), (108 : UInt8), (105 : UInt8), (110 : UInt8), (101 : UInt8), (32 : UInt8), (105 : UInt8), (110 : UInt8), (32 : UInt8), (115 : UInt8), (116 : UInt8), (114 : UInt8), (105 : UInt8), (110 : UInt8), (103 : UInt8)]) fun (r : Bool) => some (Stp.out (Sum.inr ((x.1.1, x.1.2.1, x.1.2.2.1, x.1.2.2.2), [], r))) else bif decide ((↑(UInt8.toNat c) : Int) = (12 : Int)) then Option.bind (m_errors_New [(117 : UInt8), (110 : UInt8), (101 : UInt8), (120 : UInt8), (112 : UInt8), (101 : UInt8), (99 : UInt8), (116 : UInt8), (101 : UInt8), (100 : UInt8), (32 : UInt8), (101 : UInt8), (110 : UInt8), (100 : UInt8), (32 : UInt8), (111 : UInt8), (102 : UInt8), (32 : UInt8), (108 : UInt8), (105 : UInt8), (110 : UInt8), (101 : UInt8), (32 : UInt8), (105 : UInt8), (110 : UInt8), (32 : UInt8), (115 : UInt8), (116 : UInt8), (114 : UInt8), (105 : UInt8), (110 : UInt8), (103 : UInt8)]) fun (r : Bool) => some (Stp.out (Sum.inr ((x.1.1, x.1.2.1, x.1.2.2.1, x.1.2.2.2), [], r))) else Option.bind (loopO m_cascadia_parser_parseString_0_0 ((x.1.1, x.1.2.1, x.1.2.2.1, x.1.2.2.2), x.2.1, x.2.2.1, x.2.2.2, x.2.2.1)) fun (y : (List UInt8 × Int × Int × Bool) × List UInt8 × Int × Int × Int) => Option.bind (subL y.1.1 y.2.2.2.2 y.2.2.1) fun (m : List UInt8) => Option.bind (catS y.2.1 m) fun (r : List UInt8) => some (Stp.nx ((y.1.1, y.1.2.1, y.1.2.2.1, y.1.2.2.2), r, y.2.2.1, y.2.2.2.1)) else some (Stp.out (Sum.inl ((x.1.1, x.1.2.1, x.1.2.2.1, x.1.2.2.2), x.2.1, x.2.2.1)))
noncomputable def m_cascadia_parser_parseString : Tup p_cascadia_parser_parseString → Option (Tup q_cascadia_parser_parseString) := fun (x : List UInt8 × Int × Int × Bool) => bif decide ((↑(List.length x.1) : Int) < IntKind.wrap .i64 (x.2.1 + (2 : Int))) then Option.bind (m_errors_New [(101 : UInt8), (120 : UInt8), (112 : UInt8), (101 : UInt8), (99 : UInt8), (116 : UInt8), (101 : UInt8), (100 : UInt8), (32 : UInt8), (115 : UInt8), (116 : UInt8), (114 : UInt8), (105 : UInt8), (110 : UInt8), (103 : UInt8), (44 : UInt8), (32 : UInt8), (102 : UInt8), (111 : UInt8), (117 : UInt8), (110 : UInt8), (100 : UInt8), (32 : UInt8), (69 : UInt8), (79 : UInt8), (70 : UInt8), (32 : UInt8), (105 : UInt8), (110 : UInt8), (115 : UInt8), (116 : UInt8), (101 : UInt8), (97 : UInt8), (100 : UInt8)]) fun (r : Bool) => some ([], r, x.1, x.2.1, x.2.2.1, x.2.2.2) else Option.bind (atI x.1 x.2.1) fun (c : UInt8) => Option.bind (loopO m_cascadia_parser_parseString_0 ((x.1, x.2.1, x.2.2.1, x.2.2.2), [], IntKind.wrap .i64 (x.2.1 + (1 : Int)), (↑(UInt8.toNat c) : Int))) fun (y : (List UInt8 × Int × Int × Bool) × List UInt8 × Int ⊕ (List UInt8 × Int × Int × Bool) × List UInt8 × Bool) => selim (fun (y : (List UInt8 × Int × Int × Bool) × List UInt8 × Int) => bif decide ((↑(List.length y.1.1) : Int) ≤ y.2.2) then Option.bind (m_errors_New [(69 : UInt8), (79 : UInt8), (70 : UInt8), (32 : UInt8), (105 : UInt8), (110 : UInt8), (32 : UInt8), (115 : UInt8), (116 : UInt8), (114 : UInt8), (105 : UInt8), (110 : UInt8), (103 : UInt8)]) fun (r : Bool) => some ([], r, y.1.1, y.1.2.1, y.1.2.2.1, y.1.2.2.2) else some (y.2.1, false, y.1.1, IntKind.wrap .i64 (y.2.2 + (1 : Int)), y.1.2.2.1, y.1.2.2.2)) (fun (y : (List UInt8 × Int × Int × Bool) × List UInt8 × Bool) => some (y.2.1, y.2.2, y.1.1, y.1.2.1, y.1.2.2.1, y.1.2.2.2)) y
noncomputable def cx_cascadia_parser_parseString : Cx := ⟨tb, lookE [(33, e_errors_New), (46, e_cascadia_parser_parseEscape)], lookS []⟩
theorem ck_cascadia_parser_parseString : CxOK Tryz.prog (cx_cascadia_parser_parseString) := cx_ok tb_ok (.cons ok_errors_New Tryz.call33 (.cons ok_cascadia_parser_parseEscape Tryz.call46 .nil))
noncomputable def c_cascadia_parser_parseString_0_0 : Code := loopAt (loopAt (Go.Proofs.Tryz.f37.body.getD .skip) 0) 0
noncomputable def l_cascadia_parser_parseString_0_0 : LEnt := ⟨p_cascadia_parser_parseString_0_0, x_cascadia_parser_parseString_0_0, loopO (m_cascadia_parser_parseString_0_0)⟩
theorem lo_cascadia_parser_parseString_0_0 : LOK Tryz.prog 176 1 false (l_cascadia_parser_parseString_0_0) c_cascadia_parser_parseString_0_0 := loop_ok (body := m_cascadia_parser_parseString_0_0) (L := lookL []) (ck_cascadia_parser_parseString) mixed (ls_ok (l := []) (by kernel_rfl) .nil) (by intro x; kernel_rfl) (fun x y h => loopO_iff.1 h)
noncomputable def c_cascadia_parser_parseString_0 : Code := loopAt (Go.Proofs.Tryz.f37.body.getD .skip) 0
noncomputable def l_cascadia_parser_parseString_0 : LEnt := ⟨p_cascadia_parser_parseString_0, x_cascadia_parser_parseString_0, loopO (m_cascadia_parser_parseString_0)⟩
theorem lo_cascadia_parser_parseString_0 : LOK Tryz.prog 176 1 false (l_cascadia_parser_parseString_0) c_cascadia_parser_parseString_0 := loop_ok (body := m_cascadia_parser_parseString_0) (L := lookL [(3, l_cascadia_parser_parseString_0_0)]) (ck_cascadia_parser_parseString) mixed (ls_ok (l := [(3, c_cascadia_parser_parseString_0_0)]) (by kernel_rfl) (.cons rfl (lo_cascadia_parser_parseString_0_0) .nil)) (by intro x; kernel_rfl) (fun x y h => loopO_iff.1 h)
noncomputable def e_cascadia_parser_parseString : Ent := ⟨1, p_cascadia_parser_parseString, q_cascadia_parser_parseString, m_cascadia_parser_parseString⟩
theorem ok_cascadia_parser_parseString : FnOK Tryz.prog 37 e_cascadia_parser_parseString := fn_ok (L := lookL [(0, l_cascadia_parser_parseString_0)]) ck_cascadia_parser_parseString mixed Tryz.func37 rfl (by kernel_rfl) (by kernel_rfl) (ls_ok (l := [(0, c_cascadia_parser_parseString_0)]) (by kernel_rfl) (.cons rfl (lo_cascadia_parser_parseString_0) .nil)) (by intro x; kernel_rfl)
abbrev p_internal_stringslite_HasPrefix : Pt := [(0, .str), (1, .str)]
abbrev q_internal_stringslite_HasPrefix : Pt := [(0, .bool)]
noncomputable def m_internal_stringslite_HasPrefix : Tup p_internal_stringslite_HasPrefix → Option (Tup q_internal_stringslite_HasPrefix) := fun (x : List UInt8 × List UInt8) => bif decide ((↑(List.length x.2) : Int) ≤ (↑(List.length x.1) : Int)) then Option.bind (subL x.1 (0 : Int) (↑(List.length x.2) : Int)) fun (m : List UInt8) => some (decide (m = x.2)) else some false
noncomputable def cx_internal_stringslite_HasPrefix : Cx := ⟨tb, lookE [], lookS []⟩
theorem ck_internal_stringslite_HasPrefix : CxOK Tryz.prog (cx_internal_stringslite_HasPrefix) := cx_ok tb_ok .nil
noncomputable def e_internal_stringslite_HasPrefix : Ent := ⟨0, p_internal_stringslite_HasPrefix, q_internal_stringslite_HasPrefix, m_internal_stringslite_HasPrefix⟩
theorem ok_internal_stringslite_HasPrefix : FnOK Tryz.prog 49 e_internal_stringslite_HasPrefix := fn_ok (L := lookL []) ck_internal_stringslite_HasPrefix mixed Tryz.func49 rfl (by kernel_rfl) (by kernel_rfl) (ls_ok (l := []) (by kernel_rfl) .nil) (by intro x; kernel_rfl)
abbrev p_strings_HasPrefix : Pt := [(0, .str), (1, .str)]
abbrev q_strings_HasPrefix : Pt := [(0, .bool)]
noncomputable def m_strings_HasPrefix : Tup p_strings_HasPrefix → Option (Tup q_strings_HasPrefix) := fun (x : List UInt8 × List UInt8) => Option.bind (m_internal_stringslite_HasPrefix (x.1, x.2)) fun (r : Bool) => some r
noncomputable def cx_strings_HasPrefix : Cx := ⟨tb, lookE [(49, e_internal_stringslite_HasPrefix)], lookS []⟩
theorem ck_strings_HasPrefix : CxOK Tryz.prog (cx_strings_HasPrefix) := cx_ok tb_ok (.cons ok_internal_stringslite_HasPrefix Tryz.call49 .nil)
noncomputable def e_strings_HasPrefix : Ent := ⟨0, p_strings_HasPrefix, q_strings_HasPrefix, m_strings_HasPrefix⟩
theorem ok_strings_HasPrefix : FnOK Tryz.prog 41 e_strings_HasPrefix := fn_ok (L := lookL []) ck_strings_HasPrefix mixed Tryz.func41 rfl (by kernel_rfl) (by kernel_rfl) (ls_ok (l := []) (by kernel_rfl) .nil) (by intro x; kernel_rfl)
abbrev p_cascadia_parser_parseIdentifier : Pt := [(0, .blk (.rc .str [(.int .i64), (.int .i64), .bool] 0) 56)]
abbrev q_cascadia_parser_parseIdentifier : Pt := [(0, .str), (1, .err), (1000, .blk (.rc .str [(.int .i64), (.int .i64), .bool] 0) 56)]
abbrev p_cascadia_parser_parseIdentifier_0 : Pt := [(0, .blk (.rc .str [(.int .i64), (.int .i64), .bool] 0) 56), (4, .int .i64)]
abbrev x_cascadia_parser_parseIdentifier_0 : List (Xt × Pt) := [(.ex 0, [(0, .blk (.rc .str [(.int .i64), (.int .i64), .bool] 0) 56), (4, .int .i64)])]
noncomputable def m_cascadia_parser_parseIdentifier_0 : Tup p_cascadia_parser_parseIdentifier_0 → Option (Stp (Tup p_cascadia_parser_parseIdentifier_0) (SumT (x_cascadia_parser_parseIdentifier_0.map (·.2)))) := fun (x : (List UInt8 × Int × Int × Bool) × Int) => bif decide (x.1.2.1 < (↑(List.length x.1.1) : Int)) then Option.bind (atI x.1.1 x.1.2.1) fun (c : UInt8) => bif decide ((↑(UInt8.toNat c) : Int) = (45 : Int)) then some (Stp.nx ((x.1.1, IntKind.wrap .i64 (x.1.2.1 + (1 : Int)), x.1.2.2.1, x.1.2.2.2), IntKind.wrap .i64 (x.2 + (1 : Int)))) else some (Stp.out ((x.1.1, x.1.2.1, x.1.2.2.1, x.1.2.2.2), x.2)) else some (Stp.out ((x.1.1, x.1.2.1, x.1.2.2.1, x.1.2.2.2), x.2))
noncomputable def m_cascadia_parser_parseIdentifier : Tup p_cascadia_parser_parseIdentifier → Option (Tup q_cascadia_parser_parseIdentifier) := fun (x : List UInt8 × Int × Int × Bool) => Option.bind (loopO m_cascadia_parser_parseIdentifier_0 ((x.1, x.2.1, x.2.2.1, x.2.2.2), (0 : Int))) fun (y : (List UInt8 × Int × Int × Bool) × Int) => bif decide ((↑(List.length y.1.1) : Int) ≤ y.1.2.1) then Option.bind (m_errors_New [(101 : UInt8), (120 : UInt8), (112 : UInt8), (101 : UInt8), (99 : UInt8), (116 : UInt8), (101 : UInt8), (100 : UInt8), (32 : UInt8), (105 : UInt8), (100 : UInt8), (101 : UInt8), (110 : UInt8), (116 : UInt8), (105 : UInt8), (102 : UInt8), (105 : UInt8), (101 : UInt8), (114 : UInt8), (44 : UInt8), (32 : UInt8), (102 : UInt8), (111 : UInt8), (117 : UInt8), (110 : UInt8), (100 : UInt8), (32 : UInt8), (69 : UInt8), (79 : UInt8), (70 : UInt8), (32 : UInt8), (105 : UInt8), (110 : UInt8), (115 : UInt8), (116 : UInt8), (101 : UInt8), (97 : UInt8), (100 : UInt8)]) fun (r : Bool) => some ([], r, y.1.1, y.1.2.1, y.1.2.2.1, y.1.2.2.2) else Option.bind (atI y.1.1 y.1.2.1) fun (c : UInt8) => Option.bind (m_cascadia_nameStart (↑(UInt8.toNat c) : Int)) fun (r : Bool) => bif r then Option.bind (m_cascadia_parser_parseName (y.1.1, y.1.2.1, y.1.2.2.1, y.1.2.2.2)) fun (r : List UInt8 × Bool × List UInt8 × Int × Int × Bool) => bif decide ((0 : Int) < y.2) then bif !r.2.1 then Option.bind (m_strings_Repeat ([(45 : UInt8)], y.2)) fun (r_1 : List UInt8) => Option.bind (catS r_1 r.1) fun (r_2 : List UInt8) => some (r_2, r.2.1, r.2.2.1, r.2.2.2.1, r.2.2.2.2.1, r.2.2.2.2.2) else some (r.1, r.2.1, r.2.2.1, r.2.2.2.1, r.2.2.2.2.1, r.2.2.2.2.2) else some (r.1, r.2.1, r.2.2.1, r.2.2.2.1, r.2.2.2.2.1, r.2.2.2.2.2) else bif !decide ((↑(UInt8.toNat c) : Int) = (92 : Int)) then Option.bind (m_errors_New [(101 : UInt8), (120 : UInt8), (112 : UInt8), (101 : UInt8), (99 : UInt8), (116 : UInt8), (101 : UInt8), (100 : UInt8), (32 : UInt8), (105 : UInt8), (100 : UInt8), (101 : UInt8), (110 : UInt8), (116 : UInt8), (105 : UInt8), (102 : UInt8), (105 : UInt8), (101 : UInt8), (114 : UInt8), (44 : UInt8), (32 : UInt8), (102 : UInt8), (111 : UInt8), (117 : UInt8), (110 : UInt8), (100 : UInt8), (32 : UInt8), (46 : UInt8), (46 : UInt8), (32 : UInt8), (105 : UInt8), (110 : UInt8), (115 : UInt8), (116 : UInt8), (101 : UInt8), (97 : UInt8), (100 : UInt8)]) fun (r : Bool) => some ([], r, y.1.1, y.1.2.1, y.1.2.2.1, y.1.2.2.2) else Option.bind (m_cascadia_parser_parseName (y.1.1, y.1.2.1, y.1.2.2.1, y.1.2.2.2)) fun (r : List UInt8 × Bool × List UInt8 × Int × Int × Bool) => bif decide ((0 : Int) < y.2) then bif !r.2.1 then Option.bind (m_strings_Repeat ([(45 : UInt8)], y.2)) fun (r_1 : List UInt8) => Option.bind (catS r_1 r.1) fun (r_2 : List UInt8) => some (r_2, r.2.1, r.2.2.1, r.2.2.2.1, r.2.2.2.2.1, r.2.2.2.2.2) else some (r.1, r.2.1, r.2.2.1, r.2.2.2.1, r.2.2.2.2.1, r.2.2.2.2.2) else some (r.1, r.2.1, r.2.2.1, r.2.2.2.1, r.2.2.2.2.1, r.2.2.2.2.2)
noncomputable def cx_cascadia_parser_parseIdentifier : Cx := ⟨tb, lookE [(33, e_errors_New), (43, e_cascadia_nameStart), (44, e_cascadia_parser_parseName), (45, e_strings_Repeat)], lookS [(2, [(true, 0), (true, 1), (true, 2), (true, 3), (true, 4), (true, 5), (true, 6), (true, 7), (true, 8), (true, 9), (true, 10), (true, 11), (true, 12), (true, 13), (true, 14), (true, 15), (true, 16), (true, 17), (true, 18), (true, 19), (true, 20), (true, 21)]), (5, [(true, 0), (true, 1), (true, 2), (true, 3), (true, 4), (true, 5), (true, 6), (true, 7), (true, 8), (true, 9)]), (7, [(true, 0), (true, 1), (true, 2), (true, 3), (true, 4), (true, 5), (true, 6), (true, 7), (true, 8), (true, 9)])]⟩
theorem ck_cascadia_parser_parseIdentifier : CxOK Tryz.prog (cx_cascadia_parser_parseIdentifier) := cx_ok tb_ok (.cons ok_errors_New Tryz.call33 (.cons ok_cascadia_nameStart Tryz.call43 (.cons ok_cascadia_parser_parseName Tryz.call44 (.cons ok_strings_Repeat Tryz.call45 .nil))))
noncomputable def c_cascadia_parser_parseIdentifier_0 : Code := loopAt (Go.Proofs.Tryz.f35.body.getD .skip) 0
noncomputable def l_cascadia_parser_parseIdentifier_0 : LEnt := ⟨p_cascadia_parser_parseIdentifier_0, x_cascadia_parser_parseIdentifier_0, loopO (m_cascadia_parser_parseIdentifier_0)⟩
theorem lo_cascadia_parser_parseIdentifier_0 : LOK Tryz.prog 80 1 false (l_cascadia_parser_parseIdentifier_0) c_cascadia_parser_parseIdentifier_0 := loop_ok (body := m_cascadia_parser_parseIdentifier_0) (L := lookL []) (ck_cascadia_parser_parseIdentifier) mixed (ls_ok (l := []) (by kernel_rfl) .nil) (by intro x; kernel_rfl) (fun x y h => loopO_iff.1 h)
noncomputable def e_cascadia_parser_parseIdentifier : Ent := ⟨1, p_cascadia_parser_parseIdentifier, q_cascadia_parser_parseIdentifier, m_cascadia_parser_parseIdentifier⟩
theorem ok_cascadia_parser_parseIdentifier : FnOK Tryz.prog 35 e_cascadia_parser_parseIdentifier := fn_ok (L := lookL [(0, l_cascadia_parser_parseIdentifier_0)]) ck_cascadia_parser_parseIdentifier mixed Tryz.func35 rfl (by kernel_rfl) (by kernel_rfl) (ls_ok (l := [(0, c_cascadia_parser_parseIdentifier_0)]) (by kernel_rfl) (.cons rfl (lo_cascadia_parser_parseIdentifier_0) .nil)) (by intro x; kernel_rfl)
abbrev p_cascadia_toLowerASCII : Pt := [(0, .str)]
abbrev q_cascadia_toLowerASCII : Pt := [(0, .str)]
abbrev p_cascadia_toLowerASCII_0 : Pt := [(0, .str), (3, .snil), (4, .int .i64)]
abbrev x_cascadia_toLowerASCII_0 : List (Xt × Pt) := [(.ex 0, [(0, .str), (3, .snil)]), (.ex 0, [(0, .str), (3, .own .u8 5)])]
abbrev pb_cascadia_toLowerASCII_0 : Pt := [(0, .str), (3, .own .u8 5), (4, .int .i64)]
noncomputable def m_cascadia_toLowerASCII_0_first : Tup p_cascadia_toLowerASCII_0 → Option (Stp (Tup p_cascadia_toLowerASCII_0 ⊕ Tup pb_cascadia_toLowerASCII_0) (SumT (x_cascadia_toLowerASCII_0.map (·.2)))) := fun (x : List UInt8 × PUnit × Int) => bif decide (x.2.2 < (↑(List.length x.1) : Int)) then Option.bind (atI x.1 x.2.2) fun (c : UInt8) => bif decide ((65 : Int) ≤ (↑(UInt8.toNat c) : Int)) then bif decide ((↑(UInt8.toNat c) : Int) ≤ (90 : Int)) then bif decide ((↑(List.length x.1) : Int) ≤ (↑(List.length x.1) : Int) ∧ (0 : Int) ≤ (↑(List.length x.1) : Int) ∧ (↑(List.length x.1) : Int) ≤ (1048576 : Int)) then Option.bind (atI x.1 x.2.2) fun (c : UInt8) => Option.bind (atI (List.take (Min.min (List.length x.1) (List.length (List.replicate (Int.toNat (↑(List.length x.1) : Int)) (0 : E.T E.u8)))) x.1 ++ List.drop (Min.min (List.length x.1) (List.length (List.replicate (Int.toNat (↑(List.length x.1) : Int)) (0 : E.T E.u8)))) (List.replicate (Int.toNat (↑(List.length x.1) : Int)) (0 : E.T E.u8))) x.2.2) fun (x_1 : UInt8) => Option.bind (List.take (Min.min (List.length x.1) (List.length (List.replicate (Int.toNat (↑(List.length x.1) : Int)) (0 : E.T E.u8)))) x.1 ++ List.drop (Min.min (List.length x.1) (List.length (List.replicate (Int.toNat (↑(List.length x.1) : Int)) (0 : E.T E.u8)))) (List.replicate (Int.toNat (↑(List.length x.1) : Int)) (0 : E.T E.u8)))[Int.toNat x.2.2]? fun (v : UInt8) => Option.bind (byteI (Go.IntKind.wrap Go.IntKind.u8 ((↑(UInt8.toNat c) : Int) + (32 : Int)))) fun (v : UInt8) => some (Stp.nx (Sum.inr (x.1, List.set (List.take (Min.min (List.length x.1) (List.length (List.replicate (Int.toNat (↑(List.length x.1) : Int)) (0 : E.T E.u8)))) x.1 ++ List.drop (Min.min (List.length x.1) (List.length (List.replicate (Int.toNat (↑(List.length x.1) : Int)) (0 : E.T E.u8)))) (List.replicate (Int.toNat (↑(List.length x.1) : Int)) (0 : E.T E.u8))) (Int.toNat x.2.2) v, IntKind.wrap .i64 (x.2.2 + (1 : Int))))) else none else some (Stp.nx (Sum.inl (x.1, (), IntKind.wrap .i64 (x.2.2 + (1 : Int))))) else some (Stp.nx (Sum.inl (x.1, (), IntKind.wrap .i64 (x.2.2 + (1 : Int))))) else some (Stp.out (Sum.inl (x.1, ())))
noncomputable def m_cascadia_toLowerASCII_0_then : Tup pb_cascadia_toLowerASCII_0 → Option (Stp (Tup p_cascadia_toLowerASCII_0 ⊕ Tup pb_cascadia_toLowerASCII_0) (SumT (x_cascadia_toLowerASCII_0.map (·.2)))) := fun (x : List UInt8 × List UInt8 × Int) => bif decide (x.2.2 < (↑(List.length x.1) : Int)) then Option.bind (atI x.1 x.2.2) fun (c : UInt8) => bif decide ((65 : Int) ≤ (↑(UInt8.toNat c) : Int)) then bif decide ((↑(UInt8.toNat c) : Int) ≤ (90 : Int)) then bif decide ((↑(List.length x.2.1) : Int) = (0 : Int)) then none else Option.bind (atI x.1 x.2.2) fun (c : UInt8) => Option.bind (atI x.2.1 x.2.2) fun (x_1 : UInt8) => Option.bind x.2.1[Int.toNat x.2.2]? fun (v : UInt8) => Option.bind (byteI (Go.IntKind.wrap Go.IntKind.u8 ((↑(UInt8.toNat c) : Int) + (32 : Int)))) fun (v : UInt8) => some (Stp.nx (Sum.inr (x.1, List.set x.2.1 (Int.toNat x.2.2) v, IntKind.wrap .i64 (x.2.2 + (1 : Int))))) else some (Stp.nx (Sum.inr (x.1, x.2.1, IntKind.wrap .i64 (x.2.2 + (1 : Int))))) else some (Stp.nx (Sum.inr (x.1, x.2.1, IntKind.wrap .i64 (x.2.2 + (1 : Int))))) else some (Stp.out (Sum.inr (x.1, x.2.1)))
noncomputable def m_cascadia_toLowerASCII_0 : (Tup p_cascadia_toLowerASCII_0 ⊕ Tup pb_cascadia_toLowerASCII_0) → Option (Stp (Tup p_cascadia_toLowerASCII_0 ⊕ Tup pb_cascadia_toLowerASCII_0) (SumT (x_cascadia_toLowerASCII_0.map (·.2)))) := fun x => Sum.elim m_cascadia_toLowerASCII_0_first m_cascadia_toLowerASCII_0_then x
noncomputable def m_cascadia_toLowerASCII : Tup p_cascadia_toLowerASCII → Option (Tup q_cascadia_toLowerASCII) := fun (x : List UInt8) => Option.bind (loopO m_cascadia_toLowerASCII_0 (Sum.inl (x, (), (0 : Int)))) fun (y : List UInt8 × PUnit ⊕ List UInt8 × List UInt8) => selim (fun (y : List UInt8 × PUnit) => some y.1) (fun (y : List UInt8 × List UInt8) => bif decide ((↑(List.length y.2) : Int) = (0 : Int)) then none else Option.bind (castE E.u8 E.u8 y.2) fun (xs : List UInt8) => some xs) y
noncomputable def cx_cascadia_toLowerASCII : Cx := ⟨tb, lookE [], lookS []⟩
theorem ck_cascadia_toLowerASCII : CxOK Tryz.prog (cx_cascadia_toLowerASCII) := cx_ok tb_ok .nil
noncomputable def c_cascadia_toLowerASCII_0 : Code := loopAt (Go.Proofs.Tryz.f36.body.getD .skip) 0
noncomputable def l_cascadia_toLowerASCII_0 : LEnt := ⟨p_cascadia_toLowerASCII_0, x_cascadia_toLowerASCII_0, fun x => loopO m_cascadia_toLowerASCII_0 (.inl x)⟩
theorem lo_cascadia_toLowerASCII_0 : LOK Tryz.prog 41 0 false l_cascadia_toLowerASCII_0 c_cascadia_toLowerASCII_0 := loop2_ok (le := l_cascadia_toLowerASCII_0) (pin2 := pb_cascadia_toLowerASCII_0) (body := m_cascadia_toLowerASCII_0) (L := lookL []) ck_cascadia_toLowerASCII mixed (ls_ok (l := []) (by kernel_rfl) .nil) (by intro x; kernel_rfl) (by intro x; kernel_rfl) (fun x y h => loopO_iff.1 h)
noncomputable def e_cascadia_toLowerASCII : Ent := ⟨0, p_cascadia_toLowerASCII, q_cascadia_toLowerASCII, m_cascadia_toLowerASCII⟩
theorem ok_cascadia_toLowerASCII : FnOK Tryz.prog 36 e_cascadia_toLowerASCII := fn_ok (L := lookL [(0, l_cascadia_toLowerASCII_0)]) ck_cascadia_toLowerASCII mixed Tryz.func36 rfl (by kernel_rfl) (by kernel_rfl) (ls_ok (l := [(0, c_cascadia_toLowerASCII_0)]) (by kernel_rfl) (.cons rfl (lo_cascadia_toLowerASCII_0) .nil)) (by intro x; kernel_rfl)
abbrev p_cascadia_zzIndex : Pt := [(0, .str), (1, .str)]
abbrev q_cascadia_zzIndex : Pt := [(0, .int .i64)]
abbrev p_cascadia_zzIndex_0 : Pt := [(0, .str), (1, .str), (5, .int .i64)]
abbrev x_cascadia_zzIndex_0 : List (Xt × Pt) := [(.ex 0, []), (.rt, [(4, .int .i64)])]
noncomputable def m_cascadia_zzIndex_0 : Tup p_cascadia_zzIndex_0 → Option (Stp (Tup p_cascadia_zzIndex_0) (SumT (x_cascadia_zzIndex_0.map (·.2)))) := fun (x : List UInt8 × List UInt8 × Int) => bif decide (IntKind.wrap .i64 (x.2.2 + (↑(List.length x.2.1) : Int)) ≤ (↑(List.length x.1) : Int)) then Option.bind (subL x.1 x.2.2 (IntKind.wrap .i64 (x.2.2 + (↑(List.length x.2.1) : Int)))) fun (m : List UInt8) => bif decide (m = x.2.1) then some (Stp.out (Sum.inr x.2.2)) else some (Stp.nx (x.1, x.2.1, IntKind.wrap .i64 (x.2.2 + (1 : Int)))) else some (Stp.out (Sum.inl ()))
noncomputable def m_cascadia_zzIndex : Tup p_cascadia_zzIndex → Option (Tup q_cascadia_zzIndex) := fun (x : List UInt8 × List UInt8) => Option.bind (loopO m_cascadia_zzIndex_0 (x.1, x.2, (0 : Int))) fun (y : PUnit ⊕ Int) => selim (fun (y : PUnit) => some (-1 : Int)) (fun (y : Int) => some y) y
noncomputable def cx_cascadia_zzIndex : Cx := ⟨tb, lookE [], lookS []⟩
theorem ck_cascadia_zzIndex : CxOK Tryz.prog (cx_cascadia_zzIndex) := cx_ok tb_ok .nil
noncomputable def c_cascadia_zzIndex_0 : Code := loopAt (Go.Proofs.Tryz.f42.body.getD .skip) 0
noncomputable def l_cascadia_zzIndex_0 : LEnt := ⟨p_cascadia_zzIndex_0, x_cascadia_zzIndex_0, loopO (m_cascadia_zzIndex_0)⟩
theorem lo_cascadia_zzIndex_0 : LOK Tryz.prog 25 0 false (l_cascadia_zzIndex_0) c_cascadia_zzIndex_0 := loop_ok (body := m_cascadia_zzIndex_0) (L := lookL []) (ck_cascadia_zzIndex) mixed (ls_ok (l := []) (by kernel_rfl) .nil) (by intro x; kernel_rfl) (fun x y h => loopO_iff.1 h)
noncomputable def e_cascadia_zzIndex : Ent := ⟨0, p_cascadia_zzIndex, q_cascadia_zzIndex, m_cascadia_zzIndex⟩
theorem ok_cascadia_zzIndex : FnOK Tryz.prog 42 e_cascadia_zzIndex := fn_ok (L := lookL [(0, l_cascadia_zzIndex_0)]) ck_cascadia_zzIndex mixed Tryz.func42 rfl (by kernel_rfl) (by kernel_rfl) (ls_ok (l := [(0, c_cascadia_zzIndex_0)]) (by kernel_rfl) (.cons rfl (lo_cascadia_zzIndex_0) .nil)) (by intro x; kernel_rfl)
abbrev p_cascadia_parser_skipWhitespace : Pt := [(0, .blk (.rc .str [(.int .i64), (.int .i64), .bool] 0) 56)]
abbrev q_cascadia_parser_skipWhitespace : Pt := [(0, .bool), (1000, .blk (.rc .str [(.int .i64), (.int .i64), .bool] 0) 56)]
abbrev p_cascadia_parser_skipWhitespace_0 : Pt := [(0, .blk (.rc .str [(.int .i64), (.int .i64), .bool] 0) 56), (3, .int .i64)]
abbrev x_cascadia_parser_skipWhitespace_0 : List (Xt × Pt) := [(.ex 0, [(0, .blk (.rc .str [(.int .i64), (.int .i64), .bool] 0) 56), (3, .int .i64)])]
noncomputable def m_cascadia_parser_skipWhitespace_0 : Tup p_cascadia_parser_skipWhitespace_0 → Option (Stp (Tup p_cascadia_parser_skipWhitespace_0) (SumT (x_cascadia_parser_skipWhitespace_0.map (·.2)))) := fun (x : (List UInt8 × Int × Int × Bool) × Int) => bif decide (x.2 < (↑(List.length x.1.1) : Int)) then Option.bind (atI x.1.1 x.2) fun (c : UInt8) => bif decide ((↑(UInt8.toNat c) : Int) = (32 : Int)) then some (Stp.nx ((x.1.1, x.1.2.1, x.1.2.2.1, x.1.2.2.2), IntKind.wrap .i64 (x.2 + (1 : Int)))) else bif decide ((↑(UInt8.toNat c) : Int) = (9 : Int)) then some (Stp.nx ((x.1.1, x.1.2.1, x.1.2.2.1, x.1.2.2.2), IntKind.wrap .i64 (x.2 + (1 : Int)))) else bif decide ((↑(UInt8.toNat c) : Int) = (13 : Int)) then some (Stp.nx ((x.1.1, x.1.2.1, x.1.2.2.1, x.1.2.2.2), IntKind.wrap .i64 (x.2 + (1 : Int)))) else bif decide ((↑(UInt8.toNat c) : Int) = (10 : Int)) then some (Stp.nx ((x.1.1, x.1.2.1, x.1.2.2.1, x.1.2.2.2), IntKind.wrap .i64 (x.2 + (1 : Int)))) else bif decide ((↑(UInt8.toNat c) : Int) = (12 : Int)) then some (Stp.nx ((x.1.1, x.1.2.1, x.1.2.2.1, x.1.2.2.2), IntKind.wrap .i64 (x.2 + (1 : Int)))) else bif decide ((↑(UInt8.toNat c) : Int) = (47 : Int)) then Option.bind (subL x.1.1 x.2 (↑(List.length x.1.1) : Int)) fun (m : List UInt8) => Option.bind (m_strings_HasPrefix (m, [(47 : UInt8), (42 : UInt8)])) fun (r : Bool) => bif r then Option.bind (subL x.1.1 (IntKind.wrap .i64 (x.2 + (2 : Int))) (↑(List.length x.1.1) : Int)) fun (m : List UInt8) => Option.bind (m_cascadia_zzIndex (m, [(42 : UInt8), (47 : UInt8)])) fun (r : Int) => bif decide (r ≠ (-1 : Int)) then some (Stp.nx ((x.1.1, x.1.2.1, x.1.2.2.1, x.1.2.2.2), IntKind.wrap .i64 (x.2 + IntKind.wrap .i64 (r + (4 : Int))))) else some (Stp.out ((x.1.1, x.1.2.1, x.1.2.2.1, x.1.2.2.2), x.2)) else some (Stp.out ((x.1.1, x.1.2.1, x.1.2.2.1, x.1.2.2.2), x.2)) else some (Stp.out ((x.1.1, x.1.2.1, x.1.2.2.1, x.1.2.2.2), x.2)) else some (Stp.out ((x.1.1, x.1.2.1, x.1.2.2.1, x.1.2.2.2), x.2))
noncomputable def m_cascadia_parser_skipWhitespace : Tup p_cascadia_parser_skipWhitespace → Option (Tup q_cascadia_parser_skipWhitespace) := fun (x : List UInt8 × Int × Int × Bool) => Option.bind (loopO m_cascadia_parser_skipWhitespace_0 ((x.1, x.2.1, x.2.2.1, x.2.2.2), x.2.1)) fun (y : (List UInt8 × Int × Int × Bool) × Int) => bif decide (y.1.2.1 < y.2) then some (true, y.1.1, y.2, y.1.2.2.1, y.1.2.2.2) else some (false, y.1.1, y.1.2.1, y.1.2.2.1, y.1.2.2.2)
noncomputable def cx_cascadia_parser_skipWhitespace : Cx := ⟨tb, lookE [(41, e_strings_HasPrefix), (42, e_cascadia_zzIndex)], lookS []⟩
theorem ck_cascadia_parser_skipWhitespace : CxOK Tryz.prog (cx_cascadia_parser_skipWhitespace) := cx_ok tb_ok (.cons ok_strings_HasPrefix Tryz.call41 (.cons ok_cascadia_zzIndex Tryz.call42 .nil))
noncomputable def c_cascadia_parser_skipWhitespace_0 : Code := loopAt (Go.Proofs.Tryz.f34.body.getD .skip) 0
noncomputable def l_cascadia_parser_skipWhitespace_0 : LEnt := ⟨p_cascadia_parser_skipWhitespace_0, x_cascadia_parser_skipWhitespace_0, loopO (m_cascadia_parser_skipWhitespace_0)⟩
theorem lo_cascadia_parser_skipWhitespace_0 : LOK Tryz.prog 63 1 false (l_cascadia_parser_skipWhitespace_0) c_cascadia_parser_skipWhitespace_0 := loop_ok (body := m_cascadia_parser_skipWhitespace_0) (L := lookL []) (ck_cascadia_parser_skipWhitespace) mixed (ls_ok (l := []) (by kernel_rfl) .nil) (by intro x; kernel_rfl) (fun x y h => loopO_iff.1 h)
noncomputable def e_cascadia_parser_skipWhitespace : Ent := ⟨1, p_cascadia_parser_skipWhitespace, q_cascadia_parser_skipWhitespace, m_cascadia_parser_skipWhitespace⟩
theorem ok_cascadia_parser_skipWhitespace : FnOK Tryz.prog 34 e_cascadia_parser_skipWhitespace := fn_ok (L := lookL [(0, l_cascadia_parser_skipWhitespace_0)]) ck_cascadia_parser_skipWhitespace mixed Tryz.func34 rfl (by kernel_rfl) (by kernel_rfl) (ls_ok (l := [(0, c_cascadia_parser_skipWhitespace_0)]) (by kernel_rfl) (.cons rfl (lo_cascadia_parser_skipWhitespace_0) .nil)) (by intro x; kernel_rfl)
abbrev p_cascadia_parser_parseAttributeSelector : Pt := [(0, .blk (.rc .str [(.int .i64), (.int .i64), .bool] 0) 56)]
abbrev q_cascadia_parser_parseAttributeSelector : Pt := [(0, .el (.rc .str [.str, .str, .bool] 0)), (1, .err), (1000, .blk (.rc .str [(.int .i64), (.int .i64), .bool] 0) 56)]
noncomputable def m_cascadia_parser_parseAttributeSelector : Tup p_cascadia_parser_parseAttributeSelector → Option (Tup q_cascadia_parser_parseAttributeSelector) := fun (x : List UInt8 × Int × Int × Bool) => bif decide ((↑(List.length x.1) : Int) ≤ x.2.1) then Option.bind (m_errors_New [(101 : UInt8), (120 : UInt8), (112 : UInt8), (101 : UInt8), (99 : UInt8), (116 : UInt8), (101 : UInt8), (100 : UInt8), (32 : UInt8), (97 : UInt8), (116 : UInt8), (116 : UInt8), (114 : UInt8), (105 : UInt8), (98 : UInt8), (117 : UInt8), (116 : UInt8), (101 : UInt8), (32 : UInt8), (115 : UInt8), (101 : UInt8), (108 : UInt8), (101 : UInt8), (99 : UInt8), (116 : UInt8), (111 : UInt8), (114 : UInt8), (32 : UInt8), (40 : UInt8), (91 : UInt8), (97 : UInt8), (116 : UInt8), (116 : UInt8), (114 : UInt8), (105 : UInt8), (98 : UInt8), (117 : UInt8), (116 : UInt8), (101 : UInt8), (93 : UInt8), (41 : UInt8), (44 : UInt8), (32 : UInt8), (102 : UInt8), (111 : UInt8), (117 : UInt8), (110 : UInt8), (100 : UInt8), (32 : UInt8), (69 : UInt8), (79 : UInt8), (70 : UInt8), (32 : UInt8), (105 : UInt8), (110 : UInt8), (115 : UInt8), (116 : UInt8), (101 : UInt8), (97 : UInt8), (100 : UInt8)]) fun (r : Bool) => some (([], [], [], false), r, x.1, x.2.1, x.2.2.1, x.2.2.2) else Option.bind (atI x.1 x.2.1) fun (c : UInt8) => bif decide ((↑(UInt8.toNat c) : Int) ≠ (91 : Int)) then Option.bind (m_errors_New [(101 : UInt8), (120 : UInt8), (112 : UInt8), (101 : UInt8), (99 : UInt8), (116 : UInt8), (101 : UInt8), (100 : UInt8), (32 : UInt8), (97 : UInt8), (116 : UInt8), (116 : UInt8), (114 : UInt8), (105 : UInt8), (98 : UInt8), (117 : UInt8), (116 : UInt8), (101 : UInt8), (32 : UInt8), (115 : UInt8), (101 : UInt8), (108 : UInt8), (101 : UInt8), (99 : UInt8), (116 : UInt8), (111 : UInt8), (114 : UInt8), (32 : UInt8), (40 : UInt8), (91 : UInt8), (97 : UInt8), (116 : UInt8), (116 : UInt8), (114 : UInt8), (105 : UInt8), (98 : UInt8), (117 : UInt8), (116 : UInt8), (101 : UInt8), (93 : UInt8), (41 : UInt8), (44 : UInt8), (32 : UInt8), (102 : UInt8), (111 : UInt8), (117 : UInt8), (110 : UInt8), (100 : UInt8), (32 : UInt8), (46 : UInt8), (46 : UInt8), (32 : UInt8), (105 : UInt8), (110 : UInt8), (115 : UInt8), (116 : UInt8), (101 : UInt8), (97 : UInt8), (100 : UInt8)]) fun (r : Bool) => some (([], [], [], false), r, x.1, x.2.1, x.2.2.1, x.2.2.2) else Option.bind (m_cascadia_parser_skipWhitespace (x.1, IntKind.wrap .i64 (x.2.1 + (1 : Int)), x.2.2.1, x.2.2.2)) fun (r : Bool × List UInt8 × Int × Int × Bool) => Option.bind (m_cascadia_parser_parseIdentifier (r.2.1, r.2.2.1, r.2.2.2.1, r.2.2.2.2)) fun (r : List UInt8 × Bool × List UInt8 × Int × Int × Bool) => bif !!r.2.1 then some (([], [], [], false), r.2.1, r.2.2.1, r.2.2.2.1, r.2.2.2.2.1, r.2.2.2.2.2) else Option.bind (m_cascadia_toLowerASCII r.1) fun (r_1 : List UInt8) => Option.bind (m_cascadia_parser_skipWhitespace (r.2.2.1, r.2.2.2.1, r.2.2.2.2.1, r.2.2.2.2.2)) fun (r : Bool × List UInt8 × Int × Int × Bool) => bif decide ((↑(List.length r.2.1) : Int) ≤ r.2.2.1) then Option.bind (m_errors_New [(117 : UInt8), (110 : UInt8), (101 : UInt8), (120 : UInt8), (112 : UInt8), (101 : UInt8), (99 : UInt8), (116 : UInt8), (101 : UInt8), (100 : UInt8), (32 : UInt8), (69 : UInt8), (79 : UInt8), (70 : UInt8), (32 : UInt8), (105 : UInt8), (110 : UInt8), (32 : UInt8), (97 : UInt8), (116 : UInt8), (116 : UInt8), (114 : UInt8), (105 : UInt8), (98 : UInt8), (117 : UInt8), (116 : UInt8), (101 : UInt8), (32 : UInt8), (115 : UInt8), (101 : UInt8), (108 : UInt8), (101 : UInt8), (99 : UInt8), (116 : UInt8), (111 : UInt8), (114 : UInt8)]) fun (r_2 : Bool) => some (([], [], [], false), r_2, r.2.1, r.2.2.1, r.2.2.2.1, r.2.2.2.2) else Option.bind (atI r.2.1 r.2.2.1) fun (c : UInt8) => bif decide ((↑(UInt8.toNat c) : Int) = (93 : Int)) then some ((r_1, [], [], false), false, r.2.1, IntKind.wrap .i64 (r.2.2.1 + (1 : Int)), r.2.2.2.1, r.2.2.2.2) else bif decide ((↑(List.length r.2.1) : Int) ≤ IntKind.wrap .i64 (r.2.2.1 + (2 : Int))) then Option.bind (m_errors_New [(117 : UInt8), (110 : UInt8), (101 : UInt8), (120 : UInt8), (112 : UInt8), (101 : UInt8), (99 : UInt8), (116 : UInt8), (101 : UInt8), (100 : UInt8), (32 : UInt8), (69 : UInt8), (79 : UInt8), (70 : UInt8), (32 : UInt8), (105 : UInt8), (110 : UInt8), (32 : UInt8), (97 : UInt8), (116 : UInt8), (116 : UInt8), (114 : UInt8), (105 : UInt8), (98 : UInt8), (117 : UInt8), (116 : UInt8), (101 : UInt8), (32 : UInt8), (115 : UInt8), (101 : UInt8), (108 : UInt8), (101 : UInt8), (99 : UInt8), (116 : UInt8), (111 : UInt8), (114 : UInt8)]) fun (r_2 : Bool) => some (([], [], [], false), r_2, r.2.1, r.2.2.1, r.2.2.2.1, r.2.2.2.2) else Option.bind (subL r.2.1 r.2.2.1 (IntKind.wrap .i64 (r.2.2.1 + (2 : Int)))) fun (m : List UInt8) => Option.bind (atI m (0 : Int)) fun (c : UInt8) => bif decide ((↑(UInt8.toNat c) : Int) = (61 : Int)) then Option.bind (m_cascadia_parser_skipWhitespace (r.2.1, IntKind.wrap .i64 (r.2.2.1 + (↑(List.length [(61 : UInt8)]) : Int)), r.2.2.2.1, r.2.2.2.2)) fun (r : Bool × List UInt8 × Int × Int × Bool) => bif decide ((↑(List.length r.2.1) : Int) ≤ r.2.2.1) then Option.bind (m_errors_New [(117 : UInt8), (110 : UInt8), (101 : UInt8), (120 : UInt8), (112 : UInt8), (101 : UInt8), (99 : UInt8), (116 : UInt8), (101 : UInt8), (100 : UInt8), (32 : UInt8), (69 : UInt8), (79 : UInt8), (70 : UInt8), (32 : UInt8), (105 : UInt8), (110 : UInt8), (32 : UInt8), (97 : UInt8), (116 : UInt8), (116 : UInt8), (114 : UInt8), (105 : UInt8), (98 : UInt8), (117 : UInt8), (116 : UInt8), (101 : UInt8), (32 : UInt8), (115 : UInt8), (101 : UInt8), (108 : UInt8), (101 : UInt8), (99 : UInt8), (116 : UInt8), (111 : UInt8), (114 : UInt8)]) fun (r_2 : Bool) => some (([], [], [], false), r_2, r.2.1, r.2.2.1, r.2.2.2.1, r.2.2.2.2) else Option.bind (atI r.2.1 r.2.2.1) fun (c : UInt8) => bif decide ((↑(UInt8.toNat c) : Int) = (39 : Int)) then Option.bind (m_cascadia_parser_parseString (r.2.1, r.2.2.1, r.2.2.2.1, r.2.2.2.2)) fun (r : List UInt8 × Bool × List UInt8 × Int × Int × Bool) => bif !!r.2.1 then some (([], [], [], false), r.2.1, r.2.2.1, r.2.2.2.1, r.2.2.2.2.1, r.2.2.2.2.2) else Option.bind (m_cascadia_parser_skipWhitespace (r.2.2.1, r.2.2.2.1, r.2.2.2.2.1, r.2.2.2.2.2)) fun (r_2 : Bool × List UInt8 × Int × Int × Bool) => bif decide ((↑(List.length r_2.2.1) : Int) ≤ r_2.2.2.1) then Option.bind (m_errors_New [(117 : UInt8), (110 : UInt8), (101 : UInt8), (120 : UInt8), (112 : UInt8), (101 : UInt8), (99 : UInt8), (116 : UInt8), (101 : UInt8), (100 : UInt8), (32 : UInt8), (69 : UInt8), (79 : UInt8), (70 : UInt8), (32 : UInt8), (105 : UInt8), (110 : UInt8), (32 : UInt8), (97 : UInt8), (116 : UInt8), (116 : UInt8), (114 : UInt8), (105 : UInt8), (98 : UInt8), (117 : UInt8), (116 : UInt8), (101 : UInt8), (32 : UInt8), (115 : UInt8), (101 : UInt8), (108 : UInt8), (101 : UInt8), (99 : UInt8), (116 : UInt8), (111 : UInt8), (114 : UInt8)]) fun (r : Bool) => some (([], [], [], false), r, r_2.2.1, r_2.2.2.1, r_2.2.2.2.1, r_2.2.2.2.2) else Option.bind (atI r_2.2.1 r_2.2.2.1) fun (c : UInt8) => bif decide ((↑(UInt8.toNat c) : Int) = (105 : Int)) then Option.bind (m_cascadia_parser_skipWhitespace (r_2.2.1, IntKind.wrap .i64 (r_2.2.2.1 + (1 : Int)), r_2.2.2.2.1, r_2.2.2.2.2)) fun (r_3 : Bool × List UInt8 × Int × Int × Bool) => bif decide ((↑(List.length r_3.2.1) : Int) ≤ r_3.2.2.1) then Option.bind (m_errors_New [(117 : UInt8), (110 : UInt8), (101 : UInt8), (120 : UInt8), (112 : UInt8), (101 : UInt8), (99 : UInt8), (116 : UInt8), (101 : UInt8), (100 : UInt8), (32 : UInt8), (69 : UInt8), (79 : UInt8), (70 : UInt8), (32 : UInt8), (105 : UInt8), (110 : UInt8), (32 : UInt8), (97 : UInt8), (116 : UInt8), (116 : UInt8), (114 : UInt8), (105 : UInt8), (98 : UInt8), (117 : UInt8), (116 : UInt8), (101 : UInt8), (32 : UInt8), (115 : UInt8), (101 : UInt8), (108 : UInt8), (101 : UInt8), (99 : UInt8), (116 : UInt8), (111 : UInt8), (114 : UInt8)]) fun (r : Bool) => some (([], [], [], false), r, r_3.2.1, r_3.2.2.1, r_3.2.2.2.1, r_3.2.2.2.2) else Option.bind (atI r_3.2.1 r_3.2.2.1) fun (c : UInt8) => bif decide ((↑(UInt8.toNat c) : Int) ≠ (93 : Int)) then Option.bind (m_errors_New [(101 : UInt8), (120 : UInt8), (112 : UInt8), (101 : UInt8), (99 : UInt8), (116 : UInt8), (101 : UInt8), (100 : UInt8), (32 : UInt8), (39 : UInt8), (93 : UInt8), (39 : UInt8), (44 : UInt8), (32 : UInt8), (102 : UInt8), (111 : UInt8), (117 : UInt8), (110 : UInt8), (100 : UInt8), (32 : UInt8), (46 : UInt8), (46 : UInt8), (32 : UInt8), (105 : UInt8), (110 : UInt8), (115 : UInt8), (116 : UInt8), (101 : UInt8), (97 : UInt8), (100 : UInt8)]) fun (r : Bool) => some (([], [], [], false), r, r_3.2.1, r_3.2.2.1, r_3.2.2.2.1, r_3.2.2.2.2) else some ((r_1, r.1, [(61 : UInt8)], true), false, r_3.2.1, IntKind.wrap .i64 (r_3.2.2.1 + (1 : Int)), r_3.2.2.2.1, r_3.2.2.2.2) else Option.bind (atI r_2.2.1 r_2.2.2.1) fun (c : UInt8) => bif decide ((↑(UInt8.toNat c) : Int) = (73 : Int)) then Option.bind (m_cascadia_parser_skipWhitespace (r_2.2.1, IntKind.wrap .i64 (r_2.2.2.1 + (1 : Int)), r_2.2.2.2.1, r_2.2.2.2.2)) fun (r_3 : Bool × List UInt8 × Int × Int × Bool) => bif decide ((↑(List.length r_3.2.1) : Int) ≤ r_3.2.2.1) then Option.bind (m_errors_New [(117 : UInt8), (110 : UInt8), (101 : UInt8), (120 : UInt8), (112 : UInt8), (101 : UInt8), (99 : UInt8), (116 : UInt8), (101 : UInt8), (100 : UInt8), (32 : UInt8), (69 : UInt8), (79 : UInt8), (70 : UInt8), (32 : UInt8), (105 : UInt8), (110 : UInt8), (32 : UInt8), (97 : UInt8), (116 : UInt8), (116 : UInt8), (114 : UInt8), (105 : UInt8), (98 : UInt8), (117 : UInt8), (116 : UInt8), (101 : UInt8), (32 : UInt8), (115 : UInt8), (101 : UInt8), (108 : UInt8), (101 : UInt8), (99 : UInt8), (116 : UInt8), (111 : UInt8), (114 : UInt8)]) fun (r : Bool) => some (([], [], [], false), r, r_3.2.1, r_3.2.2.1, r_3.2.2.2.1, r_3.2.2.2.2) else Option.bind (atI r_3.2.1 r_3.2.2.1) fun (c : UInt8) => bif decide ((↑(UInt8.toNat c) : Int) ≠ (93 : Int)) then Option.bind (m_errors_New [(101 : UInt8), (120 : UInt8), (112 : UInt8), (101 : UInt8), (99 : UInt8), (116 : UInt8), (101 : UInt8), (100 : UInt8), (32 : UInt8), (39 : UInt8), (93 : UInt8), (39 : UInt8), (44 : UInt8), (32 : UInt8), (102 : UInt8), (111 : UInt8), (117 : UInt8), (110 : UInt8), (100 : UInt8), (32 : UInt8), (46 : UInt8), (46 : UInt8), (32 : UInt8), (105 : UInt8), (110 : UInt8), (115 : UInt8), (116 : UInt8), (101 : UInt8), (97 : UInt8), (100 : UInt8)]) fun (r : Bool) => some (([], [], [], false), r, r_3.2.1, r_3.2.2.1, r_3.2.2.2.1, r_3.2.2.2.2) else some ((r_1, r.1, [(61 : UInt8)], true), false, r_3.2.1, IntKind.wrap .i64 (r_3.2.2.1 + (1 : Int)), r_3.2.2.2.1, r_3.2.2.2.2) else Option.bind (m_cascadia_parser_skipWhitespace (r_2.2.1, r_2.2.2.1, r_2.2.2.2.1, r_2.2.2.2.2)) fun (r_3 : Bool × List UInt8 × Int × Int × Bool) => bif decide ((↑(List.length r_3.2.1) : Int) ≤ r_3.2.2.1) then Option.bind (m_errors_New [(117 : UInt8), (110 : UInt8), (101 : UInt8), (120 : UInt8), (112 : UInt8), (101 : UInt8), (99 : UInt8), (116 : UInt8), (101 : UInt8), (100 : UInt8), (32 : UInt8), (69 : UInt8), (79 : UInt8), (70 : UInt8), (32 : UInt8), (105 : UInt8), (110 : UInt8), (32 : UInt8), (97 : UInt8), (116 : UInt8), (116 : UInt8), (114 : UInt8), (105 : UInt8), (98 : UInt8), (117 : UInt8), (116 : UInt8), (101 : UInt8), (32 : UInt8), (115 : UInt8), (101 : UInt8), (108 : UInt8), (101 : UInt8), (99 : UInt8), (116 : UInt8), (111 : UInt8), (114 : UInt8)]) fun (r : Bool) => some (([], [], [], false), r, r_3.2.1, r_3.2.2.1, r_3.2.2.2.1, r_3.2.2.2.2) else Option.bind (atI r_3.2.1 r_3.2.2.1) fun (c : UInt8) => bif decide ((↑(UInt8.toNat c) : Int) ≠ (93 : Int)) then Option.bind (m_errors_New [(101 : UInt8), (120 : UInt8), (112 : UInt8), (101 : UInt8), (99 : UInt8), (116 : UInt8), (101 : UInt8), (100 : UInt8), (32 : UInt8), (39 : UInt8), (93 : UInt8), (39 : UInt8), (44 : UInt8), (32 : UInt8), (102 : UInt8), (111 : UInt8), (117 : UInt8), (110 : UInt8), (100 : UInt8), (32 : UInt8), (46 : UInt8), (46 : UInt8), (32 : UInt8), (105 : UInt8), (110 : UInt8), (115 : UInt8), (116 : UInt8), (101 : UInt8), (97 : UInt8), (100 : UInt8)]) fun (r : Bool) => some (([], [], [], false), r, r_3.2.1, r_3.2.2.1, r_3.2.2.2.1, r_3.2.2.2.2) else some ((r_1, r.1, [(61 : UInt8)], false), false, r_3.2.1, IntKind.wrap .i64 (r_3.2.2.1 + (1 : Int)), r_3.2.2.2.1, r_3.2.2.2.2) else bif decide ((↑(UInt8.toNat c) : Int) = (34 : Int)) then Option.bind (m_cascadia_parser_parseString (r.2.1, r.2.2.1, r.2.2.2.1, r.2.2.2.2)) fun (r : List UInt8 × Bool × List UInt8 × Int × Int × Bool) => bif !!r.2.1 then some (([], [], [], false), r.2.1, r.2.2.1, r.2.2.2.1, r.2.2.2.2.1, r.2.2.2.2.2) else Option.bind (m_cascadia_parser_skipWhitespace (r.2.2.1, r.2.2.2.1, r.2.2.2.2.1, r.2.2.2.2.2)) fun (r_2 : Bool × List UInt8 × Int × Int × Bool) => bif decide ((↑(List.length r_2.2.1) : Int) ≤ r_2.2.2.1) then Option.bind (m_errors_New [(117 : UInt8), (110 : UInt8), (101 : UInt8), (120 : UInt8), (112 : UInt8), (101 : UInt8), (99 : UInt8), (116 : UInt8), (101 : UInt8), (100 : UInt8), (32 : UInt8), (69 : UInt8), (79 : UInt8), (70 : UInt8), (32 : UInt8), (105 : UInt8), (110 : UInt8), (32 : UInt8), (97 : UInt8), (116 : UInt8), (116 : UInt8), (114 : UInt8), (105 : UInt8), (98 : UInt8), (117 : UInt8), (116 : UInt8), (101 : UInt8), (32 : UInt8), (115 : UInt8), (101 : UInt8), (108 : UInt8), (101 : UInt8), (99 : UInt8), (116 : UInt8), (111 : UInt8), (114 : UInt8)]) fun (r : Bool) => some (([], [], [], false), r, r_2.2.1, r_2.2.2.1, r_2.2.2.2.1, r_2.2.2.2.2) else Option.bind (atI r_2.2.1 r_2.2.2.1) fun (c : UInt8) => bif decide ((↑(UInt8.toNat c) : Int) = (105 : Int)) then Option.bind (m_cascadia_parser_skipWhitespace (r_2.2.1, IntKind.wrap .i64 (r_2.2.2.1 + (1 : Int)), r_2.2.2.2.1, r_2.2.2.2.2)) fun (r_3 : Bool × List UInt8 × Int × Int × Bool) => bif decide ((↑(List.length r_3.2.1) : Int) ≤ r_3.2.2.1) then Option.bind (m_errors_New [(117 : UInt8), (110 : UInt8), (101 : UInt8), (120 : UInt8), (112 : UInt8), (101 : UInt8), (99 : UInt8), (116 : UInt8), (101 : UInt8), (100 : UInt8), (32 : UInt8), (69 : UInt8), (79 : UInt8), (70 : UInt8), (32 : UInt8), (105 : UInt8), (110 : UInt8), (32 : UInt8), (97 : UInt8), (116 : UInt8), (116 : UInt8), (114 : UInt8), (105 : UInt8), (98 : UInt8), (117 : UInt8), (116 : UInt8), (101 : UInt8), (32 : UInt8), (115 : UInt8), (101 : UInt8), (108 : UInt8), (101 : UInt8), (99 : UInt8), (116 : UInt8), (111 : UInt8), (114 : UInt8)]) fun (r : Bool) => some (([], [], [], false), r, r_3.2.1, r_3.2.2.1, r_3.2.2.2.1, r_3.2.2.2.2) else Option.bind (atI r_3.2.1 r_3.2.2.1) fun (c : UInt8) => bif decide ((↑(UInt8.toNat c) : Int) ≠ (93 : Int)) then Option.bind (m_errors_New [(101 : UInt8), (120 : UInt8), (112 : UInt8), (101 : UInt8), (99 : UInt8), (116 : UInt8), (101 : UInt8), (100 : UInt8), (32 : UInt8), (39 : UInt8), (93 : UInt8), (39 : UInt8), (44 : UInt8), (32 : UInt8), (102 : UInt8), (111 : UInt8), (117 : UInt8), (110 : UInt8), (100 : UInt8), (32 : UInt8), (46 : UInt8), (46 : UInt8), (32 : UInt8), (105 : UInt8), (110 : UInt8), (115 : UInt8), (116 : UInt8), (101 : UInt8), (97 : UInt8), (100 : UInt8)]) fun (r : Bool) => some (([], [], [], false), r, r_3.2.1, r_3.2.2.1, r_3.2.2.2.1, r_3.2.2.2.2) else some ((r_1, r.1, [(61 : UInt8)], true), false, r_3.2.1, IntKind.wrap .i64 (r_3.2.2.1 + (1 : Int)), r_3.2.2.2.1, r_3.2.2.2.2) else Option.bind (atI r_2.2.1 r_2.2.2.1) fun (c : UInt8) => bif decide ((↑(UInt8.toNat c) : Int) = (73 : Int)) then Option.bind (m_cascadia_parser_skipWhitespace (r_2.2.1, IntKind.wrap .i64 (r_2.2.2.1 + (1 : Int)), r_2.2.2.2.1, r_2.2.2.2.2)) fun (r_3 : Bool × List UInt8 × Int × Int × Bool) => bif decide ((↑(List.length r_3.2.1) : Int) ≤ r_3.2.2.1) then Option.bind (m_errors_New [(117 : UInt8), (110 : UInt8), (101 : UInt8), (120 : UInt8), (112 : UInt8), (101 : UInt8), (99 : UInt8), (116 : UInt8), (101 : UInt8), (100 : UInt8), (32 : UInt8), (69 : UInt8), (79 : UInt8), (70 : UInt8), (32 : UInt8), (105 : UInt8), (110 : UInt8), (32 : UInt8), (97 : UInt8), (116 : UInt8), (116 : UInt8), (114 : UInt8), (105 : UInt8), (98 : UInt8), (117 : UInt8), (116 : UInt8), (101 : UInt8), (32 : UInt8), (115 : UInt8), (101 : UInt8), (108 : UInt8), (101 : UInt8), (99 : UInt8), (116 : UInt8), (111 : UInt8), (114 : UInt8)]) fun (r : Bool) => some (([], [], [], false), r, r_3.2.1, r_3.2.2.1, r_3.2.2.2.1, r_3.2.2.2.2) else Option.bind (atI r_3.2.1 r_3.2.2.1) fun (c : UInt8) => bif decide ((↑(UInt8.toNat c) : Int) ≠ (93 : Int)) then Option.bind (m_errors_New [(101 : UInt8), (120 : UInt8), (112 : UInt8), (101 : UInt8), (99 : UInt8), (116 : UInt8), (101 : UInt8), (100 : UInt8), (32 : UInt8), (39 : UInt8), (93 : UInt8), (39 : UInt8), (44 : UInt8), (32 : UInt8), (102 : UInt8), (111 : UInt8), (117 : UInt8), (110 : UInt8), (100 : UInt8), (32 : UInt8), (46 : UInt8), (46 : UInt8), (32 : UInt8), (105 : UInt8), (110 : UInt8), (115 : UInt8), (116 : UInt8), (101 : UInt8), (97 : UInt8), (100 : UInt8)]) fun (r : Bool) => some (([], [], [], false), r, r_3.2.1, r_3.2.2.1, r_3.2.2.2.1, r_3.2.2.2.2) else some ((r_1, r.1, [(61 : UInt8)], true), false, r_3.2.1, IntKind.wrap .i64 (r_3.2.2.1 + (1 : Int)), r_3.2.2.2.1, r_3.2.2.2.2) else Option.bind (m_cascadia_parser_skipWhitespace (r_2.2.1, r_2.2.2.1, r_2.2.2.2.1, r_2.2.2.2.2)) fun (r_3 : Bool × List UInt8 × Int × Int × Bool) => bif decide ((↑(List.length r_3.2.1) : Int) ≤ r_3.2.2.1) then Option.bind (m_errors_New [(117 : UInt8), (110 : UInt8), (101 : UInt8), (120 : UInt8), (112 : UInt8), (101 : UInt8), (99 : UInt8), (116 : UInt8), (101 : UInt8), (100 : UInt8), (32 : UInt8), (69 : UInt8), (79 : UInt8), (70 : UInt8), (32 : UInt8), (105 : UInt8), (110 : UInt8), (32 : UInt8), (97 : UInt8), (116 : UInt8), (116 : UInt8), (114 : UInt8), (105 : UInt8), (98 : UInt8), (117 : UInt8), (116 : UInt8), (101 : UInt8), (32 : UInt8), (115 : UInt8), (101 : UInt8), (108 : UInt8), (101 : UInt8), (99 : UInt8), (116 : UInt8), (111 : UInt8), (114 : UInt8)]) fun (r : Bool) => some (([], [], [], false), r, r_3.2.1, r_3.2.2.1, r_3.2.2.2.1, r_3.2.2.2.2) else Option.bind (atI r_3.2.1 r_3.2.2.1) fun (c : UInt8) => bif decide ((↑(UInt8.toNat c) : Int) ≠ (93 : Int)) then Option.bind (m_errors_New [(101 : UInt8), (120 : UInt8), (112 : UInt8), (101 : UInt8), (99 : UInt8), (116 : UInt8), (101 : UInt8), (100 : UInt8), (32 : UInt8), (39 : UInt8), (93 : UInt8), (39 : UInt8), (44 : UInt8), (32 : UInt8), (102 : UInt8), (111 : UInt8), (117 : UInt8), (110 : UInt8), (100 : UInt8), (32 : UInt8), (46 : UInt8), (46 : UInt8), (32 : UInt8), (105 : UInt8), (110 : UInt8), (115 : UInt8), (116 : UInt8), (101 : UInt8), (97 : UInt8), (100 : UInt8)]) fun (r : Bool) => some (([], [], [], false), r, r_3.2.1, r_3.2.2.1, r_3.2.2.2.1, r_3.2.2.2.2) else some ((r_1, r.1, [(61 : UInt8)], false), false, r_3.2.1, IntKind.wrap .i64 (r_3.2.2.1 + (1 : Int)), r_3.2.2.2.1, r_3.2.2.2.2) else Option.bind (m_cascadia_parser_parseIdentifier (r.2.1, r.2.2.1, r.2.2.2.1, r.2.2.2.2)) fun (r : List UInt8 × Bool × List UInt8 × Int × Int × Bool) => bif !!r.2.1 then some (([], [], [], false), r.2.1, r.2.2.1, r.2.2.2.1, r.2.2.2.2.1, r.2.2.2.2.2) else Option.bind (m_cascadia_parser_skipWhitespace (r.2.2.1, r.2.2.2.1, r.2.2.2.2.1, r.2.2.2.2.2)) fun (r_2 : Bool × List UInt8 × Int × Int × Bool) => bif decide ((↑(List.length r_2.2.1) : Int) ≤ r_2.2.2.1) then Option.bind (m_errors_New [(117 : UInt8), (110 : UInt8), (101 : UInt8), (120 : UInt8), (112 : UInt8), (101 : UInt8), (99 : UInt8), (116 : UInt8), (101 : UInt8), (100 : UInt8), (32 : UInt8), (69 : UInt8), (79 : UInt8), (70 : UInt8), (32 : UInt8), (105 : UInt8), (110 : UInt8), (32 : UInt8), (97 : UInt8), (116 : UInt8), (116 : UInt8), (114 : UInt8), (105 : UInt8), (98 : UInt8), (117 : UInt8), (116 : UInt8), (101 : UInt8), (32 : UInt8), (115 : UInt8), (101 : UInt8), (108 : UInt8), (101 : UInt8), (99 : UInt8), (116 : UInt8), (111 : UInt8), (114 : UInt8)]) fun (r : Bool) => some (([], [], [], false), r, r_2.2.1, r_2.2.2.1, r_2.2.2.2.1, r_2.2.2.2.2) else Option.bind (atI r_2.2.1 r_2.2.2.1) fun (c : UInt8) => bif decide ((↑(UInt8.toNat c) : Int) = (105 : Int)) then Option.bind (m_cascadia_parser_skipWhitespace (r_2.2.1, IntKind.wrap .i64 (r_2.2.2.1 + (1 : Int)), r_2.2.2.2.1, r_2.2.2.2.2)) fun (r_3 : Bool × List UInt8 × Int × Int × Bool) => bif decide ((↑(List.length r_3.2.1) : Int) ≤ r_3.2.2.1) then Option.bind (m_errors_New [(117 : UInt8), (110 : UInt8), (101 : UInt8), (120 : UInt8), (112 : UInt8), (101 : UInt8), (99 : UInt8), (116 : UInt8), (101 : UInt8), (100 : UInt8), (32 : UInt8), (69 : UInt8), (79 : UInt8), (70 : UInt8), (32 : UInt8), (105 : UInt8), (110 : UInt8), (32 : UInt8), (97 : UInt8), (116 : UInt8), (116 : UInt8), (114 : UInt8), (105 : UInt8), (98 : UInt8), (117 : UInt8), (116 : UInt8), (101 : UInt8), (32 : UInt8), (115 : UInt8), (101 : UInt8), (108 : UInt8), (101 : UInt8), (99 : UInt8), (116 : UInt8), (111 : UInt8), (114 : UInt8)]) fun (r : Bool) => some (([], [], [], false), r, r_3.2.1, r_3.2.2.1, r_3.2.2.2.1, r_3.2.2.2.2) else Option.bind (atI r_3.2.1 r_3.2.2.1) fun (c : UInt8) => bif decide ((↑(UInt8.toNat c) : Int) ≠ (93 : Int)) then Option.bind (m_errors_New [(101 : UInt8), (120 : UInt8), (112 : UInt8), (101 : UInt8), (99 : UInt8), (116 : UInt8), (101 : UInt8), (100 : UInt8), (32 : UInt8), (39 : UInt8), (93 : UInt8), (39 : UInt8), (44 : UInt8), (32 : UInt8), (102 : UInt8), (111 : UInt8), (117 : UInt8), (110 : UInt8), (100 : UInt8), (32 : UInt8), (46 : UInt8), (46 : UInt8), (32 : UInt8), (105 : UInt8), (110 : UInt8), (115 : UInt8), (116 : UInt8), (101 : UInt8), (97 : UInt8), (100 : UInt8)]) fun (r : Bool) => some (([], [], [], false), r, r_3.2.1, r_3.2.2.1, r_3.2.2.2.1, r_3.2.2.2.2) else some ((r_1, r.1, [(61 : UInt8)], true), false, r_3.2.1, IntKind.wrap .i64 (r_3.2.2.1 + (1 : Int)), r_3.2.2.2.1, r_3.2.2.2.2) else Option.bind (atI r_2.2.1 r_2.2.2.1) fun (c : UInt8) => bif decide ((↑(UInt8.toNat c) : Int) = (73 : Int)) then Option.bind (m_cascadia_parser_skipWhitespace (r_2.2.1, IntKind.wrap .i64 (r_2.2.2.1 + (1 : Int)), r_2.2.2.2.1, r_2.2.2.2.2)) fun (r_3 : Bool × List UInt8 × Int × Int × Bool) => bif decide ((↑(List.length r_3.2.1) : Int) ≤ r_3.2.2.1) then Option.bind (m_errors_New [(117 : UInt8), (110 : UInt8), (101 : UInt8), (120 : UInt8), (112 : UInt8), (101 : UInt8), (99 : UInt8), (116 : UInt8), (101 : UInt8), (100 : UInt8), (32 : UInt8), (69 : UInt8), (79 : UInt8), (70 : UInt8), (32 : UInt8), (105 : UInt8), (110 : UInt8), (32 : UInt8), (97 : UInt8), (116 : UInt8), (116 : UInt8), (114 : UInt8), (105 : UInt8), (98 : UInt8), (117 : UInt8), (116 : UInt8), (101 : UInt8), (32 : UInt8), (115 : UInt8), (101 : UInt8), (108 : UInt8), (101 : UInt8), (99 : UInt8), (116 : UInt8), (111 : UInt8), (114 : UInt8)]) fun (r : Bool) => some (([], [], [], false), r, r_3.2.1, r_3.2.2.1, r_3.2.2.2.1, r_3.2.2.2.2) else Option.bind (atI r_3.2.1 r_3.2.2.1) fun (c : UInt8) => bif decide ((↑(UInt8.toNat c) : Int) ≠ (93 : Int)) then Option.bind (m_errors_New [(101 : UInt8), (120 : UInt8), (112 : UInt8), (101 : UInt8), (99 : UInt8), (116 : UInt8), (101 : UInt8), (100 : UInt8), (32 : UInt8), (39 : UInt8), (93 : UInt8), (39 : UInt8), (44 : UInt8), (32 : UInt8), (102 : UInt8), (111 : UInt8), (117 : UInt8), (110 : UInt8), (100 : UInt8), (32 : UInt8), (46 : UInt8), (46 : UInt8), (32 : UInt8), (105 : UInt8), (110 : UInt8), (115 : UInt8), (116 : UInt8), (101 : UInt8), (97 : UInt8), (100 : UInt8)]) fun (r : Bool) => some (([], [], [], false), r, r_3.2.1, r_3.2.2.1, r_3.2.2.2.1, r_3.2.2.2.2) else some ((r_1, r.1, [(61 : UInt8)], true), false, r_3.2.1, IntKind.wrap .i64 (r_3.2.2.1 + (1 : Int)), r_3.2.2.2.1, r_3.2.2.2.2) else Option.bind (m_cascadia_parser_skipWhitespace (r_2.2.1, r_2.2.2.1, r_2.2.2.2.1, r_2.2.2.2.2)) fun (r_3 : Bool × List UInt8 × Int × Int × Bool) => bif decide ((↑(List.length r_3.2.1) : Int) ≤ r_3.2.2.1) then Option.bind (m_errors_New [(117 : UInt8), (110 : UInt8), (101 : UInt8), (120 : UInt8), (112 : UInt8), (101 : UInt8), (99 : UInt8), (116 : UInt8), (101 : UInt8), (100 : UInt8), (32 : UInt8), (69 : UInt8), (79 : UInt8), (70 : UInt8), (32 : UInt8), (105 : UInt8), (110 : UInt8), (32 : UInt8), (97 : UInt8), (116 : UInt8), (116 : UInt8), (114 : UInt8), (105 : UInt8), (98 : UInt8), (117 : UInt8), (116 : UInt8), (101 : UInt8), (32 : UInt8), (115 : UInt8), (101 : UInt8), (108 : UInt8), (101 : UInt8), (99 : UInt8), (116 : UInt8), (111 : UInt8), (114 : UInt8)]) fun (r : Bool) => some (([], [], [], false), r, r_3.2.1, r_3.2.2.1, r_3.2.2.2.1, r_3.2.2.2.2) else Option.bind (atI r_3.2.1 r_3.2.2.1) fun (c : UInt8) => bif decide ((↑(UInt8.toNat c) : Int) ≠ (93 : Int)) then Option.bind (m_errors_New [(101 : UInt8), (120 : UInt8), (112 : UInt8), (101 : UInt8), (99 : UInt8), (116 : UInt8), (101 : UInt8), (100 : UInt8), (32 : UInt8), (39 : UInt8), (93 : UInt8), (39 : UInt8), (44 : UInt8), (32 : UInt8), (102 : UInt8), (111 : UInt8), (117 : UInt8), (110 : UInt8), (100 : UInt8), (32 : UInt8), (46 : UInt8), (46 : UInt8), (32 : UInt8), (105 : UInt8), (110 : UInt8), (115 : UInt8), (116 : UInt8), (101 : UInt8), (97 : UInt8), (100 : UInt8)]) fun (r : Bool) => some (([], [], [], false), r, r_3.2.1, r_3.2.2.1, r_3.2.2.2.1, r_3.2.2.2.2) else some ((r_1, r.1, [(61 : UInt8)], false), false, r_3.2.1, IntKind.wrap .i64 (r_3.2.2.1 + (1 : Int)), r_3.2.2.2.1, r_3.2.2.2.2) else Option.bind (atI m (1 : Int)) fun (c : UInt8) => bif decide ((↑(UInt8.toNat c) : Int) ≠ (61 : Int)) then Option.bind (m_errors_New [(101 : UInt8), (120 : UInt8), (112 : UInt8), (101 : UInt8), (99 : UInt8), (116 : UInt8), (101 : UInt8), (100 : UInt8), (32 : UInt8), (101 : UInt8), (113 : UInt8), (117 : UInt8), (97 : UInt8), (108 : UInt8), (105 : UInt8), (116 : UInt8), (121 : UInt8), (32 : UInt8), (111 : UInt8), (112 : UInt8), (101 : UInt8), (114 : UInt8), (97 : UInt8), (116 : UInt8), (111 : UInt8), (114 : UInt8), (44 : UInt8), (32 : UInt8), (102 : UInt8), (111 : UInt8), (117 : UInt8), (110 : UInt8), (100 : UInt8), (32 : UInt8), (46 : UInt8), (46 : UInt8), (32 : UInt8), (105 : UInt8), (110 : UInt8), (115 : UInt8), (116 : UInt8), (101 : UInt8), (97 : UInt8), (100 : UInt8)]) fun (r_2 : Bool) => some (([], [], [], false), r_2, r.2.1, r.2.2.1, r.2.2.2.1, r.2.2.2.2) else Option.bind (m_cascadia_parser_skipWhitespace (r.2.1, IntKind.wrap .i64 (r.2.2.1 + (↑(List.length m) : Int)), r.2.2.2.1, r.2.2.2.2)) fun (r : Bool × List UInt8 × Int × Int × Bool) => bif decide ((↑(List.length r.2.1) : Int) ≤ r.2.2.1) then Option.bind (m_errors_New [(117 : UInt8), (110 : UInt8), (101 : UInt8), (120 : UInt8), (112 : UInt8), (101 : UInt8), (99 : UInt8), (116 : UInt8), (101 : UInt8), (100 : UInt8), (32 : UInt8), (69 : UInt8), (79 : UInt8), (70 : UInt8), (32 : UInt8), (105 : UInt8), (110 : UInt8), (32 : UInt8), (97 : UInt8), (116 : UInt8), (116 : UInt8), (114 : UInt8), (105 : UInt8), (98 : UInt8), (117 : UInt8), (116 : UInt8), (101 : UInt8), (32 : UInt8), (115 : UInt8), (101 : UInt8), (108 : UInt8), (101 : UInt8), (99 : UInt8), (116 : UInt8), (111 : UInt8), (114 : UInt8)]) fun (r_2 : Bool) => some (([], [], [], false), r_2, r.2.1, r.2.2.1, r.2.2.2.1, r.2.2.2.2) else Option.bind (atI r.2.1 r.2.2.1) fun (c : UInt8) => bif decide ((↑(UInt8.toNat c) : Int) = (39 : Int)) then Option.bind (m_cascadia_parser_parseString (r.2.1, r.2.2.1, r.2.2.2.1, r.2.2.2.2)) fun (r : List UInt8 × Bool × List UInt8 × Int × Int × Bool) => bif !!r.2.1 then some (([], [], [], false), r.2.1, r.2.2.1, r.2.2.2.1, r.2.2.2.2.1, r.2.2.2.2.2) else Option.bind (m_cascadia_parser_skipWhitespace (r.2.2.1, r.2.2.2.1, r.2.2.2.2.1, r.2.2.2.2.2)) fun (r_2 : Bool × List UInt8 × Int × Int × Bool) => bif decide ((↑(List.length r_2.2.1) : Int) ≤ r_2.2.2.1) then Option.bind (m_errors_New [(117 : UInt8), (110 : UInt8), (101 : UInt8), (120 : UInt8), (112 : UInt8), (101 : UInt8), (99 : UInt8), (116 : UInt8), (101 : UInt8), (100 : UInt8), (32 : UInt8), (69 : UInt8), (79 : UInt8), (70 : UInt8), (32 : UInt8), (105 : UInt8), (110 : UInt8), (32 : UInt8), (97 : UInt8), (116 : UInt8), (116 : UInt8), (114 : UInt8), (105 : UInt8), (98 : UInt8), (117 : UInt8), (116 : UInt8), (101 : UInt8), (32 : UInt8), (115 : UInt8), (101 : UInt8), (108 : UInt8), (101 : UInt8), (99 : UInt8), (116 : UInt8), (111 : UInt8), (114 : UInt8)]) fun (r : Bool) => some (([], [], [], false), r, r_2.2.1, r_2.2.2.1, r_2.2.2.2.1, r_2.2.2.2.2) else Option.bind (atI r_2.2.1 r_2.2.2.1) fun (c : UInt8) => bif decide ((↑(UInt8.toNat c) : Int) = (105 : Int)) then Option.bind (m_cascadia_parser_skipWhitespace (r_2.2.1, IntKind.wrap .i64 (r_2.2.2.1 + (1 : Int)), r_2.2.2.2.1, r_2.2.2.2.2)) fun (r_3 : Bool × List UInt8 × Int × Int × Bool) => bif decide ((↑(List.length r_3.2.1) : Int) ≤ r_3.2.2.1) then Option.bind (m_errors_New [(117 : UInt8), (110 : UInt8), (101 : UInt8), (120 : UInt8), (112 : UInt8), (101 : UInt8), (99 : UInt8), (116 : UInt8), (101 : UInt8), (100 : UInt8), (32 : UInt8), (69 : UInt8), (79 : UInt8), (70 : UInt8), (32 : UInt8), (105 : UInt8), (110 : UInt8), (32 : UInt8), (97 : UInt8), (116 : UInt8), (116 : UInt8), (114 : UInt8), (105 : UInt8), (98 : UInt8), (117 : UInt8), (116 : UInt8), (101 : UInt8), (32 : UInt8), (115 : UInt8), (101 : UInt8), (108 : UInt8), (101 : UInt8), (99 : UInt8), (116 : UInt8), (111 : UInt8), (114 : UInt8)]) fun (r : Bool) => some (([], [], [], false), r, r_3.2.1, r_3.2.2.1, r_3.2.2.2.1, r_3.2.2.2.2) else Option.bind (atI r_3.2.1 r_3.2.2.1) fun (c : UInt8) => bif decide ((↑(UInt8.toNat c) : Int) ≠ (93 : Int)) then Option.bind (m_errors_New [(101 : UInt8), (120 : UInt8), (112 : UInt8), (101 : UInt8), (99 : UInt8), (116 : UInt8), (101 : UInt8), (100 : UInt8), (32 : UInt8), (39 : UInt8), (93 : UInt8), (39 : UInt8), (44 : UInt8), (32 : UInt8), (102 : UInt8), (111 : UInt8), (117 : UInt8), (110 : UInt8), (100 : UInt8), (32 : UInt8), (46 : UInt8), (46 : UInt8), (32 : UInt8), (105 : UInt8), (110 : UInt8), (115 : UInt8), (116 : UInt8), (101 : UInt8), (97 : UInt8), (100 : UInt8)]) fun (r : Bool) => some (([], [], [], false), r, r_3.2.1, r_3.2.2.1, r_3.2.2.2.1, r_3.2.2.2.2) else bif decide (m = Array.toList (ByteArray.data { data := #[(61 : UInt8)] })) then some ((r_1, r.1, m, true), false, r_3.2.1, IntKind.wrap .i64 (r_3.2.2.1 + (1 : Int)), r_3.2.2.2.1, r_3.2.2.2.2) else bif decide (m = Array.toList (ByteArray.data { data := #[(33 : UInt8), (61 : UInt8)] })) then some ((r_1, r.1, m, true), false, r_3.2.1, IntKind.wrap .i64 (r_3.2.2.1 + (1 : Int)), r_3.2.2.2.1, r_3.2.2.2.2) else bif decide (m = Array.toList (ByteArray.data { data := #[(126 : UInt8), (61 : UInt8)] })) then some ((r_1, r.1, m, true), false, r_3.2.1, IntKind.wrap .i64 (r_3.2.2.1 + (1 : Int)), r_3.2.2.2.1, r_3.2.2.2.2) else bif decide (m = Array.toList (ByteArray.data { data := #[(124 : UInt8), (61 : UInt8)] })) then some ((r_1, r.1, m, true), false, r_3.2.1, IntKind.wrap .i64 (r_3.2.2.1 + (1 : Int)), r_3.2.2.2.1, r_3.2.2.2.2) else bif decide (m = Array.toList (ByteArray.data { data := #[(94 : UInt8), (61 : UInt8)] })) then some ((r_1, r.1, m, true), false, r_3.2.1, IntKind.wrap .i64 (r_3.2.2.1 + (1 : Int)), r_3.2.2.2.1, r_3.2.2.2.2) else bif decide (m = Array.toList (ByteArray.data { data := #[(36 : UInt8), (61 : UInt8)] })) then some ((r_1, r.1, m, true), false, r_3.2.1, IntKind.wrap .i64 (r_3.2.2.1 + (1 : Int)), r_3.2.2.2.1, r_3.2.2.2.2) else bif decide (m = Array.toList (ByteArray.data { data := #[(42 : UInt8), (61 : UInt8)] })) then some ((r_1, r.1, m, true), false, r_3.2.1, IntKind.wrap .i64 (r_3.2.2.1 + (1 : Int)), r_3.2.2.2.1, r_3.2.2.2.2) else Option.bind (m_errors_New [(97 : UInt8), (116 : UInt8), (116 : UInt8), (114 : UInt8), (105 : UInt8), (98 : UInt8), (117 : UInt8), (116 : UInt8), (101 : UInt8), (32 : UInt8), (111 : UInt8), (112 : UInt8), (101 : UInt8), (114 : UInt8), (97 : UInt8), (116 : UInt8), (111 : UInt8), (114 : UInt8), (32 : UInt8), (46 : UInt8), (46 : UInt8), (32 : UInt8), (105 : UInt8), (115 : UInt8), (32 : UInt8), (110 : UInt8), (111 : UInt8), (116 : UInt8), (32 : UInt8), (115 : UInt8), (117 : UInt8), (112 : UInt8), (112 : UInt8), (111 : UInt8), (114 : UInt8), (116 : UInt8), (101 : UInt8), (100 : UInt8)]) fun (r : Bool) => some (([], [], [], false), r, r_3.2.1, IntKind.wrap .i64 (r_3.2.2.1 + (1 : Int)), r_3.2.2.2.1, r_3.2.2.2.2) else Option.bind (atI r_2.2.1 r_2.2.2.1) fun (c : UInt8) => bif decide ((↑(UInt8.toNat c) : Int) = (73 : Int)) then Option.bind (m_cascadia_parser_skipWhitespace (r_2.2.1, IntKind.wrap .i64 (r_2.2.2.1 + (1 : Int)), r_2.2.2.2.1, r_2.2.2.2.2)) fun (r_3 : Bool × List UInt8 × Int × Int × Bool) => bif decide ((↑(List.length r_3.2.1) : Int) ≤ r_3.2.2.1) then Option.bind (m_errors_New [(117 : UInt8), (110 : UInt8), (101 : UInt8), (120 : UInt8), (112 : UInt8), (101 : UInt8), (99 : UInt8), (116 : UInt8), (101 : UInt8), (100 : UInt8), (32 : UInt8), (69 : UInt8), (79 : UInt8), (70 : UInt8), (32 : UInt8), (105 : UInt8), (110 : UInt8), (32 : UInt8), (97 : UInt8), (116 : UInt8), (116 : UInt8), (114 : UInt8), (105 : UInt8), (98 : UInt8), (117 : UInt8), (116 : UInt8), (101 : UInt8), (32 : UInt8), (115 : UInt8), (101 : UInt8), (108 : UInt8), (101 : UInt8), (99 : UInt8), (116 : UInt8), (111 : UInt8), (114 : UInt8)]) fun (r : Bool) => some (([], [], [], false), r, r_3.2.1, r_3.2.2.1, r_3.2.2.2.1, r_3.2.2.2.2) else Option.bind (atI r_3.2.1 r_3.2.2.1) fun (c : UInt8) => bif decide ((↑(UInt8.toNat c) : Int) ≠ (93 : Int)) then Option.bind (m_errors_New [(101 : UInt8), (120 : UInt8), (112 : UInt8), (101 : UInt8), (99 : UInt8), (116 : UInt8), (101 : UInt8), (100 : UInt8), (32 : UInt8), (39 : UInt8), (93 : UInt8), (39 : UInt8), (44 : UInt8), (32 : UInt8), (102 : UInt8), (111 : UInt8), (117 : UInt8), (110 : UInt8), (100 : UInt8), (32 : UInt8), (46 : UInt8), (46 : UInt8), (32 : UInt8), (105 : UInt8), (110 : UInt8), (115 : UInt8), (116 : UInt8), (101 : UInt8), (97 : UInt8), (100 : UInt8)]) fun (r : Bool) => some (([], [], [], false), r, r_3.2.1, r_3.2.2.1, r_3.2.2.2.1, r_3.2.2.2.2) else bif decide (m = Array.toList (ByteArray.data { data := #[(61 : UInt8)] })) then some ((r_1, r.1, m, true), false, r_3.2.1, IntKind.wrap .i64 (r_3.2.2.1 + (1 : Int)), r_3.2.2.2.1, r_3.2.2.2.2) else bif decide (m = Array.toList (ByteArray.data { data := #[(33 : UInt8), (61 : UInt8)] })) then some ((r_1, r.1, m, true), false, r_3.2.1, IntKind.wrap .i64 (r_3.2.2.1 + (1 : Int)), r_3.2.2.2.1, r_3.2.2.2.2) else bif decide (m = Array.toList (ByteArray.data { data := #[(126 : UInt8), (61 : UInt8)] })) then some ((r_1, r.1, m, true), false, r_3.2.1, IntKind.wrap .i64 (r_3.2.2.1 + (1 : Int)), r_3.2.2.2.1, r_3.2.2.2.2) else bif decide (m = Array.toList (ByteArray.data { data := #[(124 : UInt8), (61 : UInt8)] })) then some ((r_1, r.1, m, true), false, r_3.2.1, IntKind.wrap .i64 (r_3.2.2.1 + (1 : Int)), r_3.2.2.2.1, r_3.2.2.2.2) else bif decide (m = Array.toList (ByteArray.data { data := #[(94 : UInt8), (61 : UInt8)] })) then some ((r_1, r.1, m, true), false, r_3.2.1, IntKind.wrap .i64 (r_3.2.2.1 + (1 : Int)), r_3.2.2.2.1, r_3.2.2.2.2) else bif decide (m = Array.toList (ByteArray.data { data := #[(36 : UInt8), (61 : UInt8)] })) then some ((r_1, r.1, m, true), false, r_3.2.1, IntKind.wrap .i64 (r_3.2.2.1 + (1 : Int)), r_3.2.2.2.1, r_3.2.2.2.2) else bif decide (m = Array.toList (ByteArray.data { data := #[(42 : UInt8), (61 : UInt8)] })) then some ((r_1, r.1, m, true), false, r_3.2.1, IntKind.wrap .i64 (r_3.2.2.1 + (1 : Int)), r_3.2.2.2.1, r_3.2.2.2.2) else Option.bind (m_errors_New [(97 : UInt8), (116 : UInt8), (116 : UInt8), (114 : UInt8), (105 : UInt8), (98 : UInt8), (117 : UInt8), (116 : UInt8), (101 : UInt8), (32 : UInt8), (111 : UInt8), (112 : UInt8), (101 : UInt8), (114 : UInt8), (97 : UInt8), (116 : UInt8), (111 : UInt8), (114 : UInt8), (32 : UInt8), (46 : UInt8), (46 : UInt8), (32 : UInt8), (105 : UInt8), (115 : UInt8), (32 : UInt8), (110 : UInt8), (111 : UInt8), (116 : UInt8), (32 : UInt8), (115 : UInt8), (117 : UInt8), (112 : UInt8), (112 : UInt8), (111 : UInt8), (114 : UInt8), (116 : UInt8), (101 : UInt8), (100 : UInt8)]) fun (r : Bool) => some (([], [], [], false), r, r_3.2.1, IntKind.wrap .i64 (r_3.2.2.1 + (1 : Int)), r_3.2.2.2.1, r_3.2.2.2.2) else Option.bind (m_cascadia_parser_skipWhitespace (r_2.2.1, r_2.2.2.1, r_2.2.2.2.1, r_2.2.2.2.2)) fun (r_3 : Bool × List UInt8 × Int × Int × Bool) => bif decide ((↑(List.length r_3.2.1) : Int) ≤ r_3.2.2.1) then Option.bind (m_errors_New [(117 : UInt8), (110 : UInt8), (101 : UInt8), (120 : UInt8), (112 : UInt8), (101 : UInt8), (99 : UInt8), (116 : UInt8), (101 : UInt8), (100 : UInt8), (32 : UInt8), (69 : UInt8), (79 : UInt8), (70 : UInt8), (32 : UInt8), (105 : UInt8), (110 : UInt8), (32 : UInt8), (97 : UInt8), (116 : UInt8), (116 : UInt8), (114 : UInt8), (105 : UInt8), (98 : UInt8), (117 : UInt8), (116 : UInt8), (101 : UInt8), (32 : UInt8), (115 : UInt8), (101 : UInt8), (108 : UInt8), (101 : UInt8), (99 : UInt8), (116 : UInt8), (111 : UInt8), (114 : UInt8)]) fun (r : Bool) => some (([], [], [], false), r, r_3.2.1, r_3.2.2.1, r_3.2.2.2.1, r_3.2.2.2.2) else Option.bind (atI r_3.2.1 r_3.2.2.1) fun (c : UInt8) => bif decide ((↑(UInt8.toNat c) : Int) ≠ (93 : Int)) then Option.bind (m_errors_New [(101 : UInt8), (120 : UInt8), (112 : UInt8), (101 : UInt8), (99 : UInt8), (116 : UInt8), (101 : UInt8), (100 : UInt8), (32 : UInt8), (39 : UInt8), (93 : UInt8), (39 : UInt8), (44 : UInt8), (32 : UInt8), (102 : UInt8), (111 : UInt8), (117 : UInt8), (110 : UInt8), (100 : UInt8), (32 : UInt8), (46 : UInt8), (46 : UInt8), (32 : UInt8), (105 : UInt8), (110 : UInt8), (115 : UInt8), (116 : UInt8), (101 : UInt8), (97 : UInt8), (100 : UInt8)]) fun (r : Bool) => some (([], [], [], false), r, r_3.2.1, r_3.2.2.1, r_3.2.2.2.1, r_3.2.2.2.2) else bif decide (m = Array.toList (ByteArray.data { data := #[(61 : UInt8)] })) then some ((r_1, r.1, m, false), false, r_3.2.1, IntKind.wrap .i64 (r_3.2.2.1 + (1 : Int)), r_3.2.2.2.1, r_3.2.2.2.2) else bif decide (m = Array.toList (ByteArray.data { data := #[(33 : UInt8), (61 : UInt8)] })) then some ((r_1, r.1, m, false), false, r_3.2.1, IntKind.wrap .i64 (r_3.2.2.1 + (1 : Int)), r_3.2.2.2.1, r_3.2.2.2.2) else bif decide (m = Array.toList (ByteArray.data { data := #[(126 : UInt8), (61 : UInt8)] })) then some ((r_1, r.1, m, false), false, r_3.2.1, IntKind.wrap .i64 (r_3.2.2.1 + (1 : Int)), r_3.2.2.2.1, r_3.2.2.2.2) else bif decide (m = Array.toList (ByteArray.data { data := #[(124 : UInt8), (61 : UInt8)] })) then some ((r_1, r.1, m, false), false, r_3.2.1, IntKind.wrap .i64 (r_3.2.2.1 + (1 : Int)), r_3.2.2.2.1, r_3.2.2.2.2) else bif decide (m = Array.toList (ByteArray.data { data := #[(94 : UInt8), (61 : UInt8)] })) then some ((r_1, r.1, m, false), false, r_3.2.1, IntKind.wrap .i64 (r_3.2.2.1 + (1 : Int)), r_3.2.2.2.1, r_3.2.2.2.2) else bif decide (m = Array.toList (ByteArray.data { data := #[(36 : UInt8), (61 : UInt8)] })) then some ((r_1, r.1, m, false), false, r_3.2.1, IntKind.wrap .i64 (r_3.2.2.1 + (1 : Int)), r_3.2.2.2.1, r_3.2.2.2.2) else bif decide (m = Array.toList (ByteArray.data { data := #[(42 : UInt8), (61 : UInt8)] })) then some ((r_1, r.1, m, false), false, r_3.2.1, IntKind.wrap .i64 (r_3.2.2.1 + (1 : Int)), r_3.2.2.2.1, r_3.2.2.2.2) else Option.bind (m_errors_New [(97 : UInt8), (116 : UInt8), (116 : UInt8), (114 : UInt8), (105 : UInt8), (98 : UInt8), (117 : UInt8), (116 : UInt8), (101 : UInt8), (32 : UInt8), (111 : UInt8), (112 : UInt8), (101 : UInt8), (114 : UInt8), (97 : UInt8), (116 : UInt8), (111 : UInt8), (114 : UInt8), (32 : UInt8), (46 : UInt8), (46 : UInt8), (32 : UInt8), (105 : UInt8), (115 : UInt8), (32 : UInt8), (110 : UInt8), (111 : UInt8), (116 : UInt8), (32 : UInt8), (115 : UInt8), (117 : UInt8), (112 : UInt8), (112 : UInt8), (111 : UInt8), (114 : UInt8), (116 : UInt8), (101 : UInt8), (100 : UInt8)]) fun (r : Bool) => some (([], [], [], false), r, r_3.2.1, IntKind.wrap .i64 (r_3.2.2.1 + (1 : Int)), r_3.2.2.2.1, r_3.2.2.2.2) else bif decide ((↑(UInt8.toNat c) : Int) = (34 : Int)) then Option.bind (m_cascadia_parser_parseString (r.2.1, r.2.2.1, r.2.2.2.1, r.2.2.2.2)) fun (r : List UInt8 × Bool × List UInt8 × Int × Int × Bool) => bif !!r.2.1 then some (([], [], [], false), r.2.1, r.2.2.1, r.2.2.2.1, r.2.2.2.2.1, r.2.2.2.2.2) else Option.bind (m_cascadia_parser_skipWhitespace (r.2.2.1, r.2.2.2.1, r.2.2.2.2.1, r.2.2.2.2.2)) fun (r_2 : Bool × List UInt8 × Int × Int × Bool) => bif decide ((↑(List.length r_2.2.1) : Int) ≤ r_2.2.2.1) then Option.bind (m_errors_New [(117 : UInt8), (110 : UInt8), (101 : UInt8), (120 : UInt8), (112 : UInt8), (101 : UInt8), (99 : UInt8), (116 : UInt8), (101 : UInt8), (100 : UInt8), (32 : UInt8), (69 : UInt8), (79 : UInt8), (70 : UInt8), (32 : UInt8), (105 : UInt8), (110 : UInt8), (32 : UInt8), (97 : UInt8), (116 : UInt8), (116 : UInt8), (114 : UInt8), (105 : UInt8), (98 : UInt8), (117 : UInt8), (116 : UInt8), (101 : UInt8), (32 : UInt8), (115 : UInt8), (101 : UInt8), (108 : UInt8), (101 : UInt8), (99 : UInt8), (116 : UInt8), (111 : UInt8), (114 : UInt8)]) fun (r : Bool) => some (([], [], [], false), r, r_2.2.1, r_2.2.2.1, r_2.2.2.2.1, r_2.2.2.2.2) else Option.bind (atI r_2.2.1 r_2.2.2.1) fun (c : UInt8) => bif decide ((↑(UInt8.toNat c) : Int) = (105 : Int)) then Option.bind (m_cascadia_parser_skipWhitespace (r_2.2.1, IntKind.wrap .i64 (r_2.2.2.1 + (1 : Int)), r_2.2.2.2.1, r_2.2.2.2.2)) fun (r_3 : Bool × List UInt8 × Int × Int × Bool) => bif decide ((↑(List.length r_3.2.1) : Int) ≤ r_3.2.2.1) then Option.bind (m_errors_New [(117 : UInt8), (110 : UInt8), (101 : UInt8), (120 : UInt8), (112 : UInt8), (101 : UInt8), (99 : UInt8), (116 : UInt8), (101 : UInt8), (100 : UInt8), (32 : UInt8), (69 : UInt8), (79 : UInt8), (70 : UInt8), (32 : UInt8), (105 : UInt8), (110 : UInt8), (32 : UInt8), (97 : UInt8), (116 : UInt8), (116 : UInt8), (114 : UInt8), (105 : UInt8), (98 : UInt8), (117 : UInt8), (116 : UInt8), (101 : UInt8), (32 : UInt8), (115 : UInt8), (101 : UInt8), (108 : UInt8), (101 : UInt8), (99 : UInt8), (116 : UInt8), (111 : UInt8), (114 : UInt8)]) fun (r : Bool) => some (([], [], [], false), r, r_3.2.1, r_3.2.2.1, r_3.2.2.2.1, r_3.2.2.2.2) else Option.bind (atI r_3.2.1 r_3.2.2.1) fun (c : UInt8) => bif decide ((↑(UInt8.toNat c) : Int) ≠ (93 : Int)) then Option.bind (m_errors_New [(101 : UInt8), (120 : UInt8), (112 : UInt8), (101 : UInt8), (99 : UInt8), (116 : UInt8), (101 : UInt8), (100 : UInt8), (32 : UInt8), (39 : UInt8), (93 : UInt8), (39 : UInt8), (44 : UInt8), (32 : UInt8), (102 : UInt8), (111 : UInt8), (117 : UInt8), (110 : UInt8), (100 : UInt8), (32 : UInt8), (46 : UInt8), (46 : UInt8), (32 : UInt8), (105 : UInt8), (110 : UInt8), (115 : UInt8), (116 : UInt8), (101 : UInt8), (97 : UInt8), (100 : UInt8)]) fun (r : Bool) => some (([], [], [], false), r, r_3.2.1, r_3.2.2.1, r_3.2.2.2.1, r_3.2.2.2.2) else bif decide (m = Array.toList (ByteArray.data { data := #[(61 : UInt8)] })) then some ((r_1, r.1, m, true), false, r_3.2.1, IntKind.wrap .i64 (r_3.2.2.1 + (1 : Int)), r_3.2.2.2.1, r_3.2.2.2.2) else bif decide (m = Array.toList (ByteArray.data { data := #[(33 : UInt8), (61 : UInt8)] })) then some ((r_1, r.1, m, true), false, r_3.2.1, IntKind.wrap .i64 (r_3.2.2.1 + (1 : Int)), r_3.2.2.2.1, r_3.2.2.2.2) else bif decide (m = Array.toList (ByteArray.data { data := #[(126 : UInt8), (61 : UInt8)] })) then some ((r_1, r.1, m, true), false, r_3.2.1, IntKind.wrap .i64 (r_3.2.2.1 + (1 : Int)), r_3.2.2.2.1, r_3.2.2.2.2) else bif decide (m = Array.toList (ByteArray.data { data := #[(124 : UInt8), (61 : UInt8)] })) then some ((r_1, r.1, m, true), false, r_3.2.1, IntKind.wrap .i64 (r_3.2.2.1 + (1 : Int)), r_3.2.2.2.1, r_3.2.2.2.2) else bif decide (m = Array.toList (ByteArray.data { data := #[(94 : UInt8), (61 : UInt8)] })) then some ((r_1, r.1, m, true), false, r_3.2.1, IntKind.wrap .i64 (r_3.2.2.1 + (1 : Int)), r_3.2.2.2.1, r_3.2.2.2.2) else bif decide (m = Array.toList (ByteArray.data { data := #[(36 : UInt8), (61 : UInt8)] })) then some ((r_1, r.1, m, true), false, r_3.2.1, IntKind.wrap .i64 (r_3.2.2.1 + (1 : Int)), r_3.2.2.2.1, r_3.2.2.2.2) else bif decide (m = Array.toList (ByteArray.data { data := #[(42 : UInt8), (61 : UInt8)] })) then some ((r_1, r.1, m, true), false, r_3.2.1, IntKind.wrap .i64 (r_3.2.2.1 + (1 : Int)), r_3.2.2.2.1, r_3.2.2.2.2) else Option.bind (m_errors_New [(97 : UInt8), (116 : UInt8), (116 : UInt8), (114 : UInt8), (105 : UInt8), (98 : UInt8), (117 : UInt8), (116 : UInt8), (101 : UInt8), (32 : UInt8), (111 : UInt8), (112 : UInt8), (101 : UInt8), (114 : UInt8), (97 : UInt8), (116 : UInt8), (111 : UInt8), (114 : UInt8), (32 : UInt8), (46 : UInt8), (46 : UInt8), (32 : UInt8), (105 : UInt8), (115 : UInt8), (32 : UInt8), (110 : UInt8), (111 : UInt8), (116 : UInt8), (32 : UInt8), (115 : UInt8), (117 : UInt8), (112 : UInt8), (112 : UInt8), (111 : UInt8), (114 : UInt8), (116 : UInt8), (101 : UInt8), (100 : UInt8)]) fun (r : Bool) => some (([], [], [], false), r, r_3.2.1, IntKind.wrap .i64 (r_3.2.2.1 + (1 : Int)), r_3.2.2.2.1, r_3.2.2.2.2) else Option.bind (atI r_2.2.1 r_2.2.2.1) fun (c : UInt8) => bif decide ((↑(UInt8.toNat c) : Int) = (73 : Int)) then Option.bind (m_cascadia_parser_skipWhitespace (r_2.2.1, IntKind.wrap .i64 (r_2.2.2.1 + (1 : Int)), r_2.2.2.2.1, r_2.2.2.2.2)) fun (r_3 : Bool × List UInt8 × Int × Int × Bool) => bif decide ((↑(List.length r_3.2.1) : Int) ≤ r_3.2.2.1) then Option.bind (m_errors_New [(117 : UInt8), (110 : UInt8), (101 : UInt8), (120 : UInt8), (112 : UInt8), (101 : UInt8), (99 : UInt8), (116 : UInt8), (101 : UInt8), (100 : UInt8), (32 : UInt8), (69 : UInt8), (79 : UInt8), (70 : UInt8), (32 : UInt8), (105 : UInt8), (110 : UInt8), (32 : UInt8), (97 : UInt8), (116 : UInt8), (116 : UInt8), (114 : UInt8), (105 : UInt8), (98 : UInt8), (117 : UInt8), (116 : UInt8), (101 : UInt8), (32 : UInt8), (115 : UInt8), (101 : UInt8), (108 : UInt8), (101 : UInt8), (99 : UInt8), (116 : UInt8), (111 : UInt8), (114 : UInt8)]) fun (r : Bool) => some (([], [], [], false), r, r_3.2.1, r_3.2.2.1, r_3.2.2.2.1, r_3.2.2.2.2) else Option.bind (atI r_3.2.1 r_3.2.2.1) fun (c : UInt8) => bif decide ((↑(UInt8.toNat c) : Int) ≠ (93 : Int)) then Option.bind (m_errors_New [(101 : UInt8), (120 : UInt8), (112 : UInt8), (101 : UInt8), (99 : UInt8), (116 : UInt8), (101 : UInt8), (100 : UInt8), (32 : UInt8), (39 : UInt8), (93 : UInt8), (39 : UInt8), (44 : UInt8), (32 : UInt8), (102 : UInt8), (111 : UInt8), (117 : UInt8), (110 : UInt8), (100 : UInt8), (32 : UInt8), (46 : UInt8), (46 : UInt8), (32 : UInt8), (105 : UInt8), (110 : UInt8), (115 : UInt8), (116 : UInt8), (101 : UInt8), (97 : UInt8), (100 : UInt8)]) fun (r : Bool) => some (([], [], [], false), r, r_3.2.1, r_3.2.2.1, r_3.2.2.2.1, r_3.2.2.2.2) else bif decide (m = Array.toList (ByteArray.data { data := #[(61 : UInt8)] })) then some ((r_1, r.1, m, true), false, r_3.2.1, IntKind.wrap .i64 (r_3.2.2.1 + (1 : Int)), r_3.2.2.2.1, r_3.2.2.2.2) else bif decide (m = Array.toList (ByteArray.data { data := #[(33 : UInt8), (61 : UInt8)] })) then some ((r_1, r.1, m, true), false, r_3.2.1, IntKind.wrap .i64 (r_3.2.2.1 + (1 : Int)), r_3.2.2.2.1, r_3.2.2.2.2) else bif decide (m = Array.toList (ByteArray.data { data := #[(126 : UInt8), (61 : UInt8)] })) then some ((r_1, r.1, m, true), false, r_3.2.1, IntKind.wrap .i64 (r_3.2.2.1 + (1 : Int)), r_3.2.2.2.1, r_3.2.2.2.2) else bif decide (m = Array.toList (ByteArray.data { data := #[(124 : UInt8), (61 : UInt8)] })) then some ((r_1, r.1, m, true), false, r_3.2.1, IntKind.wrap .i64 (r_3.2.2.1 + (1 : Int)), r_3.2.2.2.1, r_3.2.2.2.2) else bif decide (m = Array.toList (ByteArray.data { data := #[(94 : UInt8), (61 : UInt8)] })) then some ((r_1, r.1, m, true), false, r_3.2.1, IntKind.wrap .i64 (r_3.2.2.1 + (1 : Int)), r_3.2.2.2.1, r_3.2.2.2.2) else bif decide (m = Array.toList (ByteArray.data { data := #[(36 : UInt8), (61 : UInt8)] })) then some ((r_1, r.1, m, true), false, r_3.2.1, IntKind.wrap .i64 (r_3.2.2.1 + (1 : Int)), r_3.2.2.2.1, r_3.2.2.2.2) else bif decide (m = Array.toList (ByteArray.data { data := #[(42 : UInt8), (61 : UInt8)] })) then some ((r_1, r.1, m, true), false, r_3.2.1, IntKind.wrap .i64 (r_3.2.2.1 + (1 : Int)), r_3.2.2.2.1, r_3.2.2.2.2) else Option.bind (m_errors_New [(97 : UInt8), (116 : UInt8), (116 : UInt8), (114 : UInt8), (105 : UInt8), (98 : UInt8), (117 : UInt8), (116 : UInt8), (101 : UInt8), (32 : UInt8), (111 : UInt8), (112 : UInt8), (101 : UInt8), (114 : UInt8), (97 : UInt8), (116 : UInt8), (111 : UInt8), (114 : UInt8), (32 : UInt8), (46 : UInt8), (46 : UInt8), (32 : UInt8), (105 : UInt8), (115 : UInt8), (32 : UInt8), (110 : UInt8), (111 : UInt8), (116 : UInt8), (32 : UInt8), (115 : UInt8), (117 : UInt8), (112 : UInt8), (112 : UInt8), (111 : UInt8), (114 : UInt8), (116 : UInt8), (101 : UInt8), (100 : UInt8)]) fun (r : Bool) => some (([], [], [], false), r, r_3.2.1, IntKind.wrap .i64 (r_3.2.2.1 + (1 : Int)), r_3.2.2.2.1, r_3.2.2.2.2) else Option.bind (m_cascadia_parser_skipWhitespace (r_2.2.1, r_2.2.2.1, r_2.2.2.2.1, r_2.2.2.2.2)) fun (r_3 : Bool × List UInt8 × Int × Int × Bool) => bif decide ((↑(List.length r_3.2.1) : Int) ≤ r_3.2.2.1) then Option.bind (m_errors_New [(117 : UInt8), (110 : UInt8), (101 : UInt8), (120 : UInt8), (112 : UInt8), (101 : UInt8), (99 : UInt8), (116 : UInt8), (101 : UInt8), (100 : UInt8), (32 : UInt8), (69 : UInt8), (79 : UInt8), (70 : UInt8), (32 : UInt8), (105 : UInt8), (110 : UInt8), (32 : UInt8), (97 : UInt8), (116 : UInt8), (116 : UInt8), (114 : UInt8), (105 : UInt8), (98 : UInt8), (117 : UInt8), (116 : UInt8), (101 : UInt8), (32 : UInt8), (115 : UInt8), (101 : UInt8), (108 : UInt8), (101 : UInt8), (99 : UInt8), (116 : UInt8), (111 : UInt8), (114 : UInt8)]) fun (r : Bool) => some (([], [], [], false), r, r_3.2.1, r_3.2.2.1, r_3.2.2.2.1, r_3.2.2.2.2) else Option.bind (atI r_3.2.1 r_3.2.2.1) fun (c : UInt8) => bif decide ((↑(UInt8.toNat c) : Int) ≠ (93 : Int)) then Option.bind (m_errors_New [(101 : UInt8), (120 : UInt8), (112 : UInt8), (101 : UInt8), (99 : UInt8), (116 : UInt8), (101 : UInt8), (100 : UInt8), (32 : UInt8), (39 : UInt8), (93 : UInt8), (39 : UInt8), (44 : UInt8), (32 : UInt8), (102 : UInt8), (111 : UInt8), (117 : UInt8), (110 : UInt8), (100 : UInt8), (32 : UInt8), (46 : UInt8), (46 : UInt8), (32 : UInt8), (105 : UInt8), (110 : UInt8), (115 : UInt8), (116 : UInt8), (101 : UInt8), (97 : UInt8), (100 : UInt8)]) fun (r : Bool) => some (([], [], [], false), r, r_3.2.1, r_3.2.2.1, r_3.2.2.2.1, r_3.2.2.2.2) else bif decide (m = Array.toList (ByteArray.data { data := #[(61 : UInt8)] })) then some ((r_1, r.1, m, false), false, r_3.2.1, IntKind.wrap .i64 (r_3.2.2.1 + (1 : Int)), r_3.2.2.2.1, r_3.2.2.2.2) else bif decide (m = Array.toList (ByteArray.data { data := #[(33 : UInt8), (61 : UInt8)] })) then some ((r_1, r.1, m, false), false, r_3.2.1, IntKind.wrap .i64 (r_3.2.2.1 + (1 : Int)), r_3.2.2.2.1, r_3.2.2.2.2) else bif decide (m = Array.toList (ByteArray.data { data := #[(126 : UInt8), (61 : UInt8)] })) then some ((r_1, r.1, m, false), false, r_3.2.1, IntKind.wrap .i64 (r_3.2.2.1 + (1 : Int)), r_3.2.2.2.1, r_3.2.2.2.2) else bif decide (m = Array.toList (ByteArray.data { data := #[(124 : UInt8), (61 : UInt8)] })) then some ((r_1, r.1, m, false), false, r_3.2.1, IntKind.wrap .i64 (r_3.2.2.1 + (1 : Int)), r_3.2.2.2.1, r_3.2.2.2.2) else bif decide (m = Array.toList (ByteArray.data { data := #[(94 : UInt8), (61 : UInt8)] })) then some ((r_1, r.1, m, false), false, r_3.2.1, IntKind.wrap .i64 (r_3.2.2.1 + (1 : Int)), r_3.2.2.2.1, r_3.2.2.2.2) else bif decide (m = Array.toList (ByteArray.data { data := #[(36 : UInt8), (61 : UInt8)] })) then some ((r_1, r.1, m, false), false, r_3.2.1, IntKind.wrap .i64 (r_3.2.2.1 + (1 : Int)), r_3.2.2.2.1, r_3.2.2.2.2) else bif decide (m = Array.toList (ByteArray.data { data := #[(42 : UInt8), (61 : UInt8)] })) then some ((r_1, r.1, m, false), false, r_3.2.1, IntKind.wrap .i64 (r_3.2.2.1 + (1 : Int)), r_3.2.2.2.1, r_3.2.2.2.2) else Option.bind (m_errors_New [(97 : UInt8), (116 : UInt8), (116 : UInt8), (114 : UInt8), (105 : UInt8), (98 : UInt8), (117 : UInt8), (116 : UInt8), (101 : UInt8), (32 : UInt8), (111 : UInt8), (112 : UInt8), (101 : UInt8), (114 : UInt8), (97 : UInt8), (116 : UInt8), (111 : UInt8), (114 : UInt8), (32 : UInt8), (46 : UInt8), (46 : UInt8), (32 : UInt8), (105 : UInt8), (115 : UInt8), (32 : UInt8), (110 : UInt8), (111 : UInt8), (116 : UInt8), (32 : UInt8), (115 : UInt8), (117 : UInt8), (112 : UInt8), (112 : UInt8), (111 : UInt8), (114 : UInt8), (116 : UInt8), (101 : UInt8), (100 : UInt8)]) fun (r : Bool) => some (([], [], [], false), r, r_3.2.1, IntKind.wrap .i64 (r_3.2.2.1 + (1 : Int)), r_3.2.2.2.1, r_3.2.2.2.2) else Option.bind (m_cascadia_parser_parseIdentifier (r.2.1, r.2.2.1, r.2.2.2.1, r.2.2.2.2)) fun (r : List UInt8 × Bool × List UInt8 × Int × Int × Bool) => bif !!r.2.1 then some (([], [], [], false), r.2.1, r.2.2.1, r.2.2.2.1, r.2.2.2.2.1, r.2.2.2.2.2) else Option.bind (m_cascadia_parser_skipWhitespace (r.2.2.1, r.2.2.2.1, r.2.2.2.2.1, r.2.2.2.2.2)) fun (r_2 : Bool × List UInt8 × Int × Int × Bool) => bif decide ((↑(List.length r_2.2.1) : Int) ≤ r_2.2.2.1) then Option.bind (m_errors_New [(117 : UInt8), (110 : UInt8), (101 : UInt8), (120 : UInt8), (112 : UInt8), (101 : UInt8), (99 : UInt8), (116 : UInt8), (101 : UInt8), (100 : UInt8), (32 : UInt8), (69 : UInt8), (79 : UInt8), (70 : UInt8), (32 : UInt8), (105 : UInt8), (110 : UInt8), (32 : UInt8), (97 : UInt8), (116 : UInt8), (116 : UInt8), (114 : UInt8), (105 : UInt8), (98 : UInt8), (117 : UInt8), (116 : UInt8), (101 : UInt8), (32 : UInt8), (115 : UInt8), (101 : UInt8), (108 : UInt8), (101 : UInt8), (99 : UInt8), (116 : UInt8), (111 : UInt8), (114 : UInt8)]) fun (r : Bool) => some (([], [], [], false), r, r_2.2.1, r_2.2.2.1, r_2.2.2.2.1, r_2.2.2.2.2) else Option.bind (atI r_2.2.1 r_2.2.2.1) fun (c : UInt8) => bif decide ((↑(UInt8.toNat c) : Int) = (105 : Int)) then Option.bind (m_cascadia_parser_skipWhitespace (r_2.2.1, IntKind.wrap .i64 (r_2.2.2.1 + (1 : Int)), r_2.2.2.2.1, r_2.2.2.2.2)) fun (r_3 : Bool × List UInt8 × Int × Int × Bool) => bif decide ((↑(List.length r_3.2.1) : Int) ≤ r_3.2.2.1) then Option.bind (m_errors_New [(117 : UInt8), (110 : UInt8), (101 : UInt8), (120 : UInt8), (112 : UInt8), (101 : UInt8), (99 : UInt8), (116 : UInt8), (101 : UInt8), (100 : UInt8), (32 : UInt8), (69 : UInt8), (79 : UInt8), (70 : UInt8), (32 : UInt8), (105 : UInt8), (110 : UInt8), (32 : UInt8), (97 : UInt8), (116 : UInt8), (116 : UInt8), (114 : UInt8), (105 : UInt8), (98 : UInt8), (117 : UInt8), (116 : UInt8), (101 : UInt8), (32 : UInt8), (115 : UInt8), (101 : UInt8), (108 : UInt8), (101 : UInt8), (99 : UInt8), (116 : UInt8), (111 : UInt8), (114 : UInt8)]) fun (r : Bool) => some (([], [], [], false), r, r_3.2.1, r_3.2.2.1, r_3.2.2.2.1, r_3.2.2.2.2) else Option.bind (atI r_3.2.1 r_3.2.2.1) fun (c : UInt8) => bif decide ((↑(UInt8.toNat c) : Int) ≠ (93 : Int)) then Option.bind (m_errors_New [(101 : UInt8), (120 : UInt8), (112 : UInt8), (101 : UInt8), (99 : UInt8), (116 : UInt8), (101 : UInt8), (100 : UInt8), (32 : UInt8), (39 : UInt8), (93 : UInt8), (39 : UInt8), (44 : UInt8), (32 : UInt8), (102 : UInt8), (111 : UInt8), (117 : UInt8), (110 : UInt8), (100 : UInt8), (32 : UInt8), (46 : UInt8), (46 : UInt8), (32 : UInt8), (105 : UInt8), (110 : UInt8), (115 : UInt8), (116 : UInt8), (101 : UInt8), (97 : UInt8), (100 : UInt8)]) fun (r : Bool) => some (([], [], [], false), r, r_3.2.1, r_3.2.2.1, r_3.2.2.2.1, r_3.2.2.2.2) else bif decide (m = Array.toList (ByteArray.data { data := #[(61 : UInt8)] })) then some ((r_1, r.1, m, true), false, r_3.2.1, IntKind.wrap .i64 (r_3.2.2.1 + (1 : Int)), r_3.2.2.2.1, r_3.2.2.2.2) else bif decide (m = Array.toList (ByteArray.data { data := #[(33 : UInt8), (61 : UInt8)] })) then some ((r_1, r.1, m, true), false, r_3.2.1, IntKind.wrap .i64 (r_3.2.2.1 + (1 : Int)), r_3.2.2.2.1, r_3.2.2.2.2) else bif decide (m = Array.toList (ByteArray.data { data := #[(126 : UInt8), (61 : UInt8)] })) then some ((r_1, r.1, m, true), false, r_3.2.1, IntKind.wrap .i64 (r_3.2.2.1 + (1 : Int)), r_3.2.2.2.1, r_3.2.2.2.2) else bif decide (m = Array.toList (ByteArray.data { data := #[(124 : UInt8), (61 : UInt8)] })) then some ((r_1, r.1, m, true), false, r_3.2.1, IntKind.wrap .i64 (r_3.2.2.1 + (1 : Int)), r_3.2.2.2.1, r_3.2.2.2.2) else bif decide (m = Array.toList (ByteArray.data { data := #[(94 : UInt8), (61 : UInt8)] })) then some ((r_1, r.1, m, true), false, r_3.2.1, IntKind.wrap .i64 (r_3.2.2.1 + (1 : Int)), r_3.2.2.2.1, r_3.2.2.2.2) else bif decide (m = Array.toList (ByteArray.data { data := #[(36 : UInt8), (61 : UInt8)] })) then some ((r_1, r.1, m, true), false, r_3.2.1, IntKind.wrap .i64 (r_3.2.2.1 + (1 : Int)), r_3.2.2.2.1, r_3.2.2.2.2) else bif decide (m = Array.toList (ByteArray.data { data := #[(42 : UInt8), (61 : UInt8)] })) then some ((r_1, r.1, m, true), false, r_3.2.1, IntKind.wrap .i64 (r_3.2.2.1 + (1 : Int)), r_3.2.2.2.1, r_3.2.2.2.2) else Option.bind (m_errors_New [(97 : UInt8), (116 : UInt8), (116 : UInt8), (114 : UInt8), (105 : UInt8), (98 : UInt8), (117 : UInt8), (116 : UInt8), (101 : UInt8), (32 : UInt8), (111 : UInt8), (112 : UInt8), (101 : UInt8), (114 : UInt8), (97 : UInt8), (116 : UInt8), (111 : UInt8), (114 : UInt8), (32 : UInt8), (46 : UInt8), (46 : UInt8), (32 : UInt8), (105 : UInt8), (115 : UInt8), (32 : UInt8), (110 : UInt8), (111 : UInt8), (116 : UInt8), (32 : UInt8), (115 : UInt8), (117 : UInt8), (112 : UInt8), (112 : UInt8), (111 : UInt8), (114 : UInt8), (116 : UInt8), (101 : UInt8), (100 : UInt8)]) fun (r : Bool) => some (([], [], [], false), r, r_3.2.1, IntKind.wrap .i64 (r_3.2.2.1 + (1 : Int)), r_3.2.2.2.1, r_3.2.2.2.2) else Option.bind (atI r_2.2.1 r_2.2.2.1) fun (c : UInt8) => bif decide ((↑(UInt8.toNat c) : Int) = (73 : Int)) then Option.bind (m_cascadia_parser_skipWhitespace (r_2.2.1, IntKind.wrap .i64 (r_2.2.2.1 + (1 : Int)), r_2.2.2.2.1, r_2.2.2.2.2)) fun (r_3 : Bool × List UInt8 × Int × Int × Bool) => bif decide ((↑(List.length r_3.2.1) : Int) ≤ r_3.2.2.1) then Option.bind (m_errors_New [(117 : UInt8), (110 : UInt8), (101 : UInt8), (120 : UInt8), (112 : UInt8), (101 : UInt8), (99 : UInt8), (116 : UInt8), (101 : UInt8), (100 : UInt8), (32 : UInt8), (69 : UInt8), (79 : UInt8), (70 : UInt8), (32 : UInt8), (105 : UInt8), (110 : UInt8), (32 : UInt8), (97 : UInt8), (116 : UInt8), (116 : UInt8), (114 : UInt8), (105 : UInt8), (98 : UInt8), (117 : UInt8), (116 : UInt8), (101 : UInt8), (32 : UInt8), (115 : UInt8), (101 : UInt8), (108 : UInt8), (101 : UInt8), (99 : UInt8), (116 : UInt8), (111 : UInt8), (114 : UInt8)]) fun (r : Bool) => some (([], [], [], false), r, r_3.2.1, r_3.2.2.1, r_3.2.2.2.1, r_3.2.2.2.2) else Option.bind (atI r_3.2.1 r_3.2.2.1) fun (c : UInt8) => bif decide ((↑(UInt8.toNat c) : Int) ≠ (93 : Int)) then Option.bind (m_errors_New [(101 : UInt8), (120 : UInt8), (112 : UInt8), (101 : UInt8), (99 : UInt8), (116 : UInt8), (101 : UInt8), (100 : UInt8), (32 : UInt8), (39 : UInt8), (93 : UInt8), (39 : UInt8), (44 : UInt8), (32 : UInt8), (102 : UInt8), (111 : UInt8), (117 : UInt8), (110 : UInt8), (100 : UInt8), (32 : UInt8), (46 : UInt8), (46 : UInt8), (32 : UInt8), (105 : UInt8), (110 : UInt8), (115 : UInt8), (116 : UInt8), (101 : UInt8), (97 : UInt8), (100 : UInt8)]) fun (r : Bool) => some (([], [], [], false), r, r_3.2.1, r_3.2.2.1, r_3.2.2.2.1, r_3.2.2.2.2) else bif decide (m = Array.toList (ByteArray.data { data := #[(61 : UInt8)] })) then some ((r_1, r.1, m, true), false, r_3.2.1, IntKind.wrap .i64 (r_3.2.2.1 + (1 : Int)), r_3.2.2.2.1, r_3.2.2.2.2) else bif decide (m = Array.toList (ByteArray.data { data := #[(33 : UInt8), (61 : UInt8)] })) then some ((r_1, r.1, m, true), false, r_3.2.1, IntKind.wrap .i64 (r_3.2.2.1 + (1 : Int)), r_3.2.2.2.1, r_3.2.2.2.2) else bif decide (m = Array.toList (ByteArray.data { data := #[(126 : UInt8), (61 : UInt8)] })) then some ((r_1, r.1, m, true), false, r_3.2.1, IntKind.wrap .i64 (r_3.2.2.1 + (1 : Int)), r_3.2.2.2.1, r_3.2.2.2.2) else bif decide (m = Array.toList (ByteArray.data { data := #[(124 : UInt8), (61 : UInt8)] })) then some ((r_1, r.1, m, true), false, r_3.2.1, IntKind.wrap .i64 (r_3.2.2.1 + (1 : Int)), r_3.2.2.2.1, r_3.2.2.2.2) else bif decide (m = Array.toList (ByteArray.data { data := #[(94 : UInt8), (61 : UInt8)] })) then some ((r_1, r.1, m, true), false, r_3.2.1, IntKind.wrap .i64 (r_3.2.2.1 + (1 : Int)), r_3.2.2.2.1, r_3.2.2.2.2) else bif decide (m = Array.toList (ByteArray.data { data := #[(36 : UInt8), (61 : UInt8)] })) then some ((r_1, r.1, m, true), false, r_3.2.1, IntKind.wrap .i64 (r_3.2.2.1 + (1 : Int)), r_3.2.2.2.1, r_3.2.2.2.2) else bif decide (m = Array.toList (ByteArray.data { data := #[(42 : UInt8), (61 : UInt8)] })) then some ((r_1, r.1, m, true), false, r_3.2.1, IntKind.wrap .i64 (r_3.2.2.1 + (1 : Int)), r_3.2.2.2.1, r_3.2.2.2.2) else Option.bind (m_errors_New [(97 : UInt8), (116 : UInt8), (116 : UInt8), (114 : UInt8), (105 : UInt8), (98 : UInt8), (117 : UInt8), (116 : UInt8), (101 : UInt8), (32 : UInt8), (111 : UInt8), (112 : UInt8), (101 : UInt8), (114 : UInt8), (97 : UInt8), (116 : UInt8), (111 : UInt8), (114 : UInt8), (32 : UInt8), (46 : UInt8), (46 : UInt8), (32 : UInt8), (105 : UInt8), (115 : UInt8), (32 : UInt8), (110 : UInt8), (111 : UInt8), (116 : UInt8), (32 : UInt8), (115 : UInt8), (117 : UInt8), (112 : UInt8), (112 : UInt8), (111 : UInt8), (114 : UInt8), (116 : UInt8), (101 : UInt8), (100 : UInt8)]) fun (r : Bool) => some (([], [], [], false), r, r_3.2.1, IntKind.wrap .i64 (r_3.2.2.1 + (1 : Int)), r_3.2.2.2.1, r_3.2.2.2.2) else Option.bind (m_cascadia_parser_skipWhitespace (r_2.2.1, r_2.2.2.1, r_2.2.2.2.1, r_2.2.2.2.2)) fun (r_3 : Bool × List UInt8 × Int × Int × Bool) => bif decide ((↑(List.length r_3.2.1) : Int) ≤ r_3.2.2.1) then Option.bind (m_errors_New [(117 : UInt8), (110 : UInt8), (101 : UInt8), (120 : UInt8), (112 : UInt8), (101 : UInt8), (99 : UInt8), (116 : UInt8), (101 : UInt8), (100 : UInt8), (32 : UInt8), (69 : UInt8), (79 : UInt8), (70 : UInt8), (32 : UInt8), (105 : UInt8), (110 : UInt8), (32 : UInt8), (97 : UInt8), (116 : UInt8), (116 : UInt8), (114 : UInt8), (105 : UInt8), (98 : UInt8), (117 : UInt8), (116 : UInt8), (101 : UInt8), (32 : UInt8), (115 : UInt8), (101 : UInt8), (108 : UInt8), (101 : UInt8), (99 : UInt8), (116 : UInt8), (111 : UInt8), (114 : UInt8)]) fun (r : Bool) => some (([], [], [], false), r, r_3.2.1, r_3.2.2.1, r_3.2.2.2.1, r_3.2.2.2.2) else Option.bind (atI r_3.2.1 r_3.2.2.1) fun (c : UInt8) => bif decide ((↑(UInt8.toNat c) : Int) ≠ (93 : Int)) then Option.bind (m_errors_New [(101 : UInt8), (120 : UInt8), (112 : UInt8), (101 : UInt8), (99 : UInt8), (116 : UInt8), (101 : UInt8), (100 : UInt8), (32 : UInt8), (39 : UInt8), (93 : UInt8), (39 : UInt8), (44 : UInt8), (32 : UInt8), (102 : UInt8), (111 : UInt8), (117 : UInt8), (110 : UInt8), (100 : UInt8), (32 : UInt8), (46 : UInt8), (46 : UInt8), (32 : UInt8), (105 : UInt8), (110 : UInt8), (115 : UInt8), (116 : UInt8), (101 : UInt8), (97 : UInt8), (100 : UInt8)]) fun (r : Bool) => some (([], [], [], false), r, r_3.2.1, r_3.2.2.1, r_3.2.2.2.1, r_3.2.2.2.2) else bif decide (m = Array.toList (ByteArray.data { data := #[(61 : UInt8)] })) then some ((r_1, r.1, m, false), false, r_3.2.1, IntKind.wrap .i64 (r_3.2.2.1 + (1 : Int)), r_3.2.2.2.1, r_3.2.2.2.2) else bif decide (m = Array.toList (ByteArray.data { data := #[(33 : UInt8), (61 : UInt8)] })) then some ((r_1, r.1, m, false), false, r_3.2.1, IntKind.wrap .i64 (r_3.2.2.1 + (1 : Int)), r_3.2.2.2.1, r_3.2.2.2.2) else bif decide (m = Array.toList (ByteArray.data { data := #[(126 : UInt8), (61 : UInt8)] })) then some ((r_1, r.1, m, false), false, r_3.2.1, IntKind.wrap .i64 (r_3.2.2.1 + (1 : Int)), r_3.2.2.2.1, r_3.2.2.2.2) else bif decide (m = Array.toList (ByteArray.data { data := #[(124 : UInt8), (61 : UInt8)] })) then some ((r_1, r.1, m, false), false, r_3.2.1, IntKind.wrap .i64 (r_3.2.2.1 + (1 : Int)), r_3.2.2.2.1, r_3.2.2.2.2) else bif decide (m = Array.toList (ByteArray.data { data := #[(94 : UInt8), (61 : UInt8)] })) then some ((r_1, r.1, m, false), false, r_3.2.1, IntKind.wrap .i64 (r_3.2.2.1 + (1 : Int)), r_3.2.2.2.1, r_3.2.2.2.2) else bif decide (m = Array.toList (ByteArray.data { data := #[(36 : UInt8), (61 : UInt8)] })) then some ((r_1, r.1, m, false), false, r_3.2.1, IntKind.wrap .i64 (r_3.2.2.1 + (1 : Int)), r_3.2.2.2.1, r_3.2.2.2.2) else bif decide (m = Array.toList (ByteArray.data { data := #[(42 : UInt8), (61 : UInt8)] })) then some ((r_1, r.1, m, false), false, r_3.2.1, IntKind.wrap .i64 (r_3.2.2.1 + (1 : Int)), r_3.2.2.2.1, r_3.2.2.2.2) else Option.bind (m_errors_New [(97 : UInt8), (116 : UInt8), (116 : UInt8), (114 : UInt8), (105 : UInt8), (98 : UInt8), (117 : UInt8), (116 : UInt8), (101 : UInt8), (32 : UInt8), (111 : UInt8), (112 : UInt8), (101 : UInt8), (114 : UInt8), (97 : UInt8), (116 : UInt8), (111 : UInt8), (114 : UInt8), (32 : UInt8), (46 : UInt8), (46 : UInt8), (32 : UInt8), (105 : UInt8), (115 : UInt8), (32 : UInt8), (110 : UInt8), (111 : UInt8), (116 : UInt8), (32 : UInt8), (115 : UInt8), (117 : UInt8), (112 : UInt8), (112 : UInt8), (111 : UInt8), (114 : UInt8), (116 : UInt8), (101 : UInt8), (100 : UInt8)]) fun (r : Bool) => some (([], [], [], false), r, r_3.2.1, IntKind.wrap .i64 (r_3.2.2.1 + (1 : Int)), r_3.2.2.2.1, r_3.2.2.2.2)
noncomputable def cx_cascadia_parser_parseAttributeSelector : Cx := ⟨tb, lookE [(33, e_errors_New), (34, e_cascadia_parser_skipWhitespace), (35, e_cascadia_parser_parseIdentifier), (36, e_cascadia_toLowerASCII), (37, e_cascadia_parser_parseString)], lookS [(1, [(true, 0), (true, 1), (true, 2), (true, 3), (true, 4), (true, 5), (true, 6), (true, 7), (true, 8), (true, 9)]), (3, [(true, 0), (true, 1), (true, 2), (true, 3), (true, 4), (true, 5), (true, 6), (true, 7), (true, 8), (true, 9)]), (12, [(true, 0), (true, 1), (true, 2), (true, 3), (true, 4), (true, 5), (true, 6), (true, 7), (true, 8), (true, 9)]), (14, [(true, 0), (true, 1), (true, 2), (true, 3), (true, 4), (true, 5), (true, 6), (true, 7), (true, 8), (true, 9)]), (17, [(true, 0), (true, 1), (true, 2), (true, 3), (true, 4), (true, 5), (true, 6), (true, 7), (true, 8), (true, 9), (true, 10)]), (19, [(true, 0), (true, 1), (true, 2), (true, 3), (true, 4), (true, 5), (true, 6), (true, 7), (true, 8), (true, 9), (true, 10), (true, 11), (true, 12), (true, 13), (true, 14)]), (26, [(true, 0), (true, 1), (true, 2), (true, 3), (true, 4), (true, 5), (true, 6), (true, 7), (true, 8), (true, 9)]), (29, [(true, 0), (true, 1), (true, 2), (true, 3), (true, 4), (true, 5), (true, 6), (true, 7), (true, 8)]), (37, [(true, 0), (true, 1), (true, 2), (true, 3), (true, 4), (true, 5), (true, 6), (true, 7), (true, 8), (true, 9)]), (40, [(true, 0), (true, 1), (true, 2), (true, 3), (true, 4), (true, 5), (true, 6), (true, 7), (true, 8), (true, 9), (true, 10), (true, 11), (true, 12), (true, 13), (true, 14), (true, 15), (true, 16), (true, 17), (true, 18), (true, 19), (true, 20), (true, 21)]), (44, [(true, 0), (true, 1), (true, 2), (true, 3), (true, 4), (true, 5), (true, 6), (true, 7), (true, 8), (true, 9)]), (46, [(true, 0), (true, 1), (true, 2), (true, 3), (true, 4), (true, 5), (true, 6), (true, 7), (true, 8), (true, 9)])]⟩
theorem ck_cascadia_parser_parseAttributeSelector : CxOK Tryz.prog (cx_cascadia_parser_parseAttributeSelector) := cx_ok tb_ok (.cons ok_errors_New Tryz.call33 (.cons ok_cascadia_parser_skipWhitespace Tryz.call34 (.cons ok_cascadia_parser_parseIdentifier Tryz.call35 (.cons ok_cascadia_toLowerASCII Tryz.call36 (.cons ok_cascadia_parser_parseString Tryz.call37 .nil)))))
noncomputable def e_cascadia_parser_parseAttributeSelector : Ent := ⟨1, p_cascadia_parser_parseAttributeSelector, q_cascadia_parser_parseAttributeSelector, m_cascadia_parser_parseAttributeSelector⟩
theorem ok_cascadia_parser_parseAttributeSelector : FnOK Tryz.prog 21 e_cascadia_parser_parseAttributeSelector := fn_ok (L := lookL []) ck_cascadia_parser_parseAttributeSelector mixed Tryz.func21 rfl (by kernel_rfl) (by kernel_rfl) (ls_ok (l := []) (by kernel_rfl) .nil) (by intro x; kernel_rfl)
abbrev p_cascadia_ReadAttribute : Pt := [(0, .str)]
abbrev q_cascadia_ReadAttribute : Pt := [(0, .ifc 58 (.rc .str [.str, .str, .bool] 0)), (1, .int .i64), (2, .err)]
noncomputable def m_cascadia_ReadAttribute : Tup p_cascadia_ReadAttribute → Option (Tup q_cascadia_ReadAttribute) := fun (x : List UInt8) => Option.bind (m_cascadia_parser_parseAttributeSelector (x, (0 : Int), (0 : Int), false)) fun (r : (List UInt8 × List UInt8 × List UInt8 × Bool) × Bool × List UInt8 × Int × Int × Bool) => some ((r.1.1, r.1.2.1, r.1.2.2.1, r.1.2.2.2), r.2.2.2.1, r.2.1)
noncomputable def cx_cascadia_ReadAttribute : Cx := ⟨tb, lookE [(21, e_cascadia_parser_parseAttributeSelector)], lookS [(3, [(true, 0), (true, 1), (true, 2), (true, 3), (true, 4), (true, 5), (true, 6), (true, 7), (true, 8), (true, 9)])]⟩
theorem ck_cascadia_ReadAttribute : CxOK Tryz.prog (cx_cascadia_ReadAttribute) := cx_ok tb_ok (.cons ok_cascadia_parser_parseAttributeSelector Tryz.call21 .nil)
noncomputable def e_cascadia_ReadAttribute : Ent := ⟨0, p_cascadia_ReadAttribute, q_cascadia_ReadAttribute, m_cascadia_ReadAttribute⟩
theorem ok_cascadia_ReadAttribute : FnOK Tryz.prog 9 e_cascadia_ReadAttribute := fn_ok (L := lookL []) ck_cascadia_ReadAttribute mixed Tryz.func9 rfl (by kernel_rfl) (by kernel_rfl) (ls_ok (l := []) (by kernel_rfl) .nil) (by intro x; kernel_rfl)
abbrev p_cascadia_Take : Pt := [(0, .ifc 58 (.rc .str [.str, .str, .bool] 0))]
abbrev q_cascadia_Take : Pt := [(0, .el (.rc (.int .i64) [.str, .str, .str, (.int .i64), (.int .i64), .bool, .bool, .bool, .bool] 1))]
noncomputable def m_cascadia_Take : Tup p_cascadia_Take → Option (Tup q_cascadia_Take) := fun (x : List UInt8 × List UInt8 × List UInt8 × Bool) => some ((4 : Int), x.1, x.2.1, x.2.2.1, (0 : Int), (0 : Int), false, false, false, x.2.2.2)
noncomputable def cx_cascadia_Take : Cx := ⟨tb, lookE [], lookS []⟩
theorem ck_cascadia_Take : CxOK Tryz.prog (cx_cascadia_Take) := cx_ok tb_ok .nil
noncomputable def e_cascadia_Take : Ent := ⟨0, p_cascadia_Take, q_cascadia_Take, m_cascadia_Take⟩
theorem ok_cascadia_Take : FnOK Tryz.prog 20 e_cascadia_Take := fn_ok (L := lookL []) ck_cascadia_Take mixed Tryz.func20 rfl (by kernel_rfl) (by kernel_rfl) (ls_ok (l := []) (by kernel_rfl) .nil) (by intro x; kernel_rfl)
end Go.Proofs.YtcjpnnmclhdjbaaGreatDoor.V
set_option linter.unusedVariables false
set_option linter.unusedSimpArgs false
namespace Go.Proofs.YtcjpnnmclhdjbaaGreatDoor.V
open Go Go.Proofs
abbrev p_impl_attrOps : Pt := []
abbrev q_impl_attrOps : Pt := [(0, .own .str 9)]
noncomputable def m_impl_attrOps : Tup p_impl_attrOps → Option (Tup q_impl_attrOps) := fun (x : PUnit) => some [[], [(61 : UInt8)], [(33 : UInt8), (61 : UInt8)], [(126 : UInt8), (61 : UInt8)], [(124 : UInt8), (61 : UInt8)], [(94 : UInt8), (61 : UInt8)], [(36 : UInt8), (61 : UInt8)], [(42 : UInt8), (61 : UInt8)]]
noncomputable def cx_impl_attrOps : Cx := ⟨tb, lookE [], lookS []⟩
theorem ck_impl_attrOps : CxOK Tryz.prog (cx_impl_attrOps) := cx_ok tb_ok .nil
noncomputable def e_impl_attrOps : Ent := ⟨0, p_impl_attrOps, q_impl_attrOps, m_impl_attrOps⟩
theorem ok_impl_attrOps : FnOK Tryz.prog 30 e_impl_attrOps := fn_ok (L := lookL []) ck_impl_attrOps mixed Tryz.func30 rfl (by kernel_rfl) (by kernel_rfl) (ls_ok (l := []) (by kernel_rfl) .nil) (by intro x; kernel_rfl)
abbrev p_impl_signAt : Pt := [(0, .lst .str), (1, .str)]
abbrev q_impl_signAt : Pt := [(0, .int .i64)]
abbrev p_impl_signAt_0 : Pt := [(0, .lst .str), (1, .str), (7, .int .i64), (8, .int .i64)]
abbrev x_impl_signAt_0 : List (Xt × Pt) := [(.ex 0, []), (.rt, [(4, .int .i64)])]
noncomputable def m_impl_signAt_0 : Tup p_impl_signAt_0 → Option (Stp (Tup p_impl_signAt_0) (SumT (x_impl_signAt_0.map (·.2)))) := fun (x : List (List UInt8) × List UInt8 × Int × Int) => bif decide (x.2.2.2 < x.2.2.1) then Option.bind (atI x.1 x.2.2.2) fun (v : List UInt8) => bif decide (v = x.2.1) then some (Stp.out (Sum.inr (IntKind.wrap .i64 (x.2.2.2 + (1 : Int))))) else some (Stp.nx (x.1, x.2.1, x.2.2.1, IntKind.wrap .i64 (x.2.2.2 + (1 : Int)))) else some (Stp.out (Sum.inl ()))
noncomputable def m_impl_signAt : Tup p_impl_signAt → Option (Tup q_impl_signAt) := fun (x : List (List UInt8) × List UInt8) => Option.bind (loopO m_impl_signAt_0 (x.1, x.2, (↑(List.length x.1) : Int), (0 : Int))) fun (y : PUnit ⊕ Int) => selim (fun (y : PUnit) => some (0 : Int)) (fun (y : Int) => some y) y
noncomputable def cx_impl_signAt : Cx := ⟨tb, lookE [], lookS []⟩
theorem ck_impl_signAt : CxOK Tryz.prog (cx_impl_signAt) := cx_ok tb_ok .nil
noncomputable def c_impl_signAt_0 : Code := loopAt (Go.Proofs.Tryz.f29.body.getD .skip) 0
noncomputable def l_impl_signAt_0 : LEnt := ⟨p_impl_signAt_0, x_impl_signAt_0, loopO (m_impl_signAt_0)⟩
theorem lo_impl_signAt_0 : LOK Tryz.prog 20 0 false (l_impl_signAt_0) c_impl_signAt_0 := loop_ok (body := m_impl_signAt_0) (L := lookL []) (ck_impl_signAt) mixed (ls_ok (l := []) (by kernel_rfl) .nil) (by intro x; kernel_rfl) (fun x y h => loopO_iff.1 h)
noncomputable def e_impl_signAt : Ent := ⟨0, p_impl_signAt, q_impl_signAt, m_impl_signAt⟩
theorem ok_impl_signAt : FnOK Tryz.prog 29 e_impl_signAt := fn_ok (L := lookL [(0, l_impl_signAt_0)]) ck_impl_signAt mixed Tryz.func29 rfl (by kernel_rfl) (by kernel_rfl) (ls_ok (l := [(0, c_impl_signAt_0)]) (by kernel_rfl) (.cons rfl (lo_impl_signAt_0) .nil)) (by intro x; kernel_rfl)
abbrev p_impl_selNode : Pt := [(0, .el (.rc (.int .i64) [.str, .str, .str, (.int .i64), (.int .i64), .bool, .bool, .bool, .bool] 1))]
abbrev q_impl_selNode : Pt := [(0, .el .sel)]
noncomputable def m_impl_selNode : Tup p_impl_selNode → Option (Tup q_impl_selNode) := fun (x : Int × List UInt8 × List UInt8 × List UInt8 × Int × Int × Bool × Bool × Bool × Bool) => bif decide (x.1 = (1 : Int)) then some { kind := (2 : Int), op := (0 : Int), key := x.2.1, val := [], a := (0 : Int), b := (0 : Int), flag := (0 : Int), size := (0 : Int) } else bif decide (x.1 = (2 : Int)) then some { kind := (3 : Int), op := (0 : Int), key := [], val := x.2.2.1, a := (0 : Int), b := (0 : Int), flag := (0 : Int), size := (0 : Int) } else bif decide (x.1 = (3 : Int)) then some { kind := (4 : Int), op := (0 : Int), key := [], val := x.2.2.1, a := (0 : Int), b := (0 : Int), flag := (0 : Int), size := (0 : Int) } else bif decide (x.1 = (4 : Int)) then both (Option.bind (m_impl_attrOps ()) fun (r : List (List UInt8)) => both (Option.bind (m_impl_signAt (r, x.2.2.2.1)) fun (r : Int) => bif x.2.2.2.2.2.2.2.2.2 then some { kind := (5 : Int), op := r, key := x.2.1, val := x.2.2.1, a := (0 : Int), b := (0 : Int), flag := (1 : Int), size := (0 : Int) } else some { kind := (5 : Int), op := r, key := x.2.1, val := x.2.2.1, a := (0 : Int), b := (0 : Int), flag := (0 : Int), size := (0 : Int) }) (Option.bind (m_impl_signAt (r, x.2.2.2.1)) fun (r : Int) => bif x.2.2.2.2.2.2.2.2.2 then some { kind := (5 : Int), op := r, key := x.2.1, val := x.2.2.1, a := (0 : Int), b := (0 : Int), flag := (1 : Int), size := (0 : Int) } else some { kind := (5 : Int), op := r, key := x.2.1, val := x.2.2.1, a := (0 : Int), b := (0 : Int), flag := (0 : Int), size := (0 : Int) })) (Option.bind (m_impl_attrOps ()) fun (r : List (List UInt8)) => Option.bind (m_impl_signAt (r, x.2.2.2.1)) fun (r : Int) => bif x.2.2.2.2.2.2.2.2.2 then some { kind := (5 : Int), op := r, key := x.2.1, val := x.2.2.1, a := (0 : Int), b := (0 : Int), flag := (1 : Int), size := (0 : Int) } else some { kind := (5 : Int), op := r, key := x.2.1, val := x.2.2.1, a := (0 : Int), b := (0 : Int), flag := (0 : Int), size := (0 : Int) }) else bif decide (x.1 = (5 : Int)) then none else bif decide (x.1 = (6 : Int)) then none else bif decide (x.1 = (14 : Int)) then some { kind := (15 : Int), op := (0 : Int), key := [], val := x.2.2.1, a := (0 : Int), b := (0 : Int), flag := (0 : Int), size := (0 : Int) } else bif decide (x.1 = (15 : Int)) then bif x.2.2.2.2.2.2.2.2.1 then some { kind := (17 : Int), op := (0 : Int), key := [], val := x.2.2.1, a := (0 : Int), b := (0 : Int), flag := (0 : Int), size := (0 : Int) } else some { kind := (16 : Int), op := (0 : Int), key := [], val := x.2.2.1, a := (0 : Int), b := (0 : Int), flag := (0 : Int), size := (0 : Int) } else bif decide (x.1 = (16 : Int)) then some { kind := (24 : Int), op := (0 : Int), key := [], val := x.2.2.1, a := (0 : Int), b := (0 : Int), flag := (0 : Int), size := (0 : Int) } else bif decide (x.1 = (17 : Int)) then Option.bind (m_impl_signAt ([[(110 : UInt8), (111 : UInt8), (116 : UInt8)], [(104 : UInt8), (97 : UInt8), (115 : UInt8)], [(104 : UInt8), (97 : UInt8), (115 : UInt8), (99 : UInt8), (104 : UInt8), (105 : UInt8), (108 : UInt8), (100 : UInt8)]], x.2.1)) fun (r : Int) => some { kind := IntKind.wrap .i64 (IntKind.wrap .i64 ((18 : Int) + r) - (1 : Int)), op := (0 : Int), key := [], val := [], a := (0 : Int), b := (0 : Int), flag := (0 : Int), size := (0 : Int) } else bif decide (x.1 = (18 : Int)) then some { kind := (21 : Int), op := (0 : Int), key := [], val := x.2.2.1, a := (0 : Int), b := (0 : Int), flag := (0 : Int), size := (0 : Int) } else bif decide (x.1 = (19 : Int)) then none else some { kind := IntKind.wrap .i64 (IntKind.wrap .i64 ((8 : Int) + x.1) - (7 : Int)), op := (0 : Int), key := [], val := [], a := (0 : Int), b := (0 : Int), flag := (0 : Int), size := (0 : Int) }
noncomputable def cx_impl_selNode : Cx := ⟨tb, lookE [(30, e_impl_attrOps), (29, e_impl_signAt)], lookS [(9, [(true, 0), (true, 1), (true, 2), (true, 3), (true, 5), (true, 6), (false, 9000004), (false, 4000007), (true, 8), (false, 9), (false, 10), (false, 9), (false, 7), (true, 8), (false, 10), (false, 9), (false, 4), (false, 7), (true, 8), (false, 10)]), (14, [(true, 0), (true, 1), (true, 2), (true, 3), (true, 4), (true, 5), (true, 6), (true, 7), (false, 8), (true, 9), (false, 10)]), (30, [(true, 1), (true, 2), (false, 0), (false, 3), (true, 4), (false, 5)])]⟩
theorem ck_impl_selNode : CxOK Tryz.prog (cx_impl_selNode) := cx_ok tb_ok (.cons ok_impl_attrOps Tryz.call30 (.cons ok_impl_signAt Tryz.call29 .nil))
noncomputable def e_impl_selNode : Ent := ⟨0, p_impl_selNode, q_impl_selNode, m_impl_selNode⟩
theorem ok_impl_selNode : FnOK Tryz.prog 19 e_impl_selNode := fn_ok (L := lookL []) ck_impl_selNode mixed Tryz.func19 rfl (by kernel_rfl) (by kernel_rfl) (ls_ok (l := []) (by kernel_rfl) .nil) (by intro x; kernel_rfl)
abbrev p_impl_read : Pt := [(0, .ifc 58 (.rc .str [.str, .str, .bool] 0)), (1, .int .i64), (2, .err)]
abbrev q_impl_read : Pt := [(0, .el .sel), (1, .int .i64), (2, .bool)]
noncomputable def m_impl_read : Tup p_impl_read → Option (Tup q_impl_read) := fun (x : (List UInt8 × List UInt8 × List UInt8 × Bool) × Int × Bool) => bif !!x.2.2 then some ({ kind := (0 : Int), op := (0 : Int), key := [], val := [], a := (0 : Int), b := (0 : Int), flag := (0 : Int), size := (0 : Int) }, (0 : Int), false) else Option.bind (m_cascadia_Take (x.1.1, x.1.2.1, x.1.2.2.1, x.1.2.2.2)) fun (r : Int × List UInt8 × List UInt8 × List UInt8 × Int × Int × Bool × Bool × Bool × Bool) => Option.bind (m_impl_selNode (r.1, r.2.1, r.2.2.1, r.2.2.2.1, r.2.2.2.2.1, r.2.2.2.2.2.1, r.2.2.2.2.2.2.1, r.2.2.2.2.2.2.2.1, r.2.2.2.2.2.2.2.2.1, r.2.2.2.2.2.2.2.2.2)) fun (r : Sel) => some ({ kind := Sel.kind r, op := Sel.op r, key := Sel.key r, val := Sel.val r, a := Sel.a r, b := Sel.b r, flag := Sel.flag r, size := (1 : Int) }, x.2.1, true)
noncomputable def cx_impl_read : Cx := ⟨tb, lookE [(20, e_cascadia_Take), (19, e_impl_selNode)], lookS []⟩
theorem ck_impl_read : CxOK Tryz.prog (cx_impl_read) := cx_ok tb_ok (.cons ok_cascadia_Take Tryz.call20 (.cons ok_impl_selNode Tryz.call19 .nil))
noncomputable def e_impl_read : Ent := ⟨0, p_impl_read, q_impl_read, m_impl_read⟩
theorem ok_impl_read : FnOK Tryz.prog 8 e_impl_read := fn_ok (L := lookL []) ck_impl_read mixed Tryz.func8 rfl (by kernel_rfl) (by kernel_rfl) (ls_ok (l := []) (by kernel_rfl) .nil) (by intro x; kernel_rfl)
abbrev p_impl_ReadAttribute : Pt := [(0, .str)]
abbrev q_impl_ReadAttribute : Pt := [(0, .el .sel), (1, .int .i64), (2, .bool)]
noncomputable def m_impl_ReadAttribute : Tup p_impl_ReadAttribute → Option (Tup q_impl_ReadAttribute) := fun (x : List UInt8) => Option.bind (m_cascadia_ReadAttribute x) fun (r : (List UInt8 × List UInt8 × List UInt8 × Bool) × Int × Bool) => Option.bind (m_impl_read ((r.1.1, r.1.2.1, r.1.2.2.1, r.1.2.2.2), r.2.1, r.2.2)) fun (r : Sel × Int × Bool) => some ({ kind := Sel.kind r.1, op := Sel.op r.1, key := Sel.key r.1, val := Sel.val r.1, a := Sel.a r.1, b := Sel.b r.1, flag := Sel.flag r.1, size := Sel.size r.1 }, r.2.1, r.2.2)
noncomputable def cx_impl_ReadAttribute : Cx := ⟨tb, lookE [(9, e_cascadia_ReadAttribute), (8, e_impl_read)], lookS []⟩
theorem ck_impl_ReadAttribute : CxOK Tryz.prog (cx_impl_ReadAttribute) := cx_ok tb_ok (.cons ok_cascadia_ReadAttribute Tryz.call9 (.cons ok_impl_read Tryz.call8 .nil))
noncomputable def e_impl_ReadAttribute : Ent := ⟨0, p_impl_ReadAttribute, q_impl_ReadAttribute, m_impl_ReadAttribute⟩
theorem ok_impl_ReadAttribute : FnOK Tryz.prog 5 e_impl_ReadAttribute := fn_ok (L := lookL []) ck_impl_ReadAttribute mixed Tryz.func5 rfl (by kernel_rfl) (by kernel_rfl) (ls_ok (l := []) (by kernel_rfl) .nil) (by intro x; kernel_rfl)
end Go.Proofs.YtcjpnnmclhdjbaaGreatDoor.V
set_option linter.unusedVariables false
set_option linter.unusedSimpArgs false
namespace Go.Proofs.YtcjpnnmclhdjbaaGreatDoor.V
open Go Go.Proofs
abbrev p_laws_FnReadAttribute : Pt := [(0, .str)]
abbrev q_laws_FnReadAttribute : Pt := [(0, .bool)]
noncomputable def m_laws_FnReadAttribute : Tup p_laws_FnReadAttribute → Option (Tup q_laws_FnReadAttribute) := fun (x : List UInt8) => bif decide ((2147483647 : Int) < (↑(List.length x) : Int)) then some true else bif decide ((1000 : Int) < (↑(List.length x) : Int)) then some true else Option.bind (m_spec_ReadAttribute x) fun (r : Sel × Int × Bool × Bool) => bif !r.2.2.2 then some true else Option.bind (m_impl_ReadAttribute x) fun (r_1 : Sel × Int × Bool) => bif r_1.2.2 == r.2.2.1 then bif !r.2.2.1 then some true else bif decide (Sel.kind { kind := Sel.kind r_1.1, op := Sel.op r_1.1, key := Sel.key r_1.1, val := Sel.val r_1.1, a := Sel.a r_1.1, b := Sel.b r_1.1, flag := Sel.flag r_1.1, size := Sel.size r_1.1 } = Sel.kind { kind := Sel.kind r.1, op := Sel.op r.1, key := Sel.key r.1, val := Sel.val r.1, a := Sel.a r.1, b := Sel.b r.1, flag := Sel.flag r.1, size := Sel.size r.1 } ∧ Sel.op { kind := Sel.kind r_1.1, op := Sel.op r_1.1, key := Sel.key r_1.1, val := Sel.val r_1.1, a := Sel.a r_1.1, b := Sel.b r_1.1, flag := Sel.flag r_1.1, size := Sel.size r_1.1 } = Sel.op { kind := Sel.kind r.1, op := Sel.op r.1, key := Sel.key r.1, val := Sel.val r.1, a := Sel.a r.1, b := Sel.b r.1, flag := Sel.flag r.1, size := Sel.size r.1 } ∧ Sel.key { kind := Sel.kind r_1.1, op := Sel.op r_1.1, key := Sel.key r_1.1, val := Sel.val r_1.1, a := Sel.a r_1.1, b := Sel.b r_1.1, flag := Sel.flag r_1.1, size := Sel.size r_1.1 } = Sel.key { kind := Sel.kind r.1, op := Sel.op r.1, key := Sel.key r.1, val := Sel.val r.1, a := Sel.a r.1, b := Sel.b r.1, flag := Sel.flag r.1, size := Sel.size r.1 } ∧ Sel.val { kind := Sel.kind r_1.1, op := Sel.op r_1.1, key := Sel.key r_1.1, val := Sel.val r_1.1, a := Sel.a r_1.1, b := Sel.b r_1.1, flag := Sel.flag r_1.1, size := Sel.size r_1.1 } = Sel.val { kind := Sel.kind r.1, op := Sel.op r.1, key := Sel.key r.1, val := Sel.val r.1, a := Sel.a r.1, b := Sel.b r.1, flag := Sel.flag r.1, size := Sel.size r.1 } ∧ Sel.a { kind := Sel.kind r_1.1, op := Sel.op r_1.1, key := Sel.key r_1.1, val := Sel.val r_1.1, a := Sel.a r_1.1, b := Sel.b r_1.1, flag := Sel.flag r_1.1, size := Sel.size r_1.1 } = Sel.a { kind := Sel.kind r.1, op := Sel.op r.1, key := Sel.key r.1, val := Sel.val r.1, a := Sel.a r.1, b := Sel.b r.1, flag := Sel.flag r.1, size := Sel.size r.1 } ∧ Sel.b { kind := Sel.kind r_1.1, op := Sel.op r_1.1, key := Sel.key r_1.1, val := Sel.val r_1.1, a := Sel.a r_1.1, b := Sel.b r_1.1, flag := Sel.flag r_1.1, size := Sel.size r_1.1 } = Sel.b { kind := Sel.kind r.1, op := Sel.op r.1, key := Sel.key r.1, val := Sel.val r.1, a := Sel.a r.1, b := Sel.b r.1, flag := Sel.flag r.1, size := Sel.size r.1 } ∧ Sel.flag { kind := Sel.kind r_1.1, op := Sel.op r_1.1, key := Sel.key r_1.1, val := Sel.val r_1.1, a := Sel.a r_1.1, b := Sel.b r_1.1, flag := Sel.flag r_1.1, size := Sel.size r_1.1 } = Sel.flag { kind := Sel.kind r.1, op := Sel.op r.1, key := Sel.key r.1, val := Sel.val r.1, a := Sel.a r.1, b := Sel.b r.1, flag := Sel.flag r.1, size := Sel.size r.1 } ∧ Sel.size { kind := Sel.kind r_1.1, op := Sel.op r_1.1, key := Sel.key r_1.1, val := Sel.val r_1.1, a := Sel.a r_1.1, b := Sel.b r_1.1, flag := Sel.flag r_1.1, size := Sel.size r_1.1 } = Sel.size { kind := Sel.kind r.1, op := Sel.op r.1, key := Sel.key r.1, val := Sel.val r.1, a := Sel.a r.1, b := Sel.b r.1, flag := Sel.flag r.1, size := Sel.size r.1 }) then some (decide (r_1.2.1 = r.2.1)) else some false else some false
noncomputable def cx_laws_FnReadAttribute : Cx := ⟨tb, lookE [(4, e_spec_ReadAttribute), (5, e_impl_ReadAttribute)], lookS []⟩
theorem ck_laws_FnReadAttribute : CxOK Tryz.prog (cx_laws_FnReadAttribute) := cx_ok tb_ok (.cons ok_spec_ReadAttribute Tryz.call4 (.cons ok_impl_ReadAttribute Tryz.call5 .nil))
noncomputable def e_laws_FnReadAttribute : Ent := ⟨0, p_laws_FnReadAttribute, q_laws_FnReadAttribute, m_laws_FnReadAttribute⟩
theorem ok_laws_FnReadAttribute : FnOK Tryz.prog 3 e_laws_FnReadAttribute := fn_ok (L := lookL []) ck_laws_FnReadAttribute mixed Tryz.func3 rfl (by kernel_rfl) (by kernel_rfl) (ls_ok (l := []) (by kernel_rfl) .nil) (by intro x; kernel_rfl)
end Go.Proofs.YtcjpnnmclhdjbaaGreatDoor.V
set_option linter.unusedVariables false
set_option linter.unusedSimpArgs false
namespace Go.Proofs.YtcjpnnmclhdjbaaGreatDoor.V
open Go
def nameN (n : Nat) : Bool := (97 ≤ n && n ≤ 122) || (65 ≤ n && n ≤ 90) || n == 95 || 128 ≤ n || n == 45 || (48 ≤ n && n ≤ 57)
def hexN (n : Nat) : Bool := (48 ≤ n && n ≤ 57) || (97 ≤ n && n ≤ 102) || (65 ≤ n && n ≤ 70)
def hexV (n : Nat) : Nat := if n ≤ 57 then n - 48 else if n ≤ 70 then n - 55 else n - 87
theorem nameChar_all : ∀ n : Fin 256, m_cascadia_nameChar (n.val : Int) = some (nameN n.val) := by decide +kernel
theorem nameByte_all : ∀ n : Fin 256, m_spec_nameByte (n.val : Int) = some (nameN n.val) := by decide +kernel
theorem hexDigit_all : ∀ n : Fin 256, m_cascadia_hexDigit (n.val : Int) = some (hexN n.val) := by decide +kernel
theorem hexadecimal_all : ∀ n : Fin 256, m_spec_hexadecimal (n.val : Int) = some (if hexN n.val then (hexV n.val : Int) else -1) := by decide +kernel
theorem lower_all : ∀ n : Fin 256, hexN n.val = true → 57 < n.val → m_internal_strconv_lower (n.val : Int) = some ((hexV n.val : Int) + 87) := by decide +kernel
theorem hexV_all : ∀ n : Fin 256, hexN n.val = true → hexV n.val < 16 := by decide +kernel
theorem hexB_all : ∀ n : Fin 256, hexN n.val = true → 57 < n.val → 10 ≤ hexV n.val := by decide +kernel
theorem hex95_all : ∀ n : Fin 256, hexN n.val = true → n.val ≠ 95 ∧ 48 ≤ n.val ∧ (n.val ≤ 57 → hexV n.val = n.val - 48) := by decide +kernel
theorem high_all : ∀ n : Fin 256, 128 ≤ n.val → nameN n.val = true ∧ hexN n.val = false := by decide +kernel
def fin (c : UInt8) : Fin 256 := ⟨c.toNat, c.toNat_lt⟩
theorem nameChar_eq (c : UInt8) : m_cascadia_nameChar (c.toNat : Int) = some (nameN c.toNat) := nameChar_all (fin c)
theorem nameByte_eq (c : UInt8) : m_spec_nameByte (c.toNat : Int) = some (nameN c.toNat) := nameByte_all (fin c)
theorem hexDigit_eq (c : UInt8) : m_cascadia_hexDigit (c.toNat : Int) = some (hexN c.toNat) := hexDigit_all (fin c)
theorem high (c : UInt8) (h : 128 ≤ c.toNat) : nameN c.toNat = true ∧ hexN c.toNat = false := high_all (fin c) h
theorem wu64 {n : Int} (h1 : 0 ≤ n) (h2 : n < 18446744073709551616) : IntKind.wrap .u64 n = n := by
  simp [IntKind.wrap, IntKind.bits, IntKind.signed]
  omega
theorem wu8 {n : Int} (h1 : 0 ≤ n) (h2 : n < 256) : IntKind.wrap .u8 n = n := by
  simp [IntKind.wrap, IntKind.bits, IntKind.signed]
  omega
theorem catS_some {l m : List UInt8} (h : l.length + m.length ≤ 9223372036854775807) : catS l m = some (l ++ m) := by simp [catS, h]
theorem sub_nat {α : Type} (l : List α) {lo hi : Nat} (h1 : lo ≤ hi) (h2 : hi ≤ l.length) : subL l (lo : Int) (hi : Int) = some ((l.take hi).drop lo) := by
  unfold subL
  rw [if_pos (by omega)]
  rfl
theorem sub_one {α : Type} {l : List α} {i : Nat} {c : α} (h : l[i]? = some c) : subL l (i : Int) ((i : Int) + 1) = some [c] := by
  have hi := (List.getElem?_eq_some_iff.1 h).1
  rw [show ((i : Int) + 1) = ((i + 1 : Nat) : Int) by omega, sub_nat l (by omega) (by omega), List.take_add_one, h]
  rw [List.drop_append_of_le_length (by rw [List.length_take]; omega), List.drop_of_length_le (by rw [List.length_take]; omega)]
  rfl
def hval (l : List UInt8) (a : Nat) : Nat := l.foldl (fun a c => 16 * a + hexV c.toNat) a
theorem hval_lt : ∀ (l : List UInt8) (a : Nat), (∀ c ∈ l, hexN c.toNat = true) → hval l a < 16 ^ l.length * (a + 1)
  | [], a, _ => by simp [hval]
  | c :: l, a, h => by
    have h1 := hval_lt l (16 * a + hexV c.toNat) fun d hd => h d (List.mem_cons_of_mem _ hd)
    have h2 := hexV_all (fin c) (h c (by simp))
    have h2 : hexV c.toNat < 16 := h2
    show hval l (16 * a + hexV c.toNat) < _
    refine Nat.lt_of_lt_of_le h1 ?_
    rw [List.length_cons, Nat.pow_succ, Nat.mul_assoc]
    exact Nat.mul_le_mul_left _ (by omega)
def hexs (s : List UInt8) : Nat → Nat → Nat → Nat × Nat
  | 0, i, a => (i, a)
  | k + 1, i, a => match s[i]? with
    | some c => if hexN c.toNat then hexs s k (i + 1) (16 * a + hexV c.toNat) else (i, a)
    | none => (i, a)
theorem hexs_spec (s : List UInt8) : ∀ (k i a : Nat), ∃ l r, s.drop i = l ++ r ∧ (∀ c ∈ l, hexN c.toNat = true) ∧ l.length ≤ k ∧ hexs s k i a = (i + l.length, hval l a)
  | 0, i, a => ⟨[], s.drop i, rfl, (fun _ h => by cases h), Nat.le_refl _, rfl⟩
  | k + 1, i, a => by
    simp only [hexs]
    cases hc : s[i]? with
    | none => exact ⟨[], s.drop i, rfl, (fun _ h => by cases h), Nat.zero_le _, rfl⟩
    | some c =>
      simp only
      cases hh : hexN c.toNat with
      | false => exact ⟨[], s.drop i, rfl, (fun _ h => by cases h), Nat.zero_le _, rfl⟩
      | true =>
        obtain ⟨l, r, h1, h2, h3, h4⟩ := hexs_spec s k (i + 1) (16 * a + hexV c.toNat)
        have hd : s.drop i = c :: s.drop (i + 1) := by
          obtain ⟨g1, g2⟩ := List.getElem?_eq_some_iff.1 hc
          rw [← g2]
          exact List.drop_eq_getElem_cons g1
        refine ⟨c :: l, r, by rw [hd, h1]; rfl, fun d hd => ?_, by simp; omega, ?_⟩
        · rcases List.mem_cons.1 hd with rfl | hd
          · exact hh
          · exact h2 d hd
        · simp only [if_true]
          rw [h4]
          simp only [List.length_cons, hval, List.foldl_cons, Prod.mk.injEq, and_true]
          omega
theorem hexs_le (s : List UInt8) (k i a : Nat) (hi : i ≤ s.length) : i ≤ (hexs s k i a).1 ∧ (hexs s k i a).1 ≤ s.length ∧ (hexs s k i a).1 ≤ i + k := by
  obtain ⟨l, r, h1, h2, h3, h4⟩ := hexs_spec s k i a
  rw [h4]
  have := congrArg List.length h1
  simp at this
  simp only
  omega
def sp (s : List UInt8) (j : Nat) : Nat := match s[j]? with
  | some c => if c.toNat = 13 then (match s[j + 1]? with
      | some d => if d.toNat = 10 then j + 2 else j + 1
      | none => j + 1) else if c.toNat = 32 ∨ c.toNat = 9 ∨ c.toNat = 10 ∨ c.toNat = 12 then j + 1 else j
  | none => j
theorem sp_le (s : List UInt8) (j : Nat) (hj : j ≤ s.length) : j ≤ sp s j ∧ sp s j ≤ s.length := by
  unfold sp
  cases h : s[j]? with
  | none => simp only; omega
  | some c =>
    have hl := (List.getElem?_eq_some_iff.1 h).1
    simp only
    split
    · cases h2 : s[j + 1]? with
      | none => simp only; omega
      | some d =>
        have hl2 := (List.getElem?_eq_some_iff.1 h2).1
        simp only
        split <;> omega
    · split <;> omega
theorem pu_step (bytes s0 : List UInt8) (n k : Nat) (c : UInt8) (hk : bytes[k]? = some c) (hl : bytes.length ≤ 1000) (hn : n < 16777216) (hc : hexN c.toNat = true) :
    m_internal_strconv_ParseUint_16_0 ((), false, s0, 1152921504606846976, 18446744073709551615, false, (n : Int), bytes, (bytes.length : Int), (k : Int)) = some (.nx ((), false, s0, 1152921504606846976, 18446744073709551615, false, ((16 * n + hexV c.toNat : Nat) : Int), bytes, (bytes.length : Int), ((k + 1 : Nat) : Int))) := by
  have hb := (List.getElem?_eq_some_iff.1 hk).1
  have hv := hexV_all (fin c) hc
  have hv : hexV c.toNat < 16 := hv
  obtain ⟨q1, q2, q3⟩ := hex95_all (fin c) hc
  have q1 : c.toNat ≠ 95 := q1
  have q2 : 48 ≤ c.toNat := q2
  have q3 : c.toNat ≤ 57 → hexV c.toNat = c.toNat - 48 := q3
  have hlt := c.toNat_lt
  simp only [m_internal_strconv_ParseUint_16_0, cond_dec, atI_nat, Int.toNat_natCast]
  rw [if_pos (by omega), hk]
  simp only [bind_some]
  rw [if_neg (by omega), if_pos (by omega)]
  have e16 : IntKind.wrap .u64 16 = 16 := wu64 (by omega) (by omega)
  have e8 : IntKind.wrap .u8 16 = 16 := wu8 (by omega) (by omega)
  have ek : IntKind.wrap .i64 ((k : Int) + 1) = ((k + 1 : Nat) : Int) := by rw [w64 (by omega) (by omega)]; omega
  have em : IntKind.wrap .u64 ((n : Int) * 16) = (n : Int) * 16 := wu64 (by omega) (by omega)
  have ev : IntKind.wrap .u64 (hexV c.toNat : Int) = (hexV c.toNat : Int) := wu64 (by omega) (by omega)
  have ea : IntKind.wrap .u64 ((n : Int) * 16 + (hexV c.toNat : Int)) = ((16 * n + hexV c.toNat : Nat) : Int) := by rw [wu64 (by omega) (by omega)]; omega
  by_cases h57 : c.toNat ≤ 57
  · have e1 : IntKind.wrap .u8 ((c.toNat : Int) - 48) = (hexV c.toNat : Int) := by rw [wu8 (by omega) (by omega), q3 h57]; omega
    rw [if_pos (by omega), e1, e8, e16, em, ev, ea, ek]
    rw [if_neg (by omega), if_neg (by omega), if_neg (by omega), if_neg (by omega)]
  · have hlow : m_internal_strconv_lower (c.toNat : Int) = some ((hexV c.toNat : Int) + 87) := lower_all (fin c) hc (by show 57 < c.toNat; omega)
    have h10 : 10 ≤ hexV c.toNat := by
      exact hexB_all (fin c) hc (by show 57 < c.toNat; omega)
    have e1 : IntKind.wrap .u8 (IntKind.wrap .u8 ((hexV c.toNat : Int) + 87 - 97) + 10) = (hexV c.toNat : Int) := by
      rw [wu8 (n := (hexV c.toNat : Int) + 87 - 97) (by omega) (by omega), wu8 (by omega) (by omega)]; omega
    rw [if_neg (by omega)]
    rw [hlow, bind_some, if_pos (by omega), bind_some, if_pos (by omega), bind_some, e1, e8, e16, em, ev, ea, ek]
    rw [if_neg (by omega), if_neg (by omega), if_neg (by omega), if_neg (by omega)]
theorem pu16_eq (l : List UInt8) (hl : l ≠ []) (h6 : l.length ≤ 6) (hh : ∀ c ∈ l, hexN c.toNat = true) : m_strconv_ParseUint_16 (l, (), ()) = some (((hval l 0 : Nat) : Int), false) := by
  have key : ∀ m k, l.length - k = m → k ≤ l.length → loopO m_internal_strconv_ParseUint_16_0 ((), false, l, 1152921504606846976, 18446744073709551615, false, ((hval (l.take k) 0 : Nat) : Int), l, (l.length : Int), (k : Int)) = some (.inl (l, false, ((hval l 0 : Nat) : Int))) := by
    intro m
    induction m with
    | zero =>
      intro k hm hk
      refine loopO_out ?_
      simp only [m_internal_strconv_ParseUint_16_0, cond_dec]
      rw [if_neg (by omega), List.take_of_length_le (by omega)]
    | succ m ih =>
      intro k hm hk
      obtain ⟨c, hc⟩ := get_lt (l := l) (k := k) (by omega)
      have hlt := hval_lt (l.take k) 0 fun c hc => hh c (List.mem_of_mem_take hc)
      have h5 : (l.take k).length ≤ 5 := by rw [List.length_take]; omega
      have hp : 16 ^ (l.take k).length ≤ 16 ^ 5 := Nat.pow_le_pow_right (by omega) h5
      have step := pu_step l l (hval (l.take k) 0) k c hc (by omega) (by omega) (hh c (List.mem_of_getElem? hc))
      have e : 16 * hval (l.take k) 0 + hexV c.toNat = hval (l.take (k + 1)) 0 := by
        rw [List.take_add_one, hc]
        simp [hval, List.foldl_append]
      rw [e] at step
      rw [loopO_nx step]
      exact ih (k + 1) (by omega) (by omega)
  have hs : shlI .u64 1 (IntKind.wrap .u64 64) = some 0 := by decide +kernel
  have hw : IntKind.wrap .u64 (0 - 1) = 18446744073709551615 := by decide +kernel
  simp only [m_strconv_ParseUint_16, m_internal_strconv_ParseUint_16, cond_dec]
  rw [if_neg (fun e => hl (by rw [e])), hs, bind_some, hw]
  rw [show (decide ((16 : Int) = 0)) = false from rfl]
  rw [show loopO m_internal_strconv_ParseUint_16_0 ((), false, l, 1152921504606846976, 18446744073709551615, false, (0 : Int), l, (l.length : Int), (0 : Int)) = _ from key _ 0 rfl (Nat.zero_le _), bind_some, selim_l]
  rfl
theorem enc8_ne (n : Int) : enc8 n ≠ [] := by
  unfold enc8 Utf8.encode
  simp only
  generalize (if Utf8.valid n = true then n.toNat else Utf8.runeError) = c
  by_cases h1 : c < 128
  · simp [h1]
  · by_cases h2 : c < 2048
    · simp [h1, h2]
    · by_cases h3 : c < 65536 <;> simp [h1, h2, h3]
theorem enc8_len (n : Int) : (enc8 n).length ≤ 4 := by
  unfold enc8 Utf8.encode
  simp only
  generalize (if Utf8.valid n = true then n.toNat else Utf8.runeError) = c
  by_cases h1 : c < 128
  · simp [h1]
  · by_cases h2 : c < 2048
    · simp [h1, h2]
    · by_cases h3 : c < 65536 <;> simp [h1, h2, h3]
theorem encoded_eq (n : Int) : m_spec_Encoded n = some (enc8 (IntKind.wrap .i32 n)) := by
  simp only [m_spec_Encoded, castE, bind_some]
  simp [encs8]
end Go.Proofs.YtcjpnnmclhdjbaaGreatDoor.V
set_option linter.unusedVariables false
set_option linter.unusedSimpArgs false
namespace Go.Proofs.YtcjpnnmclhdjbaaGreatDoor.V
open Go
theorem wi32 {n : Int} (h1 : 0 ≤ n) (h2 : n < 2147483648) : IntKind.wrap .i32 n = n := by
  simp [IntKind.wrap, IntKind.bits, IntKind.signed]
  omega
theorem shl_ex (a : Int) : ∃ n, shlI .i64 a 6 = some n := ⟨_, by unfold shlI; rw [if_neg (by omega)]⟩
def nx (s : List UInt8) (i : Nat) : Nat := match s[i]? with
  | some c => c.toNat
  | none => 0
theorem nx_some {s : List UInt8} {i : Nat} {c : UInt8} (h : s[i]? = some c) : nx s i = c.toNat := by simp [nx, h]
theorem nx_lt (s : List UInt8) (i : Nat) : nx s i < 256 := by
  unfold nx
  cases s[i]? with
  | none => simp
  | some c => exact c.toNat_lt
def isSpN (n : Nat) : Bool := n == 32 || n == 9 || n == 10 || n == 13 || n == 12
theorem isSpace_all : ∀ n : Fin 256, m_spec_IsSpace (n.val : Int) = some (isSpN n.val) := by decide +kernel
section
variable {s : List UInt8} {b u p : Bool}
theorem next_eq (hs : s.length ≤ 1000) (i : Nat) : m_spec_reader_next (s, (i : Int), b, u, p) = some (nx s i : Int) := by
  simp only [m_spec_reader_next, cond_dec, atI_nat]
  split
  · rename_i h
    rw [nx, List.getElem?_eq_none (by omega)]
    rfl
  · obtain ⟨c, hc⟩ := get_lt (l := s) (k := i) (by omega)
    rw [hc, bind_some, nx_some hc]
theorem hexNx (i : Nat) : m_spec_hexadecimal (nx s i : Int) = some (if hexN (nx s i) then (hexV (nx s i) : Int) else -1) := hexadecimal_all ⟨nx s i, nx_lt s i⟩
theorem spNx (i : Nat) : m_spec_IsSpace (nx s i : Int) = some (isSpN (nx s i)) := isSpace_all ⟨nx s i, nx_lt s i⟩
def crlf (s : List UInt8) (i : Nat) : Bool := nx s i == 13 && nx s (i + 1) == 10
theorem sp_eq (j : Nat) : sp s j = if crlf s j then j + 2 else if isSpN (nx s j) then j + 1 else j := by
  unfold sp crlf nx
  cases h1 : s[j]? with
  | none => rfl
  | some c =>
    simp only
    by_cases a : c.toNat = 13
    · cases h2 : s[j + 1]? with
      | none => simp [a, isSpN]
      | some d => by_cases a2 : d.toNat = 10 <;> simp [a, a2, isSpN]
    · have hiff : isSpN c.toNat = true ↔ (c.toNat = 32 ∨ c.toNat = 9 ∨ c.toNat = 10 ∨ c.toNat = 12) := by
        unfold isSpN
        simp
        omega
      have h13 : (c.toNat == 13) = false := by simpa using a
      rw [if_neg a, h13]
      simp only [Bool.false_and, Bool.false_eq_true, if_false]
      by_cases q : c.toNat = 32 ∨ c.toNat = 9 ∨ c.toNat = 10 ∨ c.toNat = 12
      · rw [if_pos q, if_pos (hiff.2 q)]
      · rw [if_neg q, if_neg (fun h => q (hiff.1 h))]
theorem taken_eq (hs : s.length ≤ 1000) (i : Nat) (hi : i ≤ s.length) : m_spec_reader_taken ((s, (i : Int), b, u, p), [13, 10]) = some (if crlf s i then (true, s, ((i + 2 : Nat) : Int), b, u, p) else (false, s, (i : Int), b, u, p)) := by
  simp only [m_spec_reader_taken, m_spec_reader_here, cond_dec, List.length_cons, List.length_nil]
  have e : IntKind.wrap .i64 ((i : Int) + ((0 + 1 + 1 : Nat) : Int)) = ((i + 2 : Nat) : Int) := by rw [w64 (by omega) (by omega)]; omega
  simp only [e]
  split
  · rename_i h
    obtain ⟨c, hc⟩ := get_lt (l := s) (k := i) (by omega)
    obtain ⟨d, hd⟩ := get_lt (l := s) (k := i + 1) (by omega)
    have e2 : subL s (i : Int) ((i + 2 : Nat) : Int) = some [c, d] := by
      rw [sub_nat s (by omega) (by omega), List.take_add_one, hd, List.take_add_one, hc, List.append_assoc]
      rw [List.drop_append_of_le_length (by rw [List.length_take]; omega), List.drop_of_length_le (by rw [List.length_take]; omega)]
      rfl
    rw [e2, bind_some]
    have e3 : decide ([c, d] = [13, 10]) = crlf s i := by
      unfold crlf
      rw [nx_some hc, nx_some hd, Bool.eq_iff_iff]
      simp only [decide_eq_true_eq, List.cons.injEq, and_true, Bool.and_eq_true, beq_iff_eq]
      rw [← UInt8.toNat_inj, ← UInt8.toNat_inj]
      exact Iff.rfl
    rw [bind_some, e3]
    cases crlf s i <;> rfl
  · rename_i h
    have : crlf s i = false := by
      unfold crlf
      have : nx s (i + 1) = 0 := by rw [nx, List.getElem?_eq_none (by omega)]
      rw [this]
      simp
    rw [this]
    rfl
def ef (s : List UInt8) (i : Nat) : Bool := decide (nx s i = 92 ∧ i + 1 < s.length ∧ nx s (i + 1) ≠ 10 ∧ nx s (i + 1) ≠ 13 ∧ nx s (i + 1) ≠ 12)
theorem ef_eq (hs : s.length ≤ 1000) (i : Nat) (a : Int) (hi : i ≤ s.length) : m_spec_reader_escapeFollows ((s, a, b, u, p), (i : Int)) = some (ef s i) := by
  simp only [m_spec_reader_escapeFollows, cond_dec]
  have e : IntKind.wrap .i64 ((i : Int) + 1) = ((i + 1 : Nat) : Int) := by rw [w64 (by omega) (by omega)]; omega
  rw [e]
  unfold ef
  by_cases h : i + 1 < s.length
  · obtain ⟨c, hc⟩ := get_lt (l := s) (k := i) (by omega)
    obtain ⟨d, hd⟩ := get_lt (l := s) (k := i + 1) (by omega)
    rw [if_pos (by omega)]
    simp only [atI_nat, hc, hd, bind_some, nx_some hc, nx_some hd]
    have e1 : (((c.toNat : Nat) : Int) = 92) = (c.toNat = 92) := by rw [eq_iff_iff]; omega
    have e2 : (((d.toNat : Nat) : Int) ≠ 10) = (d.toNat ≠ 10) := by rw [eq_iff_iff]; omega
    have e3 : (((d.toNat : Nat) : Int) ≠ 13) = (d.toNat ≠ 13) := by rw [eq_iff_iff]; omega
    have e4 : decide (((d.toNat : Nat) : Int) ≠ 12) = decide (d.toNat ≠ 12) := by rw [decide_eq_decide]; omega
    rw [e4]
    by_cases q1 : c.toNat = 92
    · rw [if_pos (by omega)]
      by_cases q2 : d.toNat = 10
      · rw [if_neg (by omega)]; simp [q2]
      · rw [if_pos (by omega)]
        by_cases q3 : d.toNat = 13
        · rw [if_neg (by omega)]; simp [q3]
        · rw [if_pos (by omega)]
          by_cases q4 : d.toNat = 12 <;> simp [h, q1, q2, q3, q4]
    · rw [if_neg (by omega)]; simp [q1]
  · rw [if_neg (by omega)]
    simp [h]
theorem esc_loop (hs : s.length ≤ 1000) : ∀ (k at_ a many : Nat), many + k = 6 → at_ ≤ s.length → a < 16 ^ many → loopO m_spec_reader_escape_0 ((s, (at_ : Int), b, u, p), (a : Int), (many : Int)) = some ((s, ((hexs s k at_ a).1 : Int), b, u, p), ((hexs s k at_ a).2 : Int), ((many + ((hexs s k at_ a).1 - at_) : Nat) : Int))
  | 0, at_, a, many, hk, hat, ha => by
    refine loopO_out ?_
    simp only [m_spec_reader_escape_0, cond_dec, hexs]
    rw [if_neg (by omega)]
    simp
  | k + 1, at_, a, many, hk, hat, ha => by
    simp only [hexs]
    have hp : 16 ^ many ≤ 16 ^ 5 := Nat.pow_le_pow_right (by omega) (by omega)
    cases hc : s[at_]? with
    | none =>
      refine loopO_out ?_
      simp only [m_spec_reader_escape_0, cond_dec, next_eq hs, bind_some, hexNx]
      rw [if_pos (by omega)]
      have e : nx s at_ = 0 := by rw [nx, hc]
      rw [e]
      rw [if_neg (by decide)]
      simp
    | some c =>
      have hlt := (List.getElem?_eq_some_iff.1 hc).1
      simp only
      have e := nx_some hc
      cases hh : hexN c.toNat with
      | false =>
        refine loopO_out ?_
        simp only [m_spec_reader_escape_0, cond_dec, next_eq hs, bind_some, hexNx]
        rw [if_pos (by omega), e, hh]
        simp
      | true =>
        have hv : hexV c.toNat < 16 := hexV_all (fin c) hh
        have hcs : s.length ≤ 1000 := hs
        have step : m_spec_reader_escape_0 ((s, (at_ : Int), b, u, p), (a : Int), (many : Int)) = some (.nx ((s, ((at_ + 1 : Nat) : Int), b, u, p), ((16 * a + hexV c.toNat : Nat) : Int), ((many + 1 : Nat) : Int))) := by
          simp only [m_spec_reader_escape_0, cond_dec, next_eq hs, bind_some, hexNx]
          rw [if_pos (by omega), e, hh]
          simp only [if_true]
          rw [if_pos (by omega), w64 (n := (at_ : Int) + 1) (by omega) (by omega), w64 (n := (many : Int) + 1) (by omega) (by omega), w64 (n := 16 * (a : Int)) (by omega) (by omega), w64 (n := 16 * (a : Int) + (hexV c.toNat : Int)) (by omega) (by omega)]
          simp
        rw [loopO_nx step, esc_loop hs k (at_ + 1) (16 * a + hexV c.toNat) (many + 1) (by omega) (by omega) (by rw [Nat.pow_succ]; omega)]
        have h1 := hexs_le s k (at_ + 1) (16 * a + hexV c.toNat) (by omega)
        simp only [if_true]
        congr 4
        omega
theorem hexs_val (k i : Nat) (hk : k ≤ 6) : (hexs s k i 0).2 < 16777216 := by
  obtain ⟨l, r, h1, h2, h3, h4⟩ := hexs_spec s k i 0
  have := hval_lt l 0 h2
  have hp : 16 ^ l.length ≤ 16 ^ 6 := Nat.pow_le_pow_right (by omega) (by omega)
  rw [h4]
  simp only
  omega
theorem spec_hex (hs : s.length ≤ 1000) {i : Nat} {d : UInt8} (hd : s[i + 1]? = some d) (hh : hexN d.toNat = true) : ∃ out u', m_spec_reader_escape (s, (i : Int), b, u, p) = some (out, s, (sp s (hexs s 6 (i + 1) 0).1 : Int), b, u', p) ∧ (u' = false → u = false ∧ out = enc8 ((hexs s 6 (i + 1) 0).2 : Int)) ∧ out.length ≤ 4 := by
  have hi := (List.getElem?_eq_some_iff.1 hd).1
  have h1 := hexs_le s 6 (i + 1) 0 (by omega)
  have h2 : i + 1 < (hexs s 6 (i + 1) 0).1 := by
    rw [show (6 : Nat) = 5 + 1 from rfl, hexs, hd]
    simp only [hh, if_true]
    have := hexs_le s 5 (i + 1 + 1) (16 * 0 + hexV d.toNat) (by omega)
    omega
  have h3 := hexs_val (s := s) 6 (i + 1) (Nat.le_refl _)
  have hl := esc_loop (b := b) (u := u) (p := p) hs 6 (i + 1) 0 0 rfl (by omega) (by simp)
  generalize hexs s 6 (i + 1) 0 = q at h1 h2 h3 hl ⊢
  obtain ⟨j, n⟩ := q
  simp only at h1 h2 h3 hl ⊢
  have e0 : IntKind.wrap .i64 ((i : Int) + 1) = ((i + 1 : Nat) : Int) := by rw [w64 (by omega) (by omega)]; omega
  simp only [m_spec_reader_escape, e0]
  rw [show loopO m_spec_reader_escape_0 ((s, ((i + 1 : Nat) : Int), b, u, p), (0 : Int), (0 : Int)) = _ from hl, bind_some]
  simp only [cond_dec]
  rw [if_neg (by omega), taken_eq hs j (by omega), bind_some]
  have ee : m_spec_Encoded (n : Int) = some (enc8 (n : Int)) := by rw [encoded_eq, wi32 (by omega) (by omega)]
  have ej : IntKind.wrap .i64 ((j : Int) + 1) = ((j + 1 : Nat) : Int) := by rw [w64 (by omega) (by omega)]; omega
  rw [sp_eq]
  have tail : ∀ (J : Int), ∃ out u', (if (n : Int) = 0 then some (([] : List UInt8), s, J, b, true, p) else if (n : Int) = 65279 then some ([], s, J, b, true, p) else if 1114111 < (n : Int) then some ([], s, J, b, true, p) else if 55296 ≤ (n : Int) then if (n : Int) < 57344 then some ([], s, J, b, true, p) else some (enc8 (n : Int), s, J, b, u, p) else some (enc8 (n : Int), s, J, b, u, p)) = some (out, s, J, b, u', p) ∧ (u' = false → u = false ∧ out = enc8 (n : Int)) ∧ out.length ≤ 4 := fun J => by
    have hz : ∃ out u', (some (([] : List UInt8), s, J, b, true, p)) = some (out, s, J, b, u', p) ∧ (u' = false → u = false ∧ out = enc8 (n : Int)) ∧ out.length ≤ 4 := ⟨[], true, rfl, (fun h => by cases h), by simp⟩
    have hy : ∃ out u', (some (enc8 (n : Int), s, J, b, u, p)) = some (out, s, J, b, u', p) ∧ (u' = false → u = false ∧ out = enc8 (n : Int)) ∧ out.length ≤ 4 := ⟨_, u, rfl, (fun h => ⟨h, rfl⟩), enc8_len _⟩
    split
    · exact hz
    · split
      · exact hz
      · split
        · exact hz
        · split
          · split
            · exact hz
            · exact hy
          · exact hy
  cases hcr : crlf s j with
  | true =>
    simp only [if_true, Bool.not_true, cond_false, ee, bind_some]
    exact tail _
  | false =>
    simp only [Bool.false_eq_true, if_false, Bool.not_false, cond_true, next_eq hs, bind_some, spNx, ee, ej]
    cases isSpN (nx s j) with
    | true =>
      simp only [cond_true, if_true]
      exact tail _
    | false =>
      simp only [cond_false, Bool.false_eq_true, if_false]
      exact tail _
theorem point_go (hs : s.length ≤ 1000) (at_ many : Nat) (hm : many ≤ 4) (hat : at_ + many ≤ s.length) (least : Int) : ∀ m k, many - k = m → 1 ≤ k → k ≤ many → ∀ c : Int, ∃ y, loopO m_spec_point_0 (s, (at_ : Int), c, (many : Int), least, ((at_ + k : Nat) : Int)) = some y ∧ (y = .inr (0, 0) ∨ ((∃ c', y = .inl (c', (many : Int), least)) ∧ ∀ j, k ≤ j → j < many → ∃ d, s[at_ + j]? = some d ∧ 128 ≤ d.toNat)) := by
  intro m
  induction m with
  | zero =>
    intro k hm1 h1 h2 c
    refine ⟨.inl (c, (many : Int), least), loopO_out ?_, .inr ⟨⟨_, rfl⟩, fun j _ _ => by omega⟩⟩
    simp only [m_spec_point_0, cond_dec]
    rw [w64 (by omega) (by omega), if_neg (by omega)]
  | succ m ih =>
    intro k hm1 h1 h2 c
    obtain ⟨d, hd⟩ := get_lt (l := s) (k := at_ + k) (by omega)
    obtain ⟨n, hn⟩ := shl_ex c
    by_cases q1 : d.toNat < 128
    · refine ⟨.inr (0, 0), loopO_out ?_, .inl rfl⟩
      simp only [m_spec_point_0, cond_dec]
      rw [w64 (n := (at_ : Int) + (many : Int)) (by omega) (by omega), if_pos (by omega), atI_nat, hd, bind_some, if_pos (by omega)]
    · by_cases q2 : 191 < d.toNat
      · refine ⟨.inr (0, 0), loopO_out ?_, .inl rfl⟩
        simp only [m_spec_point_0, cond_dec]
        rw [w64 (n := (at_ : Int) + (many : Int)) (by omega) (by omega), if_pos (by omega), atI_nat, hd, bind_some, if_neg (by omega), bind_some, if_pos (by omega)]
      · have step : m_spec_point_0 (s, (at_ : Int), c, (many : Int), least, ((at_ + k : Nat) : Int)) = some (.nx (s, (at_ : Int), IntKind.wrap .i64 (IntKind.wrap .i64 (n + IntKind.wrap .i64 (d.toNat : Int)) - 128), (many : Int), least, ((at_ + (k + 1) : Nat) : Int))) := by
          simp only [m_spec_point_0, cond_dec]
          rw [w64 (n := (at_ : Int) + (many : Int)) (by omega) (by omega), if_pos (by omega), atI_nat, hd, bind_some, if_neg (by omega), bind_some, if_neg (by omega), hn, bind_some, bind_some]
          have e9 : ((at_ + k : Nat) : Int) + 1 = ((at_ + (k + 1) : Nat) : Int) := by omega
          rw [w64 (n := ((at_ + k : Nat) : Int) + 1) (by omega) (by omega), e9]
        obtain ⟨y, g1, g2⟩ := ih (k + 1) (by omega) (by omega) (by omega) (IntKind.wrap .i64 (IntKind.wrap .i64 (n + IntKind.wrap .i64 (d.toNat : Int)) - 128))
        refine ⟨y, by rw [loopO_nx step]; exact g1, ?_⟩
        rcases g2 with g2 | ⟨g2, g3⟩
        · exact .inl g2
        · refine .inr ⟨g2, fun j h3 h4 => ?_⟩
          by_cases e : j = k
          · subst e; exact ⟨d, hd, by omega⟩
          · exact g3 j (by omega) h4
theorem point_ex (hs : s.length ≤ 1000) {at_ : Nat} {c : UInt8} (hc : s[at_]? = some c) : ∃ (v : Int) (k : Nat), m_spec_point (s, (at_ : Int)) = some (v, (k : Int)) ∧ at_ + k ≤ s.length ∧ (c.toNat < 128 → k = 1) ∧ (128 ≤ c.toNat → ∀ j, j < k → ∃ d, s[at_ + j]? = some d ∧ 128 ≤ d.toNat) := by
  have hi := (List.getElem?_eq_some_iff.1 hc).1
  have hlt := c.toNat_lt
  have z : ∃ (v : Int) (k : Nat), (some ((0 : Int), (0 : Int)) : Option (Int × Int)) = some (v, (k : Int)) ∧ at_ + k ≤ s.length ∧ (c.toNat < 128 → k = 1) ∧ (128 ≤ c.toNat → ∀ j, j < k → ∃ d, s[at_ + j]? = some d ∧ 128 ≤ d.toNat) ∨ c.toNat < 128 := by
    by_cases h : c.toNat < 128
    · exact ⟨0, 0, .inr h⟩
    · exact ⟨0, 0, .inl ⟨rfl, by omega, fun h' => absurd h' h, fun _ j hj => by omega⟩⟩
  have ec : IntKind.wrap .i64 (c.toNat : Int) = (c.toNat : Int) := w64 (by omega) (by omega)
  have part : ∀ (many : Nat) (v0 least : Int), 1 < many → many ≤ 4 → 128 ≤ c.toNat → ∃ (v : Int) (k : Nat), (if (s.length : Int) < IntKind.wrap .i64 ((at_ : Int) + (many : Int)) then some ((0 : Int), (0 : Int)) else Option.bind (loopO m_spec_point_0 (s, (at_ : Int), v0, (many : Int), least, IntKind.wrap .i64 ((at_ : Int) + 1))) fun y => selim (fun (y : Int × Int × Int) => if y.1 < y.2.2 then some ((0 : Int), (0 : Int)) else if 1114111 < y.1 then some (0, 0) else if 55296 ≤ y.1 then if y.1 < 57344 then some (0, 0) else some (y.1, y.2.1) else some (y.1, y.2.1)) (fun (y : Int × Int) => some (y.1, y.2)) y) = some (v, (k : Int)) ∧ at_ + k ≤ s.length ∧ (c.toNat < 128 → k = 1) ∧ (128 ≤ c.toNat → ∀ j, j < k → ∃ d, s[at_ + j]? = some d ∧ 128 ≤ d.toNat) := fun many v0 least h1 h2 h3 => by
    have z0 : ∀ x : Option (Int × Int), x = some (0, 0) → ∃ (v : Int) (k : Nat), x = some (v, (k : Int)) ∧ at_ + k ≤ s.length ∧ (c.toNat < 128 → k = 1) ∧ (128 ≤ c.toNat → ∀ j, j < k → ∃ d, s[at_ + j]? = some d ∧ 128 ≤ d.toNat) := fun x hx => ⟨0, 0, hx, by omega, fun h' => by omega, fun _ j hj => by omega⟩
    rw [w64 (by omega) (by omega), w64 (by omega) (by omega)]
    split
    · exact z0 _ rfl
    · rename_i h4
      obtain ⟨y, g1, g2⟩ := point_go hs at_ many h2 (by omega) least (many - 1) 1 rfl (Nat.le_refl _) (by omega) v0
      rw [show loopO m_spec_point_0 (s, (at_ : Int), v0, (many : Int), least, (at_ : Int) + 1) = some y from g1, bind_some]
      rcases g2 with rfl | ⟨⟨c', rfl⟩, g3⟩
      · exact z0 _ rfl
      · rw [selim_l]
        simp only
        have good : ∃ (v : Int) (k : Nat), some (c', (many : Int)) = some (v, (k : Int)) ∧ at_ + k ≤ s.length ∧ (c.toNat < 128 → k = 1) ∧ (128 ≤ c.toNat → ∀ j, j < k → ∃ d, s[at_ + j]? = some d ∧ 128 ≤ d.toNat) := ⟨c', many, rfl, by omega, fun h' => by omega, fun _ j hj => by
          by_cases e : j = 0
          · subst e; exact ⟨c, hc, h3⟩
          · exact g3 j (by omega) hj⟩
        split
        · exact z0 _ rfl
        · split
          · exact z0 _ rfl
          · split
            · split
              · exact z0 _ rfl
              · exact good
            · exact good
  simp only [m_spec_point, cond_dec, atI_nat, hc, bind_some, ec]
  by_cases h128 : c.toNat < 128
  · rw [if_pos (by omega)]
    exact ⟨_, 1, rfl, by omega, fun _ => rfl, fun h => by omega⟩
  · have hz : ∃ (v : Int) (k : Nat), (some ((0 : Int), (0 : Int)) : Option (Int × Int)) = some (v, (k : Int)) ∧ at_ + k ≤ s.length ∧ (c.toNat < 128 → k = 1) ∧ (128 ≤ c.toNat → ∀ j, j < k → ∃ d, s[at_ + j]? = some d ∧ 128 ≤ d.toNat) := ⟨0, 0, rfl, by omega, fun h' => absurd h' h128, fun _ j hj => by omega⟩
    have p2 := fun v0 => part 2 v0 128 (by omega) (by omega) (by omega)
    have p3 := fun v0 => part 3 v0 2048 (by omega) (by omega) (by omega)
    have p4 := fun v0 => part 4 v0 65536 (by omega) (by omega) (by omega)
    rw [if_neg (by omega)]
    have q4 : ∃ (v : Int) (k : Nat), (if 240 ≤ (c.toNat : Int) then if (c.toNat : Int) < 245 then (if (s.length : Int) < IntKind.wrap .i64 ((at_ : Int) + ((4 : Nat) : Int)) then some ((0 : Int), (0 : Int)) else Option.bind (loopO m_spec_point_0 (s, (at_ : Int), IntKind.wrap .i64 ((c.toNat : Int) - 240), ((4 : Nat) : Int), 65536, IntKind.wrap .i64 ((at_ : Int) + 1))) fun y => selim (fun (y : Int × Int × Int) => if y.1 < y.2.2 then some ((0 : Int), (0 : Int)) else if 1114111 < y.1 then some (0, 0) else if 55296 ≤ y.1 then if y.1 < 57344 then some (0, 0) else some (y.1, y.2.1) else some (y.1, y.2.1)) (fun (y : Int × Int) => some (y.1, y.2)) y) else some (0, 0) else some (0, 0)) = some (v, (k : Int)) ∧ at_ + k ≤ s.length ∧ (c.toNat < 128 → k = 1) ∧ (128 ≤ c.toNat → ∀ j, j < k → ∃ d, s[at_ + j]? = some d ∧ 128 ≤ d.toNat) := by
      by_cases a1 : 240 ≤ c.toNat
      · rw [if_pos (by omega)]
        by_cases a2 : c.toNat < 245
        · rw [if_pos (by omega)]; exact p4 _
        · rw [if_neg (by omega)]; exact hz
      · rw [if_neg (by omega)]; exact hz
    by_cases a1 : 194 ≤ c.toNat
    · rw [if_pos (by omega)]
      by_cases a2 : c.toNat < 224
      · rw [if_pos (by omega)]; exact p2 _
      · rw [if_neg (by omega)]
        rw [if_pos (by omega)]
        by_cases a3 : c.toNat < 240
        · rw [if_pos (by omega)]; exact p3 _
        · rw [if_neg (by omega)]
          exact q4
    · rw [if_neg (by omega), if_neg (by omega), if_neg (by omega)]
      exact hz
theorem spec_other (hs : s.length ≤ 1000) {i : Nat} {d : UInt8} (hd : s[i + 1]? = some d) (hh : hexN d.toNat = false) : ∃ k, m_spec_reader_escape (s, (i : Int), b, u, p) = some ((s.take (i + 1 + k)).drop (i + 1), s, ((i + 1 + k : Nat) : Int), b, u, p) ∧ i + 1 + k ≤ s.length ∧ (d.toNat < 128 → k = 1) ∧ (128 ≤ d.toNat → ∀ j, j < k → ∃ c, s[i + 1 + j]? = some c ∧ 128 ≤ c.toNat) := by
  have hi := (List.getElem?_eq_some_iff.1 hd).1
  have hl := esc_loop (b := b) (u := u) (p := p) hs 6 (i + 1) 0 0 rfl (by omega) (by simp)
  have e : hexs s 6 (i + 1) 0 = (i + 1, 0) := by
    rw [show (6 : Nat) = 5 + 1 from rfl, hexs, hd]
    simp [hh]
  rw [e] at hl
  obtain ⟨v, k, h1, h2, h3, h4⟩ := point_ex hs hd
  refine ⟨k, ?_, h2, h3, h4⟩
  have e0 : IntKind.wrap .i64 ((i : Int) + 1) = ((i + 1 : Nat) : Int) := by rw [w64 (by omega) (by omega)]; omega
  simp only [m_spec_reader_escape, e0]
  rw [show loopO m_spec_reader_escape_0 ((s, ((i + 1 : Nat) : Int), b, u, p), (0 : Int), (0 : Int)) = _ from hl, bind_some]
  simp only [cond_dec]
  rw [if_pos (by omega), h1, bind_some]
  have e1 : IntKind.wrap .i64 (((i + 1 : Nat) : Int) + (k : Int)) = ((i + 1 + k : Nat) : Int) := by rw [w64 (by omega) (by omega)]; omega
  simp only [e1]
  rw [sub_nat s (by omega) (by omega), bind_some]
end
section
variable {s : List UInt8} {dp : Int} {ac : Bool}
theorem iesc_loop (hs : s.length ≤ 1000) (st : Nat) (pi : Int) (hst : st ≤ s.length) : ∀ (k at_ a : Nat), at_ + k = st + 6 → at_ ≤ s.length → loopO m_cascadia_parser_parseEscape_0 ((s, pi, dp, ac), (st : Int), (at_ : Int)) = some ((s, pi, dp, ac), (st : Int), ((hexs s k at_ a).1 : Int))
  | 0, at_, a, hk, hat => by
    refine loopO_out ?_
    simp only [m_cascadia_parser_parseEscape_0, cond_dec, hexs]
    rw [w64 (by omega) (by omega), if_neg (by omega)]
  | k + 1, at_, a, hk, hat => by
    simp only [hexs]
    cases hc : s[at_]? with
    | none =>
      refine loopO_out ?_
      have := List.getElem?_eq_none_iff.1 hc
      simp only [m_cascadia_parser_parseEscape_0, cond_dec]
      rw [w64 (by omega) (by omega), if_pos (by omega), if_neg (by omega)]
    | some c =>
      have hlt := (List.getElem?_eq_some_iff.1 hc).1
      simp only
      cases hh : hexN c.toNat with
      | false =>
        refine loopO_out ?_
        simp only [m_cascadia_parser_parseEscape_0, cond_dec, atI_nat]
        rw [w64 (by omega) (by omega), if_pos (by omega), if_pos (by omega), hc]
        simp only [bind_some, hexDigit_eq, hh, cond_false]
        simp
      | true =>
        have step : m_cascadia_parser_parseEscape_0 ((s, pi, dp, ac), (st : Int), (at_ : Int)) = some (.nx ((s, pi, dp, ac), (st : Int), ((at_ + 1 : Nat) : Int))) := by
          simp only [m_cascadia_parser_parseEscape_0, cond_dec, atI_nat]
          rw [w64 (n := (st : Int) + 6) (by omega) (by omega), if_pos (by omega), if_pos (by omega), hc]
          simp only [bind_some, hexDigit_eq, hh, cond_true]
          rw [w64 (by omega) (by omega)]
          simp
        rw [loopO_nx step, iesc_loop hs st pi hst k (at_ + 1) (16 * a + hexV c.toNat) (by omega) (by omega)]
        simp
theorem impl_none (hs : s.length ≤ 1000) {i : Nat} (hi : i < s.length) (h : ef s i = false) : m_cascadia_parser_parseEscape (s, (i : Int), dp, ac) = some ([], true, s, (i : Int), dp, ac) := by
  have e2 : IntKind.wrap .i64 ((i : Int) + 2) = ((i + 2 : Nat) : Int) := by rw [w64 (by omega) (by omega)]; omega
  have e1 : IntKind.wrap .i64 ((i : Int) + 1) = ((i + 1 : Nat) : Int) := by rw [w64 (by omega) (by omega)]; omega
  simp only [m_cascadia_parser_parseEscape, cond_dec, m_errors_New, bind_some, e1, e2]
  by_cases h1 : s.length < i + 2
  · rw [if_pos (by omega)]
  · rw [if_neg (by omega)]
    obtain ⟨c, hc⟩ := get_lt (l := s) (k := i) (by omega)
    obtain ⟨d, hd⟩ := get_lt (l := s) (k := i + 1) (by omega)
    unfold ef at h
    rw [nx_some hc, nx_some hd] at h
    simp only [atI_nat, hc, hd, bind_some]
    by_cases q1 : c.toNat = 92
    · rw [if_neg (by omega)]
      simp [q1, show i + 1 < s.length by omega] at h
      by_cases q2 : d.toNat = 13
      · rw [if_pos (by omega)]
      · rw [if_neg (by omega)]
        by_cases q3 : d.toNat = 10
        · rw [if_pos (by omega)]
        · rw [if_neg (by omega)]
          have : d.toNat = 12 := by
            by_cases q4 : d.toNat = 12
            · exact q4
            · exact absurd (h q3 q2) q4
          rw [if_pos (by omega)]
    · rw [if_pos (by omega)]
theorem ef_true {i : Nat} (h : ef s i = true) : ∃ c d, s[i]? = some c ∧ c.toNat = 92 ∧ s[i + 1]? = some d ∧ d.toNat ≠ 10 ∧ d.toNat ≠ 13 ∧ d.toNat ≠ 12 := by
  unfold ef at h
  simp at h
  obtain ⟨h1, h2, h3, h4, h5⟩ := h
  obtain ⟨c, hc⟩ := get_lt (l := s) (k := i) (by omega)
  obtain ⟨d, hd⟩ := get_lt (l := s) (k := i + 1) (by omega)
  rw [nx_some hc] at h1
  rw [nx_some hd] at h3 h4 h5
  exact ⟨c, d, hc, h1, hd, h3, h4, h5⟩
theorem impl_hex (hs : s.length ≤ 1000) {i : Nat} {d : UInt8} (h : ef s i = true) (hd : s[i + 1]? = some d) (hh : hexN d.toNat = true) : m_cascadia_parser_parseEscape (s, (i : Int), dp, ac) = some (enc8 ((hexs s 6 (i + 1) 0).2 : Int), false, s, (sp s (hexs s 6 (i + 1) 0).1 : Int), dp, ac) := by
  obtain ⟨c, d', hc, q1, hd', q2, q3, q4⟩ := ef_true h
  obtain rfl : d = d' := by rw [hd] at hd'; exact Option.some.inj hd'
  have hi := (List.getElem?_eq_some_iff.1 hd).1
  have e2 : IntKind.wrap .i64 ((i : Int) + 2) = ((i + 2 : Nat) : Int) := by rw [w64 (by omega) (by omega)]; omega
  have e1 : IntKind.wrap .i64 ((i : Int) + 1) = ((i + 1 : Nat) : Int) := by rw [w64 (by omega) (by omega)]; omega
  have hl := iesc_loop (dp := dp) (ac := ac) hs (i + 1) (i : Int) (by omega) 6 (i + 1) 0 (by omega) (by omega)
  obtain ⟨l, r, h1, h2, h3, h4⟩ := hexs_spec s 6 (i + 1) 0
  have hle := hexs_le s 6 (i + 1) 0 (by omega)
  have hne : l ≠ [] := by
    rintro rfl
    rw [show (6 : Nat) = 5 + 1 from rfl, hexs, hd] at h4
    simp only [hh, if_true] at h4
    have := hexs_le s 5 (i + 1 + 1) (16 * 0 + hexV d.toNat) (by omega)
    rw [h4] at this
    simp at this
    omega
  have hsub : subL s ((i + 1 : Nat) : Int) ((hexs s 6 (i + 1) 0).1 : Int) = some l := by
    rw [sub_nat s hle.1 hle.2.1, h4]
    simp only
    congr 1
    rw [List.drop_take, h1]
    simp
  have h5 := hexs_val (s := s) 6 (i + 1) (Nat.le_refl _)
  have hpu := pu16_eq l hne h3 h2
  have hv : hval l 0 = (hexs s 6 (i + 1) 0).2 := by rw [h4]
  rw [hv] at hpu
  simp only [m_cascadia_parser_parseEscape, cond_dec, m_errors_New, bind_some, e1, e2]
  rw [if_neg (by omega)]
  simp only [atI_nat, hc, hd, bind_some]
  rw [if_neg (by omega), if_neg (by omega), if_neg (by omega), if_neg (by omega), hexDigit_eq, bind_some, hh, cond_true, hl, bind_some]
  clear hl h4
  generalize hexs s 6 (i + 1) 0 = q at hle hsub h5 hpu hv ⊢
  obtain ⟨j, n⟩ := q
  simp only at hle hsub h5 hpu hv ⊢
  rw [hsub, bind_some, hpu, bind_some]
  simp only
  rw [wi32 (by omega) (by omega)]
  have ej : IntKind.wrap .i64 ((j : Int) + 1) = ((j + 1 : Nat) : Int) := by rw [w64 (by omega) (by omega)]; omega
  have ej2 : IntKind.wrap .i64 (((j + 1 : Nat) : Int) + 1) = ((j + 2 : Nat) : Int) := by rw [w64 (by omega) (by omega)]; omega
  rw [ej]
  unfold sp
  cases hx : s[j]? with
  | none =>
    have := List.getElem?_eq_none_iff.1 hx
    rw [if_neg (by omega)]
  | some x =>
    have hj := (List.getElem?_eq_some_iff.1 hx).1
    rw [if_pos (by omega), atI_nat, hx, bind_some]
    simp only
    by_cases a1 : x.toNat = 13
    · rw [if_pos (by omega), if_pos a1, ej2]
      cases hy : s[j + 1]? with
      | none =>
        have := List.getElem?_eq_none_iff.1 hy
        rw [if_neg (by omega)]
      | some y =>
        have hj2 := (List.getElem?_eq_some_iff.1 hy).1
        rw [if_pos (by omega), atI_nat, hy, bind_some]
        by_cases a2 : y.toNat = 10
        · rw [if_pos (by omega)]; simp [a2]
        · rw [if_neg (by omega)]; simp [a2]
    · rw [if_neg (by omega), if_neg a1]
      by_cases a2 : x.toNat = 32
      · rw [if_pos (by omega), if_pos (.inl a2)]
      · rw [if_neg (by omega)]
        by_cases a3 : x.toNat = 9
        · rw [if_pos (by omega), if_pos (.inr (.inl a3))]
        · rw [if_neg (by omega)]
          by_cases a4 : x.toNat = 10
          · rw [if_pos (by omega), if_pos (.inr (.inr (.inl a4)))]
          · rw [if_neg (by omega)]
            by_cases a5 : x.toNat = 12
            · rw [if_pos (by omega), if_pos (.inr (.inr (.inr a5)))]
            · rw [if_neg (by omega), if_neg (by omega)]
theorem impl_other (hs : s.length ≤ 1000) {i : Nat} {d : UInt8} (h : ef s i = true) (hd : s[i + 1]? = some d) (hh : hexN d.toNat = false) : m_cascadia_parser_parseEscape (s, (i : Int), dp, ac) = some ([d], false, s, ((i + 2 : Nat) : Int), dp, ac) := by
  obtain ⟨c, d', hc, q1, hd', q2, q3, q4⟩ := ef_true h
  obtain rfl : d = d' := by rw [hd] at hd'; exact Option.some.inj hd'
  have hi := (List.getElem?_eq_some_iff.1 hd).1
  have e2 : IntKind.wrap .i64 ((i : Int) + 2) = ((i + 2 : Nat) : Int) := by rw [w64 (by omega) (by omega)]; omega
  have e1 : IntKind.wrap .i64 ((i : Int) + 1) = ((i + 1 : Nat) : Int) := by rw [w64 (by omega) (by omega)]; omega
  simp only [m_cascadia_parser_parseEscape, cond_dec, m_errors_New, bind_some, e1, e2]
  rw [if_neg (by omega)]
  simp only [atI_nat, hc, hd, bind_some]
  rw [if_neg (by omega), if_neg (by omega), if_neg (by omega), if_neg (by omega), hexDigit_eq, bind_some, hh, cond_false]
  have e3 : IntKind.wrap .i64 (((i + 1 : Nat) : Int) + 1) = ((i + 1 : Nat) : Int) + 1 := by rw [w64 (by omega) (by omega)]
  rw [e3, sub_one hd, bind_some]
end
end Go.Proofs.YtcjpnnmclhdjbaaGreatDoor.V
set_option linter.unusedVariables false
set_option linter.unusedSimpArgs false
namespace Go.Proofs.YtcjpnnmclhdjbaaGreatDoor.V
open Go
theorem readable_ex {s : List UInt8} (hs : s.length ≤ 1000) : ∃ b, m_spec_readable s = some b := by
  simp only [m_spec_readable]
  obtain ⟨y, h, _⟩ := loopO_rule (body := m_spec_readable_0) (fun x => ∃ k : Nat, x = (s, (k : Int)) ∧ k ≤ s.length) (fun _ _ => True) (fun x => ((s.length : Int) - x.2).toNat) (fun x hx => by
    obtain ⟨k, rfl, hk⟩ := hx
    simp only [m_spec_readable_0, cond_dec]
    split
    · obtain ⟨c, hc⟩ := get_lt (l := s) (k := k) (by omega)
      obtain ⟨v, n, h1, h2, h3, h4⟩ := point_ex hs hc
      rw [h1, bind_some]
      simp only
      split
      · exact .inl ⟨_, rfl, trivial⟩
      · split
        · exact .inl ⟨_, rfl, trivial⟩
        · split
          · exact .inl ⟨_, rfl, trivial⟩
          · refine .inr ⟨_, rfl, ⟨k + n, by rw [w64 (by omega) (by omega)]; rfl, h2⟩, ?_, fun _ _ => trivial⟩
            simp only
            rw [w64 (by omega) (by omega)]
            omega
    · exact .inl ⟨_, rfl, trivial⟩) (s, (0 : Int)) ⟨0, rfl, Nat.zero_le _⟩
  rw [h, bind_some]
  cases y <;> exact ⟨_, rfl⟩
def estep (s : List UInt8) (i : Nat) : Option (Nat × List UInt8) :=
  if ef s i then
    match s[i + 1]? with
    | some d => if hexN d.toNat then some (sp s (hexs s 6 (i + 1) 0).1, enc8 ((hexs s 6 (i + 1) 0).2 : Int)) else if 128 ≤ d.toNat then some (i + 1, []) else some (i + 2, [d])
    | none => none
  else none
def nstep (s : List UInt8) (i : Nat) : Option (Nat × List UInt8) :=
  match s[i]? with
  | none => none
  | some c => if nameN c.toNat then some (i + 1, [c]) else estep s i
inductive Rdg (f : Nat → Option (Nat × List UInt8)) : Nat → List UInt8 → Nat → List UInt8 → Prop
  | refl {i : Nat} {o : List UInt8} : Rdg f i o i o
  | step {i j k : Nat} {o p q : List UInt8} (h : f i = some (j, p)) (t : Rdg f j (o ++ p) k q) : Rdg f i o k q
section
variable {f : Nat → Option (Nat × List UInt8)} {i j k : Nat} {o p q : List UInt8}
theorem Rdg.trans (h : Rdg f i o j p) : ∀ {k : Nat} {q : List UInt8}, Rdg f j p k q → Rdg f i o k q := by
  induction h with
  | refl => intro k q h; exact h
  | step h t ih => intro k q h2; exact .step h (ih h2)
end
section
variable {f : Nat → Option (Nat × List UInt8)} {i j k : Nat} {o p q : List UInt8}
theorem Rdg.one (h : f i = some (j, p)) : Rdg f i o j (o ++ p) := .step h .refl
end
section
variable {f : Nat → Option (Nat × List UInt8)} {i j k : Nat} {o p q : List UInt8}
theorem Rdg.det (h : Rdg f i o j p) : ∀ {k : Nat} {q : List UInt8}, f j = none → Rdg f i o k q → f k = none → j = k ∧ p = q := by
  induction h with
  | refl =>
    intro k q hj h2 hk
    cases h2 with
    | refl => exact ⟨rfl, rfl⟩
    | step h _ => rw [hj] at h; cases h
  | step h t ih =>
    intro k q hj h2 hk
    cases h2 with
    | refl => rw [hk] at h; cases h
    | step h' t' =>
      rw [h] at h'
      cases h'
      exact ih hj t' hk
end
section
variable {s : List UInt8}
theorem ef_lt {i : Nat} (h : ef s i = true) : i + 1 < s.length := by
  unfold ef at h
  simp at h
  exact h.2.1
end
section
variable {s : List UInt8}
theorem estep_hex {i : Nat} {d : UInt8} (h : ef s i = true) (hd : s[i + 1]? = some d) (hh : hexN d.toNat = true) : estep s i = some (sp s (hexs s 6 (i + 1) 0).1, enc8 ((hexs s 6 (i + 1) 0).2 : Int)) := by
  simp only [estep, h, hd, hh, if_true]
end
section
variable {s : List UInt8}
theorem estep_high {i : Nat} {d : UInt8} (h : ef s i = true) (hd : s[i + 1]? = some d) (hh : hexN d.toNat = false) (hi : 128 ≤ d.toNat) : estep s i = some (i + 1, []) := by
  simp [estep, h, hd, hh, hi]
end
section
variable {s : List UInt8}
theorem estep_low {i : Nat} {d : UInt8} (h : ef s i = true) (hd : s[i + 1]? = some d) (hh : hexN d.toNat = false) (hi : ¬ 128 ≤ d.toNat) : estep s i = some (i + 2, [d]) := by
  simp [estep, h, hd, hh, hi]
end
section
variable {s : List UInt8}
theorem estep_none {i : Nat} (h : ef s i = false) : estep s i = none := by simp [estep, h]
end
section
variable {s : List UInt8}
theorem sp_gt {i : Nat} (hi : i + 1 < s.length) : i < sp s (hexs s 6 (i + 1) 0).1 ∧ sp s (hexs s 6 (i + 1) 0).1 ≤ s.length := by
  have h1 := hexs_le s 6 (i + 1) 0 (by omega)
  have h2 := sp_le s (hexs s 6 (i + 1) 0).1 h1.2.1
  omega
end
section
variable {s : List UInt8}
end
section
variable {s : List UInt8}
theorem high_run {f : Nat → Option (Nat × List UInt8)} (hf : ∀ (i : Nat) (c : UInt8), s[i]? = some c → 128 ≤ c.toNat → f i = some (i + 1, [c])) : ∀ (k i : Nat) (o : List UInt8), i + k ≤ s.length → (∀ j, j < k → ∃ c, s[i + j]? = some c ∧ 128 ≤ c.toNat) → Rdg f i o (i + k) (o ++ (s.take (i + k)).drop i)
  | 0, i, o, hi, h => by
    rw [Nat.add_zero, List.drop_of_length_le (by rw [List.length_take]; omega), List.append_nil]
    exact .refl
  | k + 1, i, o, hi, h => by
    obtain ⟨c, hc, hh⟩ := h 0 (by omega)
    rw [Nat.add_zero] at hc
    have ih := high_run hf k (i + 1) (o ++ [c]) (by omega) fun j hj => by
      obtain ⟨c', h1, h2⟩ := h (j + 1) (by omega)
      exact ⟨c', by rw [← h1]; congr 1; omega, h2⟩
    have e : o ++ (s.take (i + (k + 1))).drop i = (o ++ [c]) ++ (s.take (i + 1 + k)).drop (i + 1) := by
      rw [List.append_assoc, show i + (k + 1) = i + 1 + k by omega]
      congr 1
      have hl : i < (s.take (i + 1 + k)).length := by rw [List.length_take]; omega
      rw [List.drop_eq_getElem_cons hl]
      have : (s.take (i + 1 + k))[i] = c := by
        have h1 : (s.take (i + 1 + k))[i]? = some c := by rw [List.getElem?_take, if_pos (by omega)]; exact hc
        exact (List.getElem?_eq_some_iff.1 h1).2
      rw [this]
      rfl
    rw [e, show i + (k + 1) = i + 1 + k by omega]
    exact .step (hf i c hc hh) ih
end
section
variable {s : List UInt8}
theorem esc_Rdg {f : Nat → Option (Nat × List UInt8)} (hs : s.length ≤ 1000) (hf : ∀ (i : Nat) (c : UInt8), s[i]? = some c → 128 ≤ c.toNat → f i = some (i + 1, [c])) {i : Nat} (h : ef s i = true) (he : f i = estep s i) (b u p : Bool) (o : List UInt8) :
    ∃ (out : List UInt8) (j : Nat) (u' : Bool), m_spec_reader_escape (s, (i : Int), b, u, p) = some (out, s, (j : Int), b, u', p) ∧ (u' = false → u = false ∧ Rdg f i o j (o ++ out)) ∧ i < j ∧ j ≤ s.length ∧ out.length ≤ 4 * (j - i) := by
  obtain ⟨c, d, hc, q1, hd, q2, q3, q4⟩ := ef_true h
  have hi := (List.getElem?_eq_some_iff.1 hd).1
  cases hh : hexN d.toNat with
  | true =>
    obtain ⟨out, u', h1, h2, h3⟩ := spec_hex (b := b) (u := u) (p := p) hs hd hh
    have h4 := sp_gt hi
    have hst := he.trans (estep_hex h hd hh)
    generalize sp s (hexs s 6 (i + 1) 0).1 = j at h1 h4 hst
    generalize enc8 ((hexs s 6 (i + 1) 0).2 : Int) = w at h2 hst
    refine ⟨out, j, u', h1, fun e => ?_, h4.1, h4.2, by omega⟩
    obtain ⟨g1, g2⟩ := h2 e
    subst g2
    exact ⟨g1, .one hst⟩
  | false =>
    obtain ⟨k, h1, h2, h3, h4⟩ := spec_other (b := b) (u := u) (p := p) hs hd hh
    refine ⟨_, _, u, h1, fun e => ⟨e, ?_⟩, by omega, h2, by rw [List.length_drop, List.length_take]; omega⟩
    by_cases hhi : 128 ≤ d.toNat
    · refine .step (he.trans (estep_high h hd hh hhi)) ?_
      rw [List.append_nil]
      exact high_run hf k (i + 1) o h2 (h4 hhi)
    · have hk := h3 (by omega)
      subst hk
      have e2 : (s.take (i + 1 + 1)).drop (i + 1) = [d] := by
        rw [List.take_add_one, hd, List.drop_append_of_le_length (by rw [List.length_take]; omega), List.drop_of_length_le (by rw [List.length_take]; omega)]
        rfl
      rw [e2]
      exact .one (he.trans (estep_low h hd hh hhi))
end
section
variable {s : List UInt8}
theorem iesc_Rdg {f : Nat → Option (Nat × List UInt8)} (hs : s.length ≤ 1000) (hf : ∀ (i : Nat) (c : UInt8), s[i]? = some c → 128 ≤ c.toNat → f i = some (i + 1, [c])) {i : Nat} (h : ef s i = true) (he : f i = estep s i) (dp : Int) (ac : Bool) (o : List UInt8) :
    ∃ (out : List UInt8) (j : Nat), m_cascadia_parser_parseEscape (s, (i : Int), dp, ac) = some (out, false, s, (j : Int), dp, ac) ∧ Rdg f i o j (o ++ out) ∧ i < j ∧ j ≤ s.length ∧ out.length ≤ 4 * (j - i) := by
  obtain ⟨c, d, hc, q1, hd, q2, q3, q4⟩ := ef_true h
  have hi := (List.getElem?_eq_some_iff.1 hd).1
  cases hh : hexN d.toNat with
  | true =>
    have h4 := sp_gt hi
    have h5 := enc8_len ((hexs s 6 (i + 1) 0).2 : Int)
    have hst := he.trans (estep_hex h hd hh)
    have h1 := impl_hex (dp := dp) (ac := ac) hs h hd hh
    generalize sp s (hexs s 6 (i + 1) 0).1 = j at h1 h4 hst
    generalize enc8 ((hexs s 6 (i + 1) 0).2 : Int) = w at h1 h5 hst
    exact ⟨w, j, h1, .one hst, h4.1, h4.2, by omega⟩
  | false =>
    refine ⟨_, _, impl_other hs h hd hh, ?_, by omega, by omega, by simp⟩
    by_cases hhi : 128 ≤ d.toNat
    · refine .step (he.trans (estep_high h hd hh hhi)) ?_
      rw [List.append_nil]
      exact .one (hf (i + 1) d hd hhi)
    · exact .one (he.trans (estep_low h hd hh hhi))
end
section
variable {s : List UInt8}
theorem nstep_name {i : Nat} {c : UInt8} (hc : s[i]? = some c) (h : nameN c.toNat = true) : nstep s i = some (i + 1, [c]) := by simp [nstep, hc, h]
end
section
variable {s : List UInt8}
theorem nstep_hi (i : Nat) (c : UInt8) (hc : s[i]? = some c) (h : 128 ≤ c.toNat) : nstep s i = some (i + 1, [c]) := nstep_name hc (high c h).1
end
section
variable {s : List UInt8}
theorem nstep_esc {i : Nat} {c : UInt8} (hc : s[i]? = some c) (h : nameN c.toNat = false) : nstep s i = estep s i := by simp [nstep, hc, h]
end
section
variable {s : List UInt8}
theorem nstep_end {i : Nat} (h : s.length ≤ i) : nstep s i = none := by rw [nstep, List.getElem?_eq_none h]
end
section
variable {s : List UInt8}
theorem nstep_none {i : Nat} {c : UInt8} (hc : s[i]? = some c) (h : nameN c.toNat = false) (he : ef s i = false) : nstep s i = none := by rw [nstep_esc hc h, estep_none he]
end
section
variable {s : List UInt8}
theorem Rdg.grow {i k : Nat} {o q : List UInt8} (h : Rdg (nstep s) i o k q) : o.length ≤ q.length ∧ i ≤ k ∧ (nstep s k = none → i < k → o.length < q.length) := by
  induction h with
  | refl => exact ⟨Nat.le_refl _, Nat.le_refl _, fun _ h => by omega⟩
  | @step i j k o p q h t ih =>
    obtain ⟨g1, g2, g3⟩ := ih
    rw [List.length_append] at g1 g3
    have key : i < j ∧ (p ≠ [] ∨ nstep s j ≠ none) := by
      cases hc : s[i]? with
      | none => rw [nstep, hc] at h; cases h
      | some c =>
        cases hn : nameN c.toNat with
        | true =>
          rw [nstep_name hc hn] at h
          cases h
          exact ⟨by omega, .inl (by simp)⟩
        | false =>
          rw [nstep_esc hc hn] at h
          cases he : ef s i with
          | false => rw [estep_none he] at h; cases h
          | true =>
            obtain ⟨c', d, hc', q1, hd, q2, q3, q4⟩ := ef_true he
            have hi := (List.getElem?_eq_some_iff.1 hd).1
            cases hh : hexN d.toNat with
            | true =>
              rw [estep_hex he hd hh] at h
              cases h
              exact ⟨(sp_gt hi).1, .inl (enc8_ne _)⟩
            | false =>
              by_cases hhi : 128 ≤ d.toNat
              · rw [estep_high he hd hh hhi] at h
                cases h
                exact ⟨by omega, .inr (by rw [nstep_hi _ d hd hhi]; simp)⟩
              · rw [estep_low he hd hh hhi] at h
                cases h
                exact ⟨by omega, .inl (by simp)⟩
    refine ⟨by omega, by omega, fun hk hik => ?_⟩
    rcases key.2 with hp | hp
    · have : 0 < p.length := List.length_pos_iff.2 hp
      omega
    · by_cases e : j = k
      · subst e; exact absurd hk hp
      · have := g3 hk (by omega)
        omega
end
section
variable {s : List UInt8}
theorem chunk_eq (hs : s.length ≤ 1000) (pi dp : Int) (ac : Bool) (o : List UInt8) (st : Nat) : ∃ j : Nat, loopO m_cascadia_parser_parseName_0_0 ((s, pi, dp, ac), o, (st : Int), (st : Int)) = some ((s, pi, dp, ac), o, (j : Int), (st : Int)) ∧ st ≤ j ∧ (st ≤ s.length → j ≤ s.length) ∧ (∀ c, s[st]? = some c → nameN c.toNat = true → st < j) ∧ (st ≤ s.length → ∀ o', Rdg (nstep s) st o' j (o' ++ (s.take j).drop st)) := by
  obtain ⟨y, h, q⟩ := loopO_rule (body := m_cascadia_parser_parseName_0_0) (fun x => ∃ j : Nat, x = ((s, pi, dp, ac), o, (j : Int), (st : Int)) ∧ st ≤ j ∧ (st ≤ s.length → j ≤ s.length) ∧ (st ≤ s.length → ∀ o', Rdg (nstep s) st o' j (o' ++ (s.take j).drop st))) (fun x y => ∃ j : Nat, y = ((s, pi, dp, ac), o, (j : Int), (st : Int)) ∧ st ≤ j ∧ (st ≤ s.length → j ≤ s.length) ∧ (x.2.2.1 ≤ (j : Int)) ∧ (∀ c, x.2.2.1 = (st : Int) → s[st]? = some c → nameN c.toNat = true → st < j) ∧ (st ≤ s.length → ∀ o', Rdg (nstep s) st o' j (o' ++ (s.take j).drop st))) (fun x => ((s.length : Int) - x.2.2.1).toNat) (fun x hx => by
    obtain ⟨j, rfl, h1, h2, h3⟩ := hx
    simp only [m_cascadia_parser_parseName_0_0, cond_dec]
    split
    · rename_i h4
      obtain ⟨c, hc⟩ := get_lt (l := s) (k := j) (by omega)
      simp only [atI_nat, hc, bind_some, nameChar_eq]
      cases hn : nameN c.toNat with
      | true =>
        simp only [cond_true]
        refine .inr ⟨_, rfl, ⟨j + 1, by rw [w64 (by omega) (by omega)]; rfl, by omega, fun h => by omega, fun hst o' => ?_⟩, by rw [w64 (by omega) (by omega)]; show ((s.length : Int) - ((j : Int) + 1)).toNat < ((s.length : Int) - (j : Int)).toNat; omega, fun y hy => ?_⟩
        · refine (h3 hst o').trans ?_
          have e : o' ++ (s.take (j + 1)).drop st = (o' ++ (s.take j).drop st) ++ [c] := by
            rw [List.take_add_one, hc, List.drop_append_of_le_length (by rw [List.length_take]; omega), List.append_assoc]
            rfl
          rw [e]
          exact .one (nstep_name hc hn)
        · obtain ⟨j', q1, q2, q3, q4, q5, q6⟩ := hy
          have q4 : IntKind.wrap .i64 ((j : Int) + 1) ≤ (j' : Int) := q4
          rw [w64 (by omega) (by omega)] at q4
          exact ⟨j', q1, q2, q3, by show (j : Int) ≤ (j' : Int); omega, fun c' e _ _ => by have e : (j : Int) = (st : Int) := e; omega, q6⟩
      | false =>
        simp only [cond_false]
        refine .inl ⟨_, rfl, j, rfl, h1, h2, Int.le_refl _, fun c' e hc' hn' => ?_, h3⟩
        have e : (j : Int) = (st : Int) := e
        have : j = st := by omega
        subst this
        rw [hc] at hc'
        cases hc'
        rw [hn] at hn'
        cases hn'
    · refine .inl ⟨_, rfl, j, rfl, h1, h2, Int.le_refl _, fun c' e hc' hn' => ?_, h3⟩
      have := (List.getElem?_eq_some_iff.1 hc').1
      have e : (j : Int) = (st : Int) := e
      omega) ((s, pi, dp, ac), o, (st : Int), (st : Int)) ⟨st, rfl, Nat.le_refl _, fun h => h, fun _ o' => by
        rw [List.drop_of_length_le (by rw [List.length_take]; omega), List.append_nil]
        exact .refl⟩
  obtain ⟨j, rfl, q2, q3, q4, q5, q6⟩ := q
  exact ⟨j, h, q2, q3, fun c hc hn => q5 c rfl hc hn, q6⟩
end
def qstep (s : List UInt8) (q i : Nat) : Option (Nat × List UInt8) :=
  match s[i]? with
  | none => none
  | some c => if c.toNat = 92 then (if ef s i then estep s i else if i + 1 < s.length then some (if crlf s (i + 1) then i + 3 else i + 2, []) else none)
    else if c.toNat = q ∨ c.toNat = 10 ∨ c.toNat = 13 ∨ c.toNat = 12 then none else some (i + 1, [c])
section
variable {s : List UInt8} {q : Nat}
theorem qstep_end {i : Nat} (h : s.length ≤ i) : qstep s q i = none := by rw [qstep, List.getElem?_eq_none h]
end
section
variable {s : List UInt8} {q : Nat}
theorem qstep_one {i : Nat} {c : UInt8} (hc : s[i]? = some c) (h : c.toNat ≠ 92) (h1 : ¬ (c.toNat = q ∨ c.toNat = 10 ∨ c.toNat = 13 ∨ c.toNat = 12)) : qstep s q i = some (i + 1, [c]) := by
  rw [qstep, hc]
  simp only
  rw [if_neg h, if_neg h1]
end
section
variable {s : List UInt8} {q : Nat}
theorem qstep_stop {i : Nat} {c : UInt8} (hc : s[i]? = some c) (h : c.toNat ≠ 92) (h1 : c.toNat = q ∨ c.toNat = 10 ∨ c.toNat = 13 ∨ c.toNat = 12) : qstep s q i = none := by
  rw [qstep, hc]
  simp only
  rw [if_neg h, if_pos h1]
end
section
variable {s : List UInt8} {q : Nat}
theorem qstep_esc {i : Nat} {c : UInt8} (hc : s[i]? = some c) (h : c.toNat = 92) (he : ef s i = true) : qstep s q i = estep s i := by
  rw [qstep, hc]
  simp only
  rw [if_pos h, if_pos he]
end
section
variable {s : List UInt8} {q : Nat}
theorem qstep_line {i : Nat} {c : UInt8} (hc : s[i]? = some c) (h : c.toNat = 92) (he : ef s i = false) (hi : i + 1 < s.length) : qstep s q i = some (if crlf s (i + 1) then i + 3 else i + 2, []) := by
  rw [qstep, hc]
  simp only
  rw [if_pos h, if_neg (by rw [he]; decide), if_pos hi]
end
section
variable {s : List UInt8} {q : Nat}
theorem qstep_cut {i : Nat} {c : UInt8} (hc : s[i]? = some c) (h : c.toNat = 92) (he : ef s i = false) (hi : ¬ i + 1 < s.length) : qstep s q i = none := by
  rw [qstep, hc]
  simp only
  rw [if_pos h, if_neg (by rw [he]; decide), if_neg hi]
end
section
variable {s : List UInt8} {q : Nat}
theorem qstep_hi (hq : q < 128) (i : Nat) (c : UInt8) (hc : s[i]? = some c) (h : 128 ≤ c.toNat) : qstep s q i = some (i + 1, [c]) := qstep_one hc (by omega) (by omega)
end
section
variable {s : List UInt8} {q : Nat}
theorem crlf_lt {i : Nat} (h : crlf s i = true) : i + 1 < s.length := by
  unfold crlf at h
  simp at h
  apply Decidable.byContradiction
  intro hn
  have : nx s (i + 1) = 0 := by rw [nx, List.getElem?_eq_none (by omega)]
  omega
end
section
variable {s : List UInt8} {q : Nat}
theorem chunkS_eq (hs : s.length ≤ 1000) (hq : q < 128) (pi dp : Int) (ac : Bool) (o : List UInt8) (st : Nat) (hst : st ≤ s.length) : ∃ j : Nat, loopO m_cascadia_parser_parseString_0_0 ((s, pi, dp, ac), o, (st : Int), (q : Int), (st : Int)) = some ((s, pi, dp, ac), o, (j : Int), (q : Int), (st : Int)) ∧ st ≤ j ∧ j ≤ s.length ∧ (∀ c, s[st]? = some c → c.toNat ≠ 92 → ¬ (c.toNat = q ∨ c.toNat = 10 ∨ c.toNat = 13 ∨ c.toNat = 12) → st < j) ∧ ∀ o', Rdg (qstep s q) st o' j (o' ++ (s.take j).drop st) := by
  have key : ∀ m j, s.length - j = m → st ≤ j → j ≤ s.length → (∀ o', Rdg (qstep s q) st o' j (o' ++ (s.take j).drop st)) → ∃ j' : Nat, loopO m_cascadia_parser_parseString_0_0 ((s, pi, dp, ac), o, (j : Int), (q : Int), (st : Int)) = some ((s, pi, dp, ac), o, (j' : Int), (q : Int), (st : Int)) ∧ j ≤ j' ∧ j' ≤ s.length ∧ (∀ c, s[j]? = some c → c.toNat ≠ 92 → ¬ (c.toNat = q ∨ c.toNat = 10 ∨ c.toNat = 13 ∨ c.toNat = 12) → j < j') ∧ ∀ o', Rdg (qstep s q) st o' j' (o' ++ (s.take j').drop st) := by
    intro m
    induction m with
    | zero =>
      intro j hm h1 h2 h3
      refine ⟨j, loopO_out ?_, Nat.le_refl _, h2, fun c hc _ _ => ?_, h3⟩
      · simp only [m_cascadia_parser_parseString_0_0, cond_dec]
        rw [if_neg (by omega)]
      · have := (List.getElem?_eq_some_iff.1 hc).1
        omega
    | succ m ih =>
      intro j hm h1 h2 h3
      obtain ⟨c, hc⟩ := get_lt (l := s) (k := j) (by omega)
      by_cases hstop : c.toNat = q ∨ c.toNat = 92 ∨ c.toNat = 13 ∨ c.toNat = 10 ∨ c.toNat = 12
      · refine ⟨j, loopO_out ?_, Nat.le_refl _, h2, fun c' hc' g1 g2 => ?_, h3⟩
        · simp only [m_cascadia_parser_parseString_0_0, cond_dec, atI_nat, hc, bind_some]
          rw [if_pos (by omega)]
          by_cases a1 : c.toNat = q
          · rw [if_pos (by omega)]
          · rw [if_neg (by omega)]
            by_cases a2 : c.toNat = 92
            · rw [if_pos (by omega)]
            · rw [if_neg (by omega)]
              by_cases a3 : c.toNat = 13
              · rw [if_pos (by omega)]
              · rw [if_neg (by omega)]
                by_cases a4 : c.toNat = 10
                · rw [if_pos (by omega)]
                · rw [if_neg (by omega), if_pos (by omega)]
        · rw [hc] at hc'
          cases hc'
          omega
      · have step : m_cascadia_parser_parseString_0_0 ((s, pi, dp, ac), o, (j : Int), (q : Int), (st : Int)) = some (.nx ((s, pi, dp, ac), o, ((j + 1 : Nat) : Int), (q : Int), (st : Int))) := by
          simp only [m_cascadia_parser_parseString_0_0, cond_dec, atI_nat, hc, bind_some]
          rw [if_pos (by omega), if_neg (by omega), if_neg (by omega), if_neg (by omega), if_neg (by omega), if_neg (by omega), w64 (by omega) (by omega)]
          rfl
        obtain ⟨j', g1, g2, g3, _, g5⟩ := ih (j + 1) (by omega) (by omega) (by omega) (fun o' => by
          refine (h3 o').trans ?_
          have e : o' ++ (s.take (j + 1)).drop st = (o' ++ (s.take j).drop st) ++ [c] := by
            rw [List.take_add_one, hc, List.drop_append_of_le_length (by rw [List.length_take]; omega), List.append_assoc]
            rfl
          rw [e]
          exact .one (qstep_one hc (by omega) (by omega)))
        exact ⟨j', by rw [loopO_nx step]; exact g1, by omega, g3, fun _ _ _ _ => by omega, g5⟩
  exact key _ st rfl (Nat.le_refl _) hst fun o' => by
    rw [List.drop_of_length_le (by rw [List.length_take]; omega), List.append_nil]
    exact .refl
end
end Go.Proofs.YtcjpnnmclhdjbaaGreatDoor.V
set_option linter.unusedVariables false
set_option linter.unusedSimpArgs false
namespace Go.Proofs.YtcjpnnmclhdjbaaGreatDoor.V
open Go
section
variable {s : List UInt8}
theorem rest_at (hs : s.length ≤ 1000) {a : Nat} (ha : a ≤ s.length) (u0 p : Bool) : ∃ (out : List UInt8) (k : Nat) (u : Bool), m_spec_reader_rest (s, (a : Int), false, u0, p) = some (out, s, (k : Int), false, u, p) ∧ k ≤ s.length ∧ out.length ≤ 4 * k ∧ (u = false → u0 = false ∧ Rdg (nstep s) a [] k out ∧ nstep s k = none) := by
  simp only [m_spec_reader_rest]
  obtain ⟨y, h, q⟩ := loopO_rule (body := m_spec_reader_rest_0) (fun x => ∃ (k : Nat) (u : Bool) (o : List UInt8), x = ((s, (k : Int), false, u, p), o) ∧ k ≤ s.length ∧ o.length ≤ 4 * k ∧ (u = false → u0 = false ∧ Rdg (nstep s) a [] k o)) (fun _ y => ∃ (out : List UInt8) (k : Nat) (u : Bool), (y = .inl ((s, (k : Int), false, u, p), out) ∨ y = .inr ((s, (k : Int), false, u, p), out)) ∧ k ≤ s.length ∧ out.length ≤ 4 * k ∧ (u = false → u0 = false ∧ Rdg (nstep s) a [] k out ∧ nstep s k = none)) (fun x => ((s.length : Int) - x.1.2.1).toNat) (fun x hx => by
    obtain ⟨k, u, o, rfl, hk, ho, hN⟩ := hx
    simp only [m_spec_reader_rest_0, cond_dec]
    split
    · rename_i h1
      obtain ⟨c, hc⟩ := get_lt (l := s) (k := k) (by omega)
      simp only [Bool.not_false, cond_true, next_eq hs, bind_some, nx_some hc, nameByte_eq]
      have e1 : IntKind.wrap .i64 ((k : Int) + 1) = (k : Int) + 1 := w64 (by omega) (by omega)
      cases hn : nameN c.toNat with
      | true =>
        simp only [cond_true, e1]
        rw [sub_one hc, bind_some, catS_some (by simp; omega), bind_some]
        exact .inr ⟨_, rfl, ⟨k + 1, u, o ++ [c], rfl, by omega, by simp; omega, fun hu => ⟨(hN hu).1, (hN hu).2.trans (.one (nstep_name hc hn))⟩⟩, by simp only; omega, fun _ h => h⟩
      | false =>
        simp only [cond_false]
        rw [ef_eq hs k _ hk, bind_some]
        cases he : ef s k with
        | true =>
          obtain ⟨out, j, u', g1, g2, g3, g4, g5⟩ := esc_Rdg hs nstep_hi he (nstep_esc hc hn) false u p o
          simp only [cond_true]
          rw [g1, bind_some]
          simp only
          rw [catS_some (by omega), bind_some]
          exact .inr ⟨_, rfl, ⟨j, u', o ++ out, rfl, g4, by rw [List.length_append]; omega, fun hu => ⟨(hN (g2 hu).1).1, (hN (g2 hu).1).2.trans (g2 hu).2⟩⟩, by simp only; omega, fun _ h => h⟩
        | false => exact .inl ⟨_, rfl, o, k, u, .inr rfl, hk, ho, fun hu => ⟨(hN hu).1, (hN hu).2, nstep_none hc hn he⟩⟩
    · exact .inl ⟨_, rfl, o, k, u, .inl rfl, hk, ho, fun hu => ⟨(hN hu).1, (hN hu).2, nstep_end (by omega)⟩⟩) ((s, (a : Int), false, u0, p), []) ⟨a, u0, [], rfl, ha, Nat.zero_le _, fun h => ⟨h, .refl⟩⟩
  obtain ⟨out, k, u, hy, hq⟩ := q
  refine ⟨out, k, u, ?_, hq⟩
  rw [h, bind_some]
  rcases hy with rfl | rfl <;> rfl
theorem pname_at (hs : s.length ≤ 1000) {a : Nat} (ha : a ≤ s.length) (dp : Int) (ac : Bool) : ∃ (out : List UInt8) (k : Nat) (pi : Int), Rdg (nstep s) a [] k out ∧ nstep s k = none ∧ k ≤ s.length ∧ out.length ≤ 4 * k ∧ m_cascadia_parser_parseName (s, (a : Int), dp, ac) = some (if out = [] ∨ nx s k = 92 then ([], true, s, pi, dp, ac) else (out, false, s, (k : Int), dp, ac)) := by
  obtain ⟨y, h, q⟩ := loopO_rule (body := m_cascadia_parser_parseName_0) (fun x => ∃ (k : Nat) (pi : Int) (o : List UInt8), x = ((s, pi, dp, ac), o, (k : Int)) ∧ k ≤ s.length ∧ o.length ≤ 4 * k ∧ Rdg (nstep s) a [] k o) (fun _ y => ∃ (out : List UInt8) (k : Nat), Rdg (nstep s) a [] k out ∧ nstep s k = none ∧ k ≤ s.length ∧ out.length ≤ 4 * k ∧ ((∃ pi, y = .inl ((s, pi, dp, ac), out, (k : Int)) ∧ nx s k ≠ 92) ∨ (∃ pi, y = .inr ((s, pi, dp, ac), [], true) ∧ nx s k = 92))) (fun x => ((s.length : Int) - x.2.2).toNat) (fun x hx => by
    obtain ⟨k, pi, o, rfl, hk, ho, hN⟩ := hx
    simp only [m_cascadia_parser_parseName_0, cond_dec]
    split
    · rename_i h1
      obtain ⟨c, hc⟩ := get_lt (l := s) (k := k) (by omega)
      simp only [atI_nat, hc, bind_some, nameChar_eq]
      cases hn : nameN c.toNat with
      | true =>
        simp only [cond_true]
        obtain ⟨j, g1, g2, g3, g4, g5⟩ := chunk_eq hs pi dp ac o k
        have g4 := g4 c hc hn
        have g3 := g3 hk
        rw [g1, bind_some]
        simp only
        rw [sub_nat s g2 g3, bind_some, catS_some (by rw [List.length_drop, List.length_take]; omega), bind_some]
        exact .inr ⟨_, rfl, ⟨j, pi, _, rfl, g3, by rw [List.length_append, List.length_drop, List.length_take]; omega, hN.trans (g5 hk o)⟩, by simp only; omega, fun _ h => h⟩
      | false =>
        simp only [cond_false]
        by_cases h92 : c.toNat = 92
        · rw [if_pos (by omega)]
          cases he : ef s k with
          | true =>
            obtain ⟨out, j, g1, g2, g3, g4, g5⟩ := iesc_Rdg hs nstep_hi he (nstep_esc hc hn) dp ac o
            rw [g1, bind_some]
            simp only [Bool.not_false, Bool.not_true, cond_false]
            rw [catS_some (by omega), bind_some]
            exact .inr ⟨_, rfl, ⟨j, (j : Int), o ++ out, rfl, g4, by rw [List.length_append]; omega, hN.trans g2⟩, by simp only; omega, fun _ h => h⟩
          | false =>
            rw [impl_none hs (by omega) he, bind_some]
            exact .inl ⟨_, rfl, o, k, hN, nstep_none hc hn he, hk, ho, .inr ⟨(k : Int), rfl, by rw [nx_some hc]; exact h92⟩⟩
        · rw [if_neg (by omega)]
          have he : ef s k = false := by
            unfold ef
            rw [nx_some hc]
            simp [h92]
          exact .inl ⟨_, rfl, o, k, hN, nstep_none hc hn he, hk, ho, .inl ⟨pi, rfl, by rw [nx_some hc]; exact h92⟩⟩
    · have : nx s k = 0 := by rw [nx, List.getElem?_eq_none (by omega)]
      exact .inl ⟨_, rfl, o, k, hN, nstep_end (by omega), hk, ho, .inl ⟨pi, rfl, by rw [this]; decide⟩⟩) ((s, (a : Int), dp, ac), [], (a : Int)) ⟨a, (a : Int), [], rfl, ha, Nat.zero_le _, .refl⟩
  obtain ⟨out, k, h1, h2, k1, k2, h3⟩ := q
  simp only [m_cascadia_parser_parseName, m_errors_New, h, bind_some, cond_dec]
  rcases h3 with ⟨pi, rfl, h4⟩ | ⟨pi, rfl, h4⟩
  · refine ⟨out, k, pi, h1, h2, k1, k2, ?_⟩
    rw [selim_l]
    simp only
    by_cases ho : out = []
    · subst ho
      rfl
    · rw [if_neg (by intro e; exact ho (by rw [e])), if_neg (by intro e; rcases e with e | e; exact ho e; exact h4 e)]
  · refine ⟨out, k, pi, h1, h2, k1, k2, ?_⟩
    rw [selim_r, if_pos (.inr h4)]
end
section
variable {s : List UInt8} {q : Nat}
theorem quoted_at (hs : s.length ≤ 1000) {a : Nat} (h0 : nx s a = q) (hq : q = 34 ∨ q = 39) (u0 p : Bool) : ∃ (out' : List UInt8) (bad u : Bool) (k : Nat), m_spec_reader_quoted (s, (a : Int), false, u0, p) = some (out', s, (k : Int), bad, u, p) ∧ k ≤ s.length + 1 ∧
    (u = false → u0 = false ∧ ∃ (j : Nat) (out : List UInt8), Rdg (qstep s q) (a + 1) [] j out ∧ qstep s q j = none ∧ ((nx s j = q ∧ bad = false ∧ out' = out ∧ k = j + 1) ∨ (nx s j ≠ q ∧ bad = true))) := by
  have hal : a < s.length := by
    apply Decidable.byContradiction
    intro hn
    have : nx s a = 0 := by rw [nx, List.getElem?_eq_none (by omega)]
    omega
  obtain ⟨y, h, qq⟩ := loopO_rule (body := m_spec_reader_quoted_0) (fun x => ∃ (k : Nat) (u : Bool) (o : List UInt8), x = ((s, (k : Int), false, u, p), (q : Int), o) ∧ k ≤ s.length + 1 ∧ o.length ≤ 4 * k ∧ (u = false → u0 = false) ∧ (u = false → (k ≤ s.length ∧ Rdg (qstep s q) (a + 1) [] k o) ∨ (s.length < k ∧ ∃ (j : Nat) (o' : List UInt8), Rdg (qstep s q) (a + 1) [] j o' ∧ qstep s q j = none ∧ nx s j ≠ q)))
    (fun _ y => ∃ (out' : List UInt8) (bad u : Bool) (k : Nat), ((∃ b, y = .inl (s, (k : Int), b, u, p) ∧ bad = true ∧ out' = []) ∨ y = .inr ((s, (k : Int), bad, u, p), out')) ∧ k ≤ s.length + 1 ∧ (u = false → u0 = false ∧ ∃ (j : Nat) (out : List UInt8), Rdg (qstep s q) (a + 1) [] j out ∧ qstep s q j = none ∧ ((nx s j = q ∧ bad = false ∧ out' = out ∧ k = j + 1) ∨ (nx s j ≠ q ∧ bad = true))))
    (fun x => ((s.length : Int) + 1 - x.1.2.1).toNat) (fun x hx => by
    obtain ⟨k, u, o, rfl, hk, ho, hU, hN⟩ := hx
    simp only [m_spec_reader_quoted_0, cond_dec]
    split
    · rename_i h1
      have hN : u = false → Rdg (qstep s q) (a + 1) [] k o := fun hu => by
        rcases hN hu with hN | hN
        · exact hN.2
        · omega
      obtain ⟨c, hc⟩ := get_lt (l := s) (k := k) (by omega)
      have hcl := c.toNat_lt
      have e1 : IntKind.wrap .i64 ((k : Int) + 1) = ((k + 1 : Nat) : Int) := by rw [w64 (by omega) (by omega)]; omega
      simp only [next_eq hs, bind_some, nx_some hc]
      by_cases a1 : c.toNat = q
      · rw [if_pos (by omega), e1]
        exact .inl ⟨_, rfl, o, false, u, _, .inr rfl, by omega, fun hu => ⟨hU hu, k, o, hN hu, qstep_stop hc (by omega) (.inl a1), .inl ⟨by rw [nx_some hc]; exact a1, rfl, rfl, rfl⟩⟩⟩
      · rw [if_neg (by omega)]
        have bad : ∀ (x : List UInt8 × Int × Bool × Bool × Bool ⊕ (List UInt8 × Int × Bool × Bool × Bool) × List UInt8), x = .inr ((s, (k : Int), true, u, p), []) → c.toNat ≠ 92 → (c.toNat = 10 ∨ c.toNat = 13 ∨ c.toNat = 12) → ∃ (out' : List UInt8) (bad u : Bool) (k : Nat), ((∃ b, x = .inl (s, (k : Int), b, u, p) ∧ bad = true ∧ out' = []) ∨ x = .inr ((s, (k : Int), bad, u, p), out')) ∧ k ≤ s.length + 1 ∧ (u = false → u0 = false ∧ ∃ (j : Nat) (out : List UInt8), Rdg (qstep s q) (a + 1) [] j out ∧ qstep s q j = none ∧ ((nx s j = q ∧ bad = false ∧ out' = out ∧ k = j + 1) ∨ (nx s j ≠ q ∧ bad = true))) := fun x hx h92 hb =>
          ⟨[], true, u, _, .inr hx, hk, fun hu => ⟨hU hu, k, o, hN hu, qstep_stop hc h92 (.inr hb), .inr ⟨by rw [nx_some hc]; exact a1, rfl⟩⟩⟩
        by_cases a2 : c.toNat = 10
        · rw [if_pos (by omega)]
          exact .inl ⟨_, rfl, bad _ rfl (by omega) (.inl a2)⟩
        · rw [if_neg (by omega)]
          by_cases a3 : c.toNat = 13
          · rw [if_pos (by omega)]
            exact .inl ⟨_, rfl, bad _ rfl (by omega) (.inr (.inl a3))⟩
          · rw [if_neg (by omega)]
            by_cases a4 : c.toNat = 12
            · rw [if_pos (by omega)]
              exact .inl ⟨_, rfl, bad _ rfl (by omega) (.inr (.inr a4))⟩
            · rw [if_neg (by omega)]
              by_cases a5 : c.toNat = 92
              · rw [if_neg (by omega), ef_eq hs k _ (by omega), bind_some]
                cases he : ef s k with
                | true =>
                  obtain ⟨out, j, u', g1, g2, g3, g4, g5⟩ := esc_Rdg hs (qstep_hi (q := q) (by omega)) he (qstep_esc hc a5 he) false u p o
                  simp only [cond_true]
                  rw [g1, bind_some]
                  simp only
                  rw [catS_some (by omega), bind_some]
                  refine .inr ⟨_, rfl, ⟨j, u', o ++ out, rfl, by omega, by rw [List.length_append]; omega, fun hu => hU (g2 hu).1, fun hu => .inl ⟨g4, (hN (g2 hu).1).trans (g2 hu).2⟩⟩, ?_, fun _ h => h⟩
                  show ((s.length : Int) + 1 - (j : Int)).toNat < ((s.length : Int) + 1 - (k : Int)).toNat
                  omega
                | false =>
                  simp only [cond_false]
                  rw [e1, taken_eq hs (k + 1) (by omega), bind_some]
                  by_cases hk1 : k + 1 < s.length
                  · have hst := qstep_line (q := q) hc a5 he hk1
                    cases hcr : crlf s (k + 1) with
                    | true =>
                      have hl := crlf_lt hcr
                      rw [hcr] at hst
                      simp only [if_true, Bool.not_true, cond_false] at hst ⊢
                      refine .inr ⟨_, rfl, ⟨k + 3, u, o, by congr, by omega, by omega, hU, fun hu => .inl ⟨by omega, ?_⟩⟩, ?_, fun _ h => h⟩
                      · have := (hN hu).trans (.one hst)
                        rwa [List.append_nil] at this
                      · show ((s.length : Int) + 1 - ((k + 1 + 2 : Nat) : Int)).toNat < ((s.length : Int) + 1 - (k : Int)).toNat
                        omega
                    | false =>
                      rw [hcr] at hst
                      simp only [Bool.false_eq_true, if_false, Bool.not_false, cond_true] at hst ⊢
                      have e2 : IntKind.wrap .i64 (((k + 1 : Nat) : Int) + 1) = ((k + 2 : Nat) : Int) := by rw [w64 (by omega) (by omega)]; omega
                      rw [e2]
                      refine .inr ⟨_, rfl, ⟨k + 2, u, o, rfl, by omega, by omega, hU, fun hu => .inl ⟨by omega, ?_⟩⟩, ?_, fun _ h => h⟩
                      · have := (hN hu).trans (.one hst)
                        rwa [List.append_nil] at this
                      · show ((s.length : Int) + 1 - ((k + 2 : Nat) : Int)).toNat < ((s.length : Int) + 1 - (k : Int)).toNat
                        omega
                  · have hcr : crlf s (k + 1) = false := by
                      cases h : crlf s (k + 1) with
                      | false => rfl
                      | true => have := crlf_lt h; omega
                    rw [hcr]
                    simp only [Bool.false_eq_true, if_false, Bool.not_false, cond_true]
                    have e2 : IntKind.wrap .i64 (((k + 1 : Nat) : Int) + 1) = ((k + 2 : Nat) : Int) := by rw [w64 (by omega) (by omega)]; omega
                    rw [e2]
                    refine .inr ⟨_, rfl, ⟨k + 2, u, o, rfl, by omega, by omega, hU, fun hu => .inr ⟨by omega, k, o, hN hu, qstep_cut hc a5 he hk1, by rw [nx_some hc]; omega⟩⟩, ?_, fun _ h => h⟩
                    show ((s.length : Int) + 1 - ((k + 2 : Nat) : Int)).toNat < ((s.length : Int) + 1 - (k : Int)).toNat
                    omega
              · rw [if_pos (by omega), e1, show ((k + 1 : Nat) : Int) = (k : Int) + 1 by omega, sub_one hc, bind_some, catS_some (by simp; omega), bind_some]
                refine .inr ⟨_, rfl, ⟨k + 1, u, o ++ [c], rfl, by omega, by simp; omega, hU, fun hu => .inl ⟨by omega, (hN hu).trans (.one (qstep_one hc a5 (by omega)))⟩⟩, ?_, fun _ h => h⟩
                show ((s.length : Int) + 1 - ((k : Int) + 1)).toNat < ((s.length : Int) + 1 - (k : Int)).toNat
                omega
    · rename_i h1
      refine .inl ⟨_, rfl, [], true, u, _, .inl ⟨_, rfl, rfl, rfl⟩, hk, fun hu => ⟨hU hu, ?_⟩⟩
      rcases hN hu with ⟨g1, g2⟩ | ⟨g1, j, o', g2, g3, g4⟩
      · have hz : nx s k = 0 := by rw [nx, List.getElem?_eq_none (by omega)]
        exact ⟨k, o, g2, qstep_end (by omega), .inr ⟨by omega, rfl⟩⟩
      · exact ⟨j, o', g2, g3, .inr ⟨g4, rfl⟩⟩) ((s, ((a + 1 : Nat) : Int), false, u0, p), (q : Int), []) ⟨a + 1, u0, [], rfl, by omega, by simp, fun h => h, fun _ => .inl ⟨by omega, .refl⟩⟩
  obtain ⟨out', bad, u, k, hy, hk2, hq2⟩ := qq
  refine ⟨out', bad, u, k, ?_, hk2, hq2⟩
  simp only [m_spec_reader_quoted]
  rw [next_eq hs a, bind_some, h0]
  rw [show IntKind.wrap .i64 ((a : Int) + 1) = ((a + 1 : Nat) : Int) from by rw [w64 (by omega) (by omega)]; rfl]
  rw [h, bind_some]
  rcases hy with ⟨b, rfl, rfl, rfl⟩ | rfl <;> rfl
noncomputable def escB (s o : List UInt8) (q k : Nat) (dp : Int) (ac : Bool) : Option (Stp (Tup p_cascadia_parser_parseString_0) (SumT (x_cascadia_parser_parseString_0.map (·.2)))) := Option.bind (m_cascadia_parser_parseEscape (s, (k : Int), dp, ac)) fun r => cond (!!r.2.1) (some (Stp.out (Sum.inr ((r.2.2.1, r.2.2.2.1, r.2.2.2.2.1, r.2.2.2.2.2), ([] : List UInt8), r.2.1)))) (Option.bind (catS o r.1) fun r_1 => some (Stp.nx ((r.2.2.1, r.2.2.2.1, r.2.2.2.2.1, r.2.2.2.2.2), r_1, r.2.2.2.1, (q : Int))))
theorem pstring_at (hs : s.length ≤ 1000) {a : Nat} {c0 : UInt8} (h0 : s[a]? = some c0) (h1 : c0.toNat = q) (hq : q = 34 ∨ q = 39) (dp : Int) (ac : Bool) : ∃ (j : Nat) (out : List UInt8), Rdg (qstep s q) (a + 1) [] j out ∧ qstep s q j = none ∧ ∃ (e : Bool) (o : List UInt8) (k : Int), m_cascadia_parser_parseString (s, (a : Int), dp, ac) = some (o, e, s, k, dp, ac) ∧ ((nx s j = q ∧ e = false ∧ o = out ∧ k = (j : Int) + 1 ∧ j < s.length) ∨ (nx s j ≠ q ∧ e = true)) := by
  have hl0 := (List.getElem?_eq_some_iff.1 h0).1
  have e2 : IntKind.wrap .i64 ((a : Int) + 2) = ((a + 2 : Nat) : Int) := by rw [w64 (by omega) (by omega)]; rfl
  have e1 : IntKind.wrap .i64 ((a : Int) + 1) = ((a + 1 : Nat) : Int) := by rw [w64 (by omega) (by omega)]; rfl
  simp only [m_cascadia_parser_parseString, m_errors_New, bind_some, cond_dec, e2, e1, atI_nat, h0]
  by_cases hlen : s.length < a + 2
  · rw [if_pos (by omega)]
    have hz : nx s (a + 1) = 0 := by rw [nx, List.getElem?_eq_none (by omega)]
    exact ⟨a + 1, [], .refl, qstep_end (by omega), _, _, _, rfl, .inr ⟨by omega, rfl⟩⟩
  rw [if_neg (by omega), h1]
  obtain ⟨y, h, j, out, g1, g2, g3⟩ := loopO_rule (body := m_cascadia_parser_parseString_0) (fun x => ∃ (k : Nat) (pi : Int) (o : List UInt8), x = ((s, pi, dp, ac), o, (k : Int), (q : Int)) ∧ k ≤ s.length ∧ o.length ≤ 4 * k ∧ Rdg (qstep s q) (a + 1) [] k o)
    (fun _ y => ∃ (j : Nat) (out : List UInt8), Rdg (qstep s q) (a + 1) [] j out ∧ qstep s q j = none ∧ ((∃ pi, y = .inl ((s, pi, dp, ac), out, (j : Int)) ∧ j ≤ s.length ∧ (nx s j = q ∨ s.length ≤ j)) ∨ (∃ pi w, y = .inr ((s, pi, dp, ac), w, true) ∧ nx s j ≠ q)))
    (fun x => ((s.length : Int) - x.2.2.1).toNat) (fun x hx => by
    obtain ⟨k, pi, o, rfl, hk, ho, hN⟩ := hx
    simp only [m_cascadia_parser_parseString_0, cond_dec]
    split
    · rename_i g1
      obtain ⟨c, hc⟩ := get_lt (l := s) (k := k) (by omega)
      have f1 : IntKind.wrap .i64 ((k : Int) + 1) = ((k + 1 : Nat) : Int) := by rw [w64 (by omega) (by omega)]; omega
      have f2 : IntKind.wrap .i64 ((k : Int) + 2) = ((k + 2 : Nat) : Int) := by rw [w64 (by omega) (by omega)]; omega
      have f3 : IntKind.wrap .i64 ((k : Int) + 3) = ((k + 3 : Nat) : Int) := by rw [w64 (by omega) (by omega)]; omega
      simp only [atI_nat, hc, bind_some, f1, f2, f3, m_errors_New]
      by_cases a5 : c.toNat = 92
      · rw [if_pos (by omega)]
        have esc : ef s k = true → (∃ b, escB s o q k dp ac = some (.out b) ∧ ∃ (j : Nat) (out : List UInt8), Rdg (qstep s q) (a + 1) [] j out ∧ qstep s q j = none ∧ ((∃ pi, b = Sum.inl ((s, pi, dp, ac), out, (j : Int)) ∧ j ≤ s.length ∧ (nx s j = q ∨ s.length ≤ j)) ∨ (∃ pi w, b = .inr ((s, pi, dp, ac), w, true) ∧ nx s j ≠ q))) ∨ (∃ y, escB s o q k dp ac = some (.nx y) ∧ (∃ (k : Nat) (pi : Int) (o : List UInt8), y = ((s, pi, dp, ac), o, (k : Int), (q : Int)) ∧ k ≤ s.length ∧ o.length ≤ 4 * k ∧ Rdg (qstep s q) (a + 1) [] k o) ∧ ((s.length : Int) - y.2.2.1).toNat < ((s.length : Int) - (k : Int)).toNat) := fun he => by
          obtain ⟨out, j, g1, g2, g3, g4, g5⟩ := iesc_Rdg hs (qstep_hi (q := q) (by omega)) he (qstep_esc hc a5 he) dp ac o
          have hcat : catS o out = some (o ++ out) := catS_some (by omega)
          refine .inr ⟨((s, (j : Int), dp, ac), o ++ out, (j : Int), (q : Int)), ?_, ⟨j, (j : Int), o ++ out, rfl, g4, by rw [List.length_append]; omega, hN.trans g2⟩, by show ((s.length : Int) - (j : Int)).toNat < ((s.length : Int) - (k : Int)).toNat; omega⟩
          rw [escB, g1, bind_some]
          simp only [Bool.not_false, Bool.not_true, cond_false]
          rw [hcat, bind_some]
        by_cases b1 : k + 1 < s.length
        · rw [if_pos (by omega)]
          obtain ⟨d, hd⟩ := get_lt (l := s) (k := k + 1) (by omega)
          rw [hd, bind_some]
          have nef : d.toNat = 13 ∨ d.toNat = 10 ∨ d.toNat = 12 → ef s k = false := fun h => by
            unfold ef
            rw [nx_some hd]
            simp
            omega
          have goOn : ∀ (j : Nat), qstep s q k = some (j, []) → k < j → j ≤ s.length → (∃ (k : Nat) (pi' : Int) (o' : List UInt8), ((s, pi, dp, ac), o, (j : Int), (q : Int)) = ((s, pi', dp, ac), o', (k : Int), (q : Int)) ∧ k ≤ s.length ∧ o'.length ≤ 4 * k ∧ Rdg (qstep s q) (a + 1) [] k o') ∧ ((s.length : Int) - (j : Int)).toNat < ((s.length : Int) - (k : Int)).toNat := fun j hst h2 h3 => by
            have := hN.trans (.one hst)
            rw [List.append_nil] at this
            exact ⟨⟨j, pi, o, rfl, h3, by omega, this⟩, by omega⟩
          by_cases b2 : d.toNat = 13
          · rw [if_pos (by omega)]
            have hst := qstep_line (q := q) hc a5 (nef (.inl b2)) b1
            by_cases b3 : k + 2 < s.length
            · rw [if_pos (by omega)]
              obtain ⟨x, hx⟩ := get_lt (l := s) (k := k + 2) (by omega)
              rw [hx, bind_some]
              have hcr : crlf s (k + 1) = decide (x.toNat = 10) := by
                unfold crlf
                rw [nx_some hd, nx_some hx, b2]
                rw [Bool.eq_iff_iff]
                simp
              by_cases b4 : x.toNat = 10
              · rw [if_pos (by omega)]
                rw [hcr, decide_eq_true b4, if_pos rfl] at hst
                obtain ⟨q1, q2⟩ := goOn (k + 3) hst (by omega) (by omega)
                exact .inr ⟨_, rfl, q1, q2, fun _ h => h⟩
              · rw [if_neg (by omega)]
                rw [hcr, decide_eq_false b4, if_neg (by decide)] at hst
                obtain ⟨q1, q2⟩ := goOn (k + 2) hst (by omega) (by omega)
                exact .inr ⟨_, rfl, q1, q2, fun _ h => h⟩
            · rw [if_neg (by omega)]
              have hcr : crlf s (k + 1) = false := by
                cases h : crlf s (k + 1) with
                | false => rfl
                | true => have := crlf_lt h; omega
              rw [hcr, if_neg (by decide)] at hst
              obtain ⟨q1, q2⟩ := goOn (k + 2) hst (by omega) (by omega)
              exact .inr ⟨_, rfl, q1, q2, fun _ h => h⟩
          · rw [if_neg (by omega)]
            have hcr : crlf s (k + 1) = false := by
              unfold crlf
              rw [nx_some hd]
              simp [b2]
            by_cases b5 : d.toNat = 10
            · rw [if_pos (by omega)]
              have hst := qstep_line (q := q) hc a5 (nef (.inr (.inl b5))) b1
              rw [hcr, if_neg (by decide)] at hst
              obtain ⟨q1, q2⟩ := goOn (k + 2) hst (by omega) (by omega)
              exact .inr ⟨_, rfl, q1, q2, fun _ h => h⟩
            · rw [if_neg (by omega)]
              by_cases b6 : d.toNat = 12
              · rw [if_pos (by omega)]
                have hst := qstep_line (q := q) hc a5 (nef (.inr (.inr b6))) b1
                rw [hcr, if_neg (by decide)] at hst
                obtain ⟨q1, q2⟩ := goOn (k + 2) hst (by omega) (by omega)
                exact .inr ⟨_, rfl, q1, q2, fun _ h => h⟩
              · rw [if_neg (by omega)]
                have he : ef s k = true := by
                  unfold ef
                  rw [nx_some hc, nx_some hd]
                  simp [a5, b1, b2, b5, b6]
                rcases esc he with h | ⟨y, h1, h2, h3⟩
                · exact .inl h
                · exact .inr ⟨y, h1, h2, h3, fun _ h => h⟩
        · rw [if_neg (by omega)]
          have he : ef s k = false := by
            cases h : ef s k with
            | false => rfl
            | true => have := ef_lt h; omega
          rw [impl_none hs (by omega) he, bind_some]
          exact .inl ⟨_, rfl, k, o, hN, qstep_cut hc a5 he b1, .inr ⟨_, _, rfl, by rw [nx_some hc]; omega⟩⟩
      · rw [if_neg (by omega)]
        by_cases a1 : c.toNat = q
        · rw [if_pos (by omega)]
          exact .inl ⟨_, rfl, k, o, hN, qstep_stop hc a5 (.inl a1), .inl ⟨pi, rfl, hk, .inl (by rw [nx_some hc]; exact a1)⟩⟩
        · rw [if_neg (by omega)]
          have hne : nx s k ≠ q := by rw [nx_some hc]; exact a1
          by_cases a2 : c.toNat = 13
          · rw [if_pos (by omega)]
            exact .inl ⟨_, rfl, k, o, hN, qstep_stop hc a5 (.inr (.inr (.inl a2))), .inr ⟨_, _, rfl, hne⟩⟩
          · rw [if_neg (by omega)]
            by_cases a3 : c.toNat = 10
            · rw [if_pos (by omega)]
              exact .inl ⟨_, rfl, k, o, hN, qstep_stop hc a5 (.inr (.inl a3)), .inr ⟨_, _, rfl, hne⟩⟩
            · rw [if_neg (by omega)]
              by_cases a4 : c.toNat = 12
              · rw [if_pos (by omega)]
                exact .inl ⟨_, rfl, k, o, hN, qstep_stop hc a5 (.inr (.inr (.inr a4))), .inr ⟨_, _, rfl, hne⟩⟩
              · rw [if_neg (by omega)]
                obtain ⟨j, g1, g2, g3, g4, g5⟩ := chunkS_eq hs (q := q) (by omega) pi dp ac o k hk
                have g4 := g4 c hc a5 (by omega)
                rw [g1, bind_some]
                simp only
                rw [sub_nat s g2 g3, bind_some, catS_some (by rw [List.length_drop, List.length_take]; omega), bind_some]
                exact .inr ⟨_, rfl, ⟨j, pi, _, rfl, g3, by rw [List.length_append, List.length_drop, List.length_take]; omega, hN.trans (g5 o)⟩, by show ((s.length : Int) - (j : Int)).toNat < ((s.length : Int) - (k : Int)).toNat; omega, fun _ h => h⟩
    · exact .inl ⟨_, rfl, k, o, hN, qstep_end (by omega), .inl ⟨pi, rfl, hk, .inr (by omega)⟩⟩) ((s, (a : Int), dp, ac), [], ((a + 1 : Nat) : Int), (q : Int)) ⟨a + 1, (a : Int), [], rfl, by omega, by simp, .refl⟩
  refine ⟨j, out, g1, g2, ?_⟩
  rw [h, bind_some]
  rcases g3 with ⟨pi, rfl, g4, g5⟩ | ⟨pi, w, rfl, g5⟩
  · rw [selim_l]
    simp only
    by_cases hj : s.length ≤ j
    · rw [if_pos (by omega)]
      have hz : nx s j = 0 := by rw [nx, List.getElem?_eq_none (by omega)]
      exact ⟨_, _, _, rfl, .inr ⟨by omega, rfl⟩⟩
    · rw [if_neg (by omega)]
      rcases g5 with g5 | g5
      · exact ⟨_, _, _, rfl, .inl ⟨g5, rfl, rfl, by rw [w64 (by omega) (by omega)], by omega⟩⟩
      · omega
  · rw [selim_r]
    exact ⟨_, _, _, rfl, .inr ⟨g5, rfl⟩⟩
end
end Go.Proofs.YtcjpnnmclhdjbaaGreatDoor.V
set_option linter.unusedVariables false
set_option linter.unusedSimpArgs false
namespace Go.Proofs.YtcjpnnmclhdjbaaGreatDoor.V
open Go
theorem castE_u8 (xs : List UInt8) : castE .u8 .u8 xs = some xs := rfl
def lowN (c : UInt8) : UInt8 := if 65 ≤ c.toNat ∧ c.toNat ≤ 90 then UInt8.ofNat (c.toNat + 32) else c
theorem lowN_up {c : UInt8} (h1 : 65 ≤ c.toNat) (h2 : c.toNat ≤ 90) : byteI (IntKind.wrap .u8 ((c.toNat : Int) + 32)) = some (lowN c) := by
  rw [wu8 (by omega) (by omega), byteI, if_pos (by omega), lowN, if_pos ⟨h1, h2⟩, show ((c.toNat : Int) + 32).toNat = c.toNat + 32 by omega]
theorem lowN_no {c : UInt8} (h : ¬ (65 ≤ c.toNat ∧ c.toNat ≤ 90)) : lowN c = c := by rw [lowN, if_neg h]
def lw (l : List UInt8) (k : Nat) : List UInt8 := (l.take k).map lowN ++ l.drop k
theorem lw_len (l : List UInt8) (k : Nat) (hk : k ≤ l.length) : (lw l k).length = l.length := by simp [lw]; omega
theorem lw_zero (l : List UInt8) : lw l 0 = l := by simp [lw]
theorem lw_all (l : List UInt8) : lw l l.length = l.map lowN := by simp [lw]
theorem lw_get {l : List UInt8} {k : Nat} {c : UInt8} (h : l[k]? = some c) : (lw l k)[k]? = some c := by
  have hk := (List.getElem?_eq_some_iff.1 h).1
  rw [lw, List.getElem?_append_right (by simp; omega)]
  simp only [List.length_map, List.length_take]
  rw [show k - min k l.length = 0 by omega, List.getElem?_drop]
  simpa using h
theorem lw_succ {l : List UInt8} {k : Nat} {c : UInt8} (h : l[k]? = some c) : (lw l k).set k (lowN c) = lw l (k + 1) := by
  have hk := (List.getElem?_eq_some_iff.1 h).1
  obtain ⟨h1, h2⟩ := List.getElem?_eq_some_iff.1 h
  have hd : l.drop k = c :: l.drop (k + 1) := by rw [← h2]; exact List.drop_eq_getElem_cons h1
  have ht : l.take (k + 1) = l.take k ++ [c] := by rw [List.take_add_one, h]; rfl
  have hl : ((l.take k).map lowN).length = k := by simp; omega
  rw [lw, lw, hd, ht, List.map_append, List.set_append_right _ _ (by omega), hl, Nat.sub_self, List.append_assoc]
  rfl
theorem lw_same {l : List UInt8} {k : Nat} {c : UInt8} (h : l[k]? = some c) (hc : lowN c = c) : lw l (k + 1) = lw l k := by
  rw [← lw_succ h, hc]
  obtain ⟨h1, h2⟩ := List.getElem?_eq_some_iff.1 (lw_get h)
  rw [← h2]
  exact List.set_getElem_self h1
theorem Lower_eq (l : List UInt8) (hl : l.length ≤ 1048576) : m_spec_Lower l = some (l.map lowN) := by
  simp only [m_spec_Lower]
  obtain ⟨y, h, rfl⟩ := loopO_up (body := m_spec_Lower_0) (st := fun k => (lw l k, (k : Int))) l.length (fun b => b = l.map lowN) (fun k hk => by
    simp only [m_spec_Lower_0, cond_dec, lw_len l k hk]
    by_cases hk2 : k < l.length
    · obtain ⟨c, hc⟩ := get_lt hk2
      have hg := lw_get hc
      have e1 : IntKind.wrap .i64 ((k : Int) + 1) = ((k + 1 : Nat) : Int) := by rw [w64 (by omega) (by omega)]; rfl
      rw [if_pos (by omega)]
      simp only [atI_nat, hg, bind_some, Int.toNat_natCast, e1]
      refine .inr ⟨hk2, ?_⟩
      by_cases a : 65 ≤ c.toNat
      · rw [if_pos (by omega)]
        by_cases b : c.toNat ≤ 90
        · rw [if_pos (by omega), lowN_up a b, bind_some, lw_succ hc]
        · rw [if_neg (by omega), lw_same hc (lowN_no (by omega))]
      · rw [if_neg (by omega), lw_same hc (lowN_no (by omega))]
    · have e : k = l.length := by omega
      subst e
      rw [if_neg (by omega), lw_all]
      exact .inl ⟨_, rfl, rfl⟩) 0 (Nat.zero_le _)
  rw [lw_zero] at h
  rw [show loopO m_spec_Lower_0 (l, 0) = _ from h, bind_some, castE_u8, bind_some]
theorem fresh_all (l : List UInt8) : List.take (Min.min l.length (List.length (List.replicate l.length (0 : E.T E.u8)))) l ++ List.drop (Min.min l.length (List.length (List.replicate l.length (0 : E.T E.u8)))) (List.replicate l.length (0 : E.T E.u8)) = l := by
  rw [List.length_replicate, Nat.min_self, List.take_length, List.drop_of_length_le (by rw [List.length_replicate]; exact Nat.le_refl _), List.append_nil]
theorem toLowerASCII_eq (l : List UInt8) (hl : l.length ≤ 1048576) : m_cascadia_toLowerASCII l = some (l.map lowN) := by
  simp only [m_cascadia_toLowerASCII]
  obtain ⟨y, h, hq⟩ := loopO_rule (body := m_cascadia_toLowerASCII_0) (fun x => ∃ k : Nat, k ≤ l.length ∧ ((x = .inl (l, (), (k : Int)) ∧ lw l k = l) ∨ (x = .inr (l, lw l k, (k : Int)) ∧ 0 < l.length)))
    (fun _ y => (y = .inl (l, ()) ∧ l.map lowN = l) ∨ (y = .inr (l, l.map lowN) ∧ 0 < l.length)) (fun x => match x with
      | .inl x => ((l.length : Int) - x.2.2).toNat
      | .inr x => ((l.length : Int) - x.2.2).toNat) (fun x hx => by
    obtain ⟨k, hk, ⟨rfl, hw⟩ | ⟨rfl, h0⟩⟩ := hx
    · simp only [m_cascadia_toLowerASCII_0, Sum.elim_inl, m_cascadia_toLowerASCII_0_first, cond_dec]
      by_cases hk2 : k < l.length
      · obtain ⟨c, hc⟩ := get_lt hk2
        have e1 : IntKind.wrap .i64 ((k : Int) + 1) = ((k + 1 : Nat) : Int) := by rw [w64 (by omega) (by omega)]; rfl
        rw [if_pos (by omega)]
        simp only [atI_nat, hc, bind_some, Int.toNat_natCast, e1]
        have no : ¬ (65 ≤ c.toNat ∧ c.toNat ≤ 90) → (∃ y, some (Stp.nx (Sum.inl (l, (), ((k + 1 : Nat) : Int)) : (List UInt8 × Unit × Int) ⊕ (List UInt8 × List UInt8 × Int)) : Stp _ ((List UInt8 × Unit) ⊕ (List UInt8 × List UInt8))) = some (.nx y) ∧ (∃ k : Nat, k ≤ l.length ∧ ((y = .inl (l, (), (k : Int)) ∧ lw l k = l) ∨ (y = .inr (l, lw l k, (k : Int)) ∧ 0 < l.length))) ∧ (match y with
      | .inl x => ((l.length : Int) - x.2.2).toNat
      | .inr x => ((l.length : Int) - x.2.2).toNat) < ((l.length : Int) - (k : Int)).toNat) := fun hn =>
          ⟨_, rfl, ⟨k + 1, hk2, .inl ⟨rfl, by rw [lw_same hc (lowN_no hn), hw]⟩⟩, by simp only; omega⟩
        by_cases a : 65 ≤ c.toNat
        · rw [if_pos (by omega)]
          by_cases b : c.toNat ≤ 90
          · rw [if_pos (by omega), if_pos (by omega), fresh_all, hc, bind_some, bind_some, lowN_up a b, bind_some]
            refine .inr ⟨_, rfl, ⟨k + 1, hk2, .inr ⟨?_, by omega⟩⟩, by simp only; omega, fun _ h => h⟩
            rw [← lw_succ hc, hw]
          · rw [if_neg (by omega)]
            obtain ⟨y, g1, g2, g3⟩ := no (by omega)
            exact .inr ⟨y, g1, g2, g3, fun _ h => h⟩
        · rw [if_neg (by omega)]
          obtain ⟨y, g1, g2, g3⟩ := no (by omega)
          exact .inr ⟨y, g1, g2, g3, fun _ h => h⟩
      · have e : k = l.length := by omega
        subst e
        rw [if_neg (by omega)]
        exact .inl ⟨_, rfl, .inl ⟨rfl, by rw [← lw_all, hw]⟩⟩
    · simp only [m_cascadia_toLowerASCII_0, Sum.elim_inr, m_cascadia_toLowerASCII_0_then, cond_dec]
      by_cases hk2 : k < l.length
      · obtain ⟨c, hc⟩ := get_lt hk2
        have hg := lw_get hc
        have e1 : IntKind.wrap .i64 ((k : Int) + 1) = ((k + 1 : Nat) : Int) := by rw [w64 (by omega) (by omega)]; rfl
        have hll := lw_len l k hk
        rw [if_pos (by omega)]
        simp only [atI_nat, hc, hg, bind_some, Int.toNat_natCast, e1]
        by_cases a : 65 ≤ c.toNat
        · rw [if_pos (by omega)]
          by_cases b : c.toNat ≤ 90
          · rw [if_pos (by omega), if_neg (by omega), lowN_up a b, bind_some]
            exact .inr ⟨_, rfl, ⟨k + 1, hk2, .inr ⟨by rw [lw_succ hc], h0⟩⟩, by simp only; omega, fun _ h => h⟩
          · rw [if_neg (by omega)]
            exact .inr ⟨_, rfl, ⟨k + 1, hk2, .inr ⟨by rw [lw_same hc (lowN_no (by omega))], h0⟩⟩, by simp only; omega, fun _ h => h⟩
        · rw [if_neg (by omega)]
          exact .inr ⟨_, rfl, ⟨k + 1, hk2, .inr ⟨by rw [lw_same hc (lowN_no (by omega))], h0⟩⟩, by simp only; omega, fun _ h => h⟩
      · have e : k = l.length := by omega
        subst e
        rw [if_neg (by omega)]
        exact .inl ⟨_, rfl, .inr ⟨by rw [lw_all], h0⟩⟩) (.inl (l, (), 0)) ⟨0, Nat.zero_le _, .inl ⟨rfl, lw_zero l⟩⟩
  rw [h, bind_some]
  rcases hq with ⟨rfl, hq⟩ | ⟨rfl, hq⟩
  · rw [selim_l, hq]
  · rw [selim_r]
    simp only [cond_dec, List.length_map]
    rw [if_neg (by omega), castE_u8, bind_some]
end Go.Proofs.YtcjpnnmclhdjbaaGreatDoor.V
set_option linter.unusedVariables false
set_option linter.unusedSimpArgs false
namespace Go.Proofs.YtcjpnnmclhdjbaaGreatDoor.V
open Go
section
variable {s : List UInt8}
theorem nx_end {i : Nat} (h : s.length ≤ i) : nx s i = 0 := by rw [nx, List.getElem?_eq_none h]
theorem nx_ne {i : Nat} (h : nx s i ≠ 0) : i < s.length := by
  apply Decidable.byContradiction
  intro hn
  exact h (nx_end (by omega))
theorem nx_get {i : Nat} (h : i < s.length) : ∃ c, s[i]? = some c ∧ nx s i = c.toNat := by
  obtain ⟨c, hc⟩ := get_lt h
  exact ⟨c, hc, nx_some hc⟩
theorem nx_drop (a i : Nat) : nx (s.drop a) i = nx s (a + i) := by
  unfold nx
  rw [List.getElem?_drop]
theorem sub_two {i : Nat} {c d : UInt8} (hc : s[i]? = some c) (hd : s[i + 1]? = some d) : subL s (i : Int) ((i + 2 : Nat) : Int) = some [c, d] := by
  have h1 := (List.getElem?_eq_some_iff.1 hc).1
  have h2 := (List.getElem?_eq_some_iff.1 hd).1
  rw [sub_nat s (by omega) (by omega), List.take_add_one, hd, List.take_add_one, hc, List.append_assoc]
  rw [List.drop_append_of_le_length (by rw [List.length_take]; omega), List.drop_of_length_le (by rw [List.length_take]; omega)]
  rfl
theorem two_dec (c d x y : UInt8) : decide ([c, d] = [x, y]) = decide (c.toNat = x.toNat ∧ d.toNat = y.toNat) := by
  rw [decide_eq_decide]
  simp only [List.cons.injEq, and_true]
  rw [← UInt8.toNat_inj, ← UInt8.toNat_inj]
theorem one_dec (c x : UInt8) : decide ([c] = [x]) = decide (c.toNat = x.toNat) := by
  rw [decide_eq_decide]
  simp only [List.cons.injEq, and_true]
  rw [← UInt8.toNat_inj]
section
variable {b u p : Bool}
theorem here_two (hs : s.length ≤ 1000) {k : Nat} (hk : k ≤ 1001) (x y : UInt8) (hy : y.toNat ≠ 0) : m_spec_reader_here ((s, (k : Int), b, u, p), [x, y]) = some (decide (nx s k = x.toNat ∧ nx s (k + 1) = y.toNat)) := by
  simp only [m_spec_reader_here, cond_dec, List.length_cons, List.length_nil]
  have e : IntKind.wrap .i64 ((k : Int) + ((0 + 1 + 1 : Nat) : Int)) = ((k + 2 : Nat) : Int) := by rw [w64 (by omega) (by omega)]; omega
  simp only [e]
  by_cases h : k + 2 ≤ s.length
  · rw [if_pos (by omega)]
    obtain ⟨c, hc, e1⟩ := nx_get (s := s) (i := k) (by omega)
    obtain ⟨d, hd, e2⟩ := nx_get (s := s) (i := k + 1) (by omega)
    rw [sub_two hc hd, bind_some, two_dec, e1, e2]
  · rw [if_neg (by omega), nx_end (s := s) (i := k + 1) (by omega)]
    simp [Ne.symm hy]
theorem here_one (hs : s.length ≤ 1000) {k : Nat} (hk : k ≤ 1001) (x : UInt8) (hx : x.toNat ≠ 0) : m_spec_reader_here ((s, (k : Int), b, u, p), [x]) = some (decide (nx s k = x.toNat)) := by
  simp only [m_spec_reader_here, cond_dec, List.length_cons, List.length_nil]
  have e : IntKind.wrap .i64 ((k : Int) + ((0 + 1 : Nat) : Int)) = (k : Int) + 1 := by rw [w64 (by omega) (by omega)]; omega
  simp only [e]
  by_cases h : k + 1 ≤ s.length
  · rw [if_pos (by omega)]
    obtain ⟨c, hc, e1⟩ := nx_get (s := s) (i := k) (by omega)
    rw [sub_one hc, bind_some, one_dec, e1]
  · rw [if_neg (by omega), nx_end (s := s) (i := k) (by omega)]
    simp [Ne.symm hx]
theorem taken_one (hs : s.length ≤ 1000) {k : Nat} (hk : k ≤ 1001) (x : UInt8) (hx : x.toNat ≠ 0) : m_spec_reader_taken ((s, (k : Int), b, u, p), [x]) = some (if nx s k = x.toNat then (true, s, ((k + 1 : Nat) : Int), b, u, p) else (false, s, (k : Int), b, u, p)) := by
  simp only [m_spec_reader_taken]
  rw [here_one hs hk x hx, bind_some]
  by_cases h : nx s k = x.toNat
  · rw [decide_eq_true h, if_pos h]
    have e : IntKind.wrap .i64 ((k : Int) + ((0 + 1 : Nat) : Int)) = ((k + 1 : Nat) : Int) := by rw [w64 (by omega) (by omega)]; omega
    simp only [Bool.not_true, cond_false, List.length_cons, List.length_nil, e]
  · rw [decide_eq_false h, if_neg h]
    rfl
theorem taken_two (hs : s.length ≤ 1000) {k : Nat} (hk : k ≤ 1001) (x y : UInt8) (hy : y.toNat ≠ 0) : m_spec_reader_taken ((s, (k : Int), b, u, p), [x, y]) = some (if nx s k = x.toNat ∧ nx s (k + 1) = y.toNat then (true, s, ((k + 2 : Nat) : Int), b, u, p) else (false, s, (k : Int), b, u, p)) := by
  simp only [m_spec_reader_taken]
  rw [here_two hs hk x y hy, bind_some]
  by_cases h : nx s k = x.toNat ∧ nx s (k + 1) = y.toNat
  · rw [decide_eq_true h, if_pos h]
    have e : IntKind.wrap .i64 ((k : Int) + ((0 + 1 + 1 : Nat) : Int)) = ((k + 2 : Nat) : Int) := by rw [w64 (by omega) (by omega)]; omega
    simp only [Bool.not_true, cond_false, List.length_cons, List.length_nil, e]
  · rw [decide_eq_false h, if_neg h]
    rfl
end
def First (s : List UInt8) (a e : Nat) : Prop := a ≤ e ∧ nx s e = 42 ∧ nx s (e + 1) = 47 ∧ ∀ j, a ≤ j → j < e → ¬ (nx s j = 42 ∧ nx s (j + 1) = 47)
def NoEnd (s : List UInt8) (a : Nat) : Prop := ∀ j, a ≤ j → ¬ (nx s j = 42 ∧ nx s (j + 1) = 47)
theorem First.det {a e e' : Nat} (h : First s a e) (h' : First s a e') : e = e' := by
  obtain ⟨h1, h2, h3, h4⟩ := h
  obtain ⟨g1, g2, g3, g4⟩ := h'
  rcases Nat.lt_trichotomy e e' with h | h | h
  · exact absurd ⟨h2, h3⟩ (g4 e h1 h)
  · exact h
  · exact absurd ⟨g2, g3⟩ (h4 e' g1 h)
theorem First.no {a e : Nat} (h : First s a e) (h' : NoEnd s a) : False := h' e h.1 ⟨h.2.1, h.2.2.1⟩
theorem First.lt {a e : Nat} (h : First s a e) : e + 1 < s.length := nx_ne (by rw [h.2.2.1]; decide)
theorem comment_eq (hs : s.length ≤ 1000) {a : Nat} (ha : a ≤ s.length) (b u p : Bool) : (NoEnd s (a + 2) ∧ m_spec_reader_comment (s, (a : Int), b, u, p) = some (s, (a : Int), true, true, p)) ∨ ∃ e, First s (a + 2) e ∧ m_spec_reader_comment (s, (a : Int), b, u, p) = some (s, ((e + 2 : Nat) : Int), b, u, p) := by
  simp only [m_spec_reader_comment]
  have e0 : IntKind.wrap .i64 ((a : Int) + 2) = ((a + 2 : Nat) : Int) := by rw [w64 (by omega) (by omega)]; rfl
  rw [e0]
  obtain ⟨y, h, hq⟩ := loopO_rule (body := m_spec_reader_comment_0) (fun x => ∃ j : Nat, x = ((s, (a : Int), b, u, p), (j : Int)) ∧ a + 2 ≤ j ∧ j ≤ s.length + 2 ∧ ∀ i, a + 2 ≤ i → i < j → ¬ (nx s i = 42 ∧ nx s (i + 1) = 47))
    (fun _ y => (NoEnd s (a + 2) ∧ y = .inl (s, (a : Int), b, u, p)) ∨ ∃ e, First s (a + 2) e ∧ y = .inr (s, ((e + 2 : Nat) : Int), b, u, p)) (fun x => ((s.length : Int) - x.2).toNat) (fun x hx => by
    obtain ⟨j, rfl, h1, h2, h3⟩ := hx
    have e1 : IntKind.wrap .i64 ((j : Int) + 1) = ((j + 1 : Nat) : Int) := by rw [w64 (by omega) (by omega)]; rfl
    have e2 : IntKind.wrap .i64 ((j : Int) + 2) = ((j + 2 : Nat) : Int) := by rw [w64 (by omega) (by omega)]; rfl
    simp only [m_spec_reader_comment_0, cond_dec, e1, e2]
    by_cases hj : j + 1 < s.length
    · rw [if_pos (by omega)]
      obtain ⟨c, hc, g1⟩ := nx_get (s := s) (i := j) (by omega)
      obtain ⟨d, hd, g2⟩ := nx_get (s := s) (i := j + 1) (by omega)
      simp only [atI_nat, hc, hd, bind_some]
      have go : ¬ (nx s j = 42 ∧ nx s (j + 1) = 47) → ∀ i, a + 2 ≤ i → i < j + 1 → ¬ (nx s i = 42 ∧ nx s (i + 1) = 47) := fun hn i hi1 hi2 => by
        by_cases hij : i < j
        · exact h3 i hi1 hij
        · have : i = j := by omega
          subst this
          exact hn
      by_cases a1 : c.toNat = 42
      · rw [if_pos (by omega)]
        by_cases a2 : d.toNat = 47
        · rw [if_pos (by omega)]
          exact .inl ⟨_, rfl, .inr ⟨j, ⟨h1, by omega, by omega, h3⟩, rfl⟩⟩
        · rw [if_neg (by omega)]
          exact .inr ⟨_, rfl, ⟨j + 1, rfl, by omega, by omega, go (by omega)⟩, by simp only; omega, fun _ h => h⟩
      · rw [if_neg (by omega)]
        exact .inr ⟨_, rfl, ⟨j + 1, rfl, by omega, by omega, go (by omega)⟩, by simp only; omega, fun _ h => h⟩
    · rw [if_neg (by omega)]
      refine .inl ⟨_, rfl, .inl ⟨fun i hi1 hi2 => ?_, rfl⟩⟩
      by_cases hij : i < j
      · exact h3 i hi1 hij hi2
      · rw [nx_end (s := s) (i := i + 1) (by omega)] at hi2
        omega) ((s, (a : Int), b, u, p), ((a + 2 : Nat) : Int)) ⟨a + 2, rfl, by omega, by omega, fun i h1 h2 => by omega⟩
  rw [h, bind_some]
  rcases hq with ⟨h1, rfl⟩ | ⟨e, h1, rfl⟩
  · exact .inl ⟨h1, rfl⟩
  · exact .inr ⟨e, h1, rfl⟩
theorem zzIndex_eq (hs : s.length ≤ 1000) : (NoEnd s 0 ∧ m_cascadia_zzIndex (s, [42, 47]) = some (-1)) ∨ ∃ e : Nat, First s 0 e ∧ m_cascadia_zzIndex (s, [42, 47]) = some (e : Int) := by
  simp only [m_cascadia_zzIndex]
  obtain ⟨y, h, hq⟩ := loopO_rule (body := m_cascadia_zzIndex_0) (fun x => ∃ j : Nat, x = (s, [42, 47], (j : Int)) ∧ j ≤ s.length ∧ ∀ i, i < j → ¬ (nx s i = 42 ∧ nx s (i + 1) = 47))
    (fun _ y => (NoEnd s 0 ∧ y = .inl ()) ∨ ∃ e : Nat, First s 0 e ∧ y = .inr (e : Int)) (fun x => ((s.length : Int) - x.2.2).toNat) (fun x hx => by
    obtain ⟨j, rfl, h2, h3⟩ := hx
    have e1 : IntKind.wrap .i64 ((j : Int) + 1) = ((j + 1 : Nat) : Int) := by rw [w64 (by omega) (by omega)]; rfl
    have e2 : IntKind.wrap .i64 ((j : Int) + ((0 + 1 + 1 : Nat) : Int)) = ((j + 2 : Nat) : Int) := by rw [w64 (by omega) (by omega)]; omega
    simp only [m_cascadia_zzIndex_0, cond_dec, List.length_cons, List.length_nil, e1, e2]
    by_cases hj : j + 2 ≤ s.length
    · rw [if_pos (by omega)]
      obtain ⟨c, hc, g1⟩ := nx_get (s := s) (i := j) (by omega)
      obtain ⟨d, hd, g2⟩ := nx_get (s := s) (i := j + 1) (by omega)
      rw [sub_two hc hd, bind_some]
      have key : ([c, d] = [(42 : UInt8), 47]) ↔ (nx s j = 42 ∧ nx s (j + 1) = 47) := by
        have := two_dec c d 42 47
        rw [decide_eq_decide] at this
        rw [this, g1, g2]
        exact Iff.rfl
      by_cases hp : nx s j = 42 ∧ nx s (j + 1) = 47
      · rw [if_pos (key.2 hp)]
        exact .inl ⟨_, rfl, .inr ⟨j, ⟨Nat.zero_le _, hp.1, hp.2, fun i _ hi => h3 i hi⟩, rfl⟩⟩
      · rw [if_neg (fun h => hp (key.1 h))]
        refine .inr ⟨_, rfl, ⟨j + 1, rfl, by omega, fun i hi => ?_⟩, by simp only; omega, fun _ h => h⟩
        by_cases hij : i < j
        · exact h3 i hij
        · have : i = j := by omega
          subst this
          exact hp
    · rw [if_neg (by omega)]
      refine .inl ⟨_, rfl, .inl ⟨fun i _ hi2 => ?_, rfl⟩⟩
      by_cases hij : i < j
      · exact h3 i hij hi2
      · rw [nx_end (s := s) (i := i + 1) (by omega)] at hi2
        omega) (s, [42, 47], 0) ⟨0, rfl, by omega, fun i h2 => by omega⟩
  rw [h, bind_some]
  rcases hq with ⟨h1, rfl⟩ | ⟨e, h1, rfl⟩
  · exact .inl ⟨h1, rfl⟩
  · exact .inr ⟨e, h1, rfl⟩
inductive Ws (s : List UInt8) : Nat → Nat → Prop
  | refl {a : Nat} : Ws s a a
  | sp {a k : Nat} (h : isSpN (nx s a) = true) (t : Ws s (a + 1) k) : Ws s a k
  | com {a e k : Nat} (h1 : nx s a = 47) (h2 : nx s (a + 1) = 42) (h3 : First s (a + 2) e) (t : Ws s (e + 2) k) : Ws s a k
def Stop (s : List UInt8) (k : Nat) : Prop := isSpN (nx s k) = false ∧ (nx s k = 47 → nx s (k + 1) = 42 → NoEnd s (k + 2))
theorem Ws.trans {a b c : Nat} (h : Ws s a b) : Ws s b c → Ws s a c := by
  induction h with
  | refl => exact fun h => h
  | sp h t ih => exact fun g => .sp h (ih g)
  | com h1 h2 h3 t ih => exact fun g => .com h1 h2 h3 (ih g)
theorem isSpN_lt {a : Nat} (h : isSpN (nx s a) = true) : a < s.length := nx_ne (fun e => by rw [e] at h; exact absurd h (by decide))
theorem Ws.le {a b : Nat} (h : Ws s a b) : a ≤ b ∧ (a ≤ s.length → b ≤ s.length) := by
  induction h with
  | refl => exact ⟨Nat.le_refl _, fun h => h⟩
  | sp h t ih =>
    have := isSpN_lt h
    exact ⟨by omega, fun _ => ih.2 (by omega)⟩
  | com h1 h2 h3 t ih =>
    have := h3.lt
    have := h3.1
    exact ⟨by omega, fun _ => ih.2 (by omega)⟩
theorem Ws.stop {a b : Nat} (h : Ws s a b) (hs : Stop s a) : b = a := by
  cases h with
  | refl => rfl
  | sp h t => rw [hs.1] at h; cases h
  | com h1 h2 h3 t => exact absurd (hs.2 h1 h2) (fun g => h3.no g)
theorem Ws.det {a b : Nat} (h : Ws s a b) : ∀ {c : Nat}, Stop s b → Ws s a c → Stop s c → b = c := by
  induction h with
  | refl =>
    intro c hb h hc
    exact (h.stop hb).symm
  | sp h t ih =>
    intro c hb h' hc
    cases h' with
    | refl => rw [hc.1] at h; cases h
    | sp _ t' => exact ih hb t' hc
    | com h1 h2 h3 t' => rw [h1] at h; exact absurd h (by decide)
  | com h1 h2 h3 t ih =>
    intro c hb h' hc
    cases h' with
    | refl => exact absurd (hc.2 h1 h2) (fun g => h3.no g)
    | sp h t' => rw [h1] at h; exact absurd h (by decide)
    | com g1 g2 g3 t' =>
      obtain rfl := h3.det g3
      exact ih hb t' hc
theorem First.drop {a e : Nat} (h : First (s.drop a) 0 e) : First s a (a + e) := by
  obtain ⟨_, h2, h3, h4⟩ := h
  rw [nx_drop] at h2
  rw [nx_drop] at h3
  refine ⟨by omega, h2, h3, fun j hj1 hj2 hn => ?_⟩
  have := h4 (j - a) (Nat.zero_le _) (by omega)
  rw [nx_drop, nx_drop, show a + (j - a) = j by omega, show a + (j - a + 1) = j + 1 by omega] at this
  exact this hn
theorem NoEnd.drop {a : Nat} (h : NoEnd (s.drop a) 0) : NoEnd s a := fun j hj hn => by
  have := h (j - a) (Nat.zero_le _)
  rw [nx_drop, nx_drop, show a + (j - a) = j by omega, show a + (j - a + 1) = j + 1 by omega] at this
  exact this hn
theorem sub_from {i : Nat} (hi : i ≤ s.length) : subL s (i : Int) (s.length : Int) = some (s.drop i) := by
  rw [sub_nat s hi (Nat.le_refl _), List.take_length]
theorem prefix_eq (x y : UInt8) (hy : y.toNat ≠ 0) : m_strings_HasPrefix (s, [x, y]) = some (decide (nx s 0 = x.toNat ∧ nx s 1 = y.toNat)) := by
  simp only [m_strings_HasPrefix, m_internal_stringslite_HasPrefix, cond_dec, List.length_cons, List.length_nil]
  by_cases h : 2 ≤ s.length
  · rw [if_pos (by omega)]
    obtain ⟨c, hc, e1⟩ := nx_get (s := s) (i := 0) (by omega)
    obtain ⟨d, hd, e2⟩ := nx_get (s := s) (i := 1) (by omega)
    have e3 : subL s 0 ((0 + 1 + 1 : Nat) : Int) = some [c, d] := sub_two (i := 0) hc hd
    rw [e3, bind_some, bind_some, two_dec, e1, e2]
  · rw [if_neg (by omega), nx_end (s := s) (i := 1) (by omega), bind_some]
    simp [Ne.symm hy]
theorem skip_eq (hs : s.length ≤ 1000) {a : Nat} (ha : a ≤ s.length) (dp : Int) (ac : Bool) : ∃ (r : Bool) (k : Nat), m_cascadia_parser_skipWhitespace (s, (a : Int), dp, ac) = some (r, s, (k : Int), dp, ac) ∧ Ws s a k ∧ Stop s k ∧ a ≤ k ∧ k ≤ s.length := by
  simp only [m_cascadia_parser_skipWhitespace]
  obtain ⟨y, h, k, rfl, h1, h2⟩ := loopO_rule (body := m_cascadia_parser_skipWhitespace_0) (fun x => ∃ j : Nat, x = ((s, (a : Int), dp, ac), (j : Int)) ∧ Ws s a j)
    (fun _ y => ∃ k : Nat, y = ((s, (a : Int), dp, ac), (k : Int)) ∧ Ws s a k ∧ Stop s k) (fun x => ((s.length : Int) - x.2).toNat) (fun x hx => by
    obtain ⟨j, rfl, h1⟩ := hx
    have hjl := h1.le.2 ha
    have e1 : IntKind.wrap .i64 ((j : Int) + 1) = ((j + 1 : Nat) : Int) := by rw [w64 (by omega) (by omega)]; rfl
    have e2 : IntKind.wrap .i64 ((j : Int) + 2) = ((j + 2 : Nat) : Int) := by rw [w64 (by omega) (by omega)]; rfl
    simp only [m_cascadia_parser_skipWhitespace_0, cond_dec, e1, e2]
    by_cases hj : j < s.length
    · rw [if_pos (by omega)]
      obtain ⟨c, hc, g1⟩ := nx_get (s := s) (i := j) (by omega)
      simp only [atI_nat, hc, bind_some]
      have sp : isSpN (nx s j) = true → (∃ k : Nat, ((s, (a : Int), dp, ac), ((j + 1 : Nat) : Int)) = ((s, (a : Int), dp, ac), (k : Int)) ∧ Ws s a k) ∧ ((s.length : Int) - ((j + 1 : Nat) : Int)).toNat < ((s.length : Int) - (j : Int)).toNat := fun h =>
        ⟨⟨j + 1, rfl, h1.trans (.sp h .refl)⟩, by omega⟩
      by_cases b1 : c.toNat = 32
      · rw [if_pos (by omega)]
        obtain ⟨q1, q2⟩ := sp (by rw [g1, b1]; decide)
        exact .inr ⟨_, rfl, q1, q2, fun _ h => h⟩
      rw [if_neg (by omega)]
      by_cases b2 : c.toNat = 9
      · rw [if_pos (by omega)]
        obtain ⟨q1, q2⟩ := sp (by rw [g1, b2]; decide)
        exact .inr ⟨_, rfl, q1, q2, fun _ h => h⟩
      rw [if_neg (by omega)]
      by_cases b3 : c.toNat = 13
      · rw [if_pos (by omega)]
        obtain ⟨q1, q2⟩ := sp (by rw [g1, b3]; decide)
        exact .inr ⟨_, rfl, q1, q2, fun _ h => h⟩
      rw [if_neg (by omega)]
      by_cases b4 : c.toNat = 10
      · rw [if_pos (by omega)]
        obtain ⟨q1, q2⟩ := sp (by rw [g1, b4]; decide)
        exact .inr ⟨_, rfl, q1, q2, fun _ h => h⟩
      rw [if_neg (by omega)]
      by_cases b5 : c.toNat = 12
      · rw [if_pos (by omega)]
        obtain ⟨q1, q2⟩ := sp (by rw [g1, b5]; decide)
        exact .inr ⟨_, rfl, q1, q2, fun _ h => h⟩
      rw [if_neg (by omega)]
      have hsp : isSpN (nx s j) = false := by rw [g1, isSpN]; simp; omega
      by_cases b6 : c.toNat = 47
      · rw [if_pos (by omega), sub_from (by omega), bind_some, prefix_eq 47 42 (by decide), bind_some, cond_dec, nx_drop, nx_drop]
        by_cases b7 : nx s (j + 1) = 42
        · have b7' : j + 1 < s.length := nx_ne (by omega)
          rw [if_pos ⟨g1.trans b6, b7⟩, sub_from (by omega), bind_some]
          rcases zzIndex_eq (s := s.drop (j + 2)) (by rw [List.length_drop]; omega) with ⟨n1, n2⟩ | ⟨e, n1, n2⟩
          · rw [n2, bind_some, if_neg (by omega)]
            exact .inl ⟨_, rfl, j, rfl, h1, hsp, fun _ _ => n1.drop⟩
          · have n3 := n1.drop
            have n4 := n3.lt
            rw [n2, bind_some, if_pos (by omega)]
            have e3 : IntKind.wrap .i64 ((j : Int) + IntKind.wrap .i64 ((e : Int) + 4)) = ((j + 2 + e + 2 : Nat) : Int) := by rw [w64 (n := (e : Int) + 4) (by omega) (by omega), w64 (by omega) (by omega)]; omega
            rw [e3]
            exact .inr ⟨_, rfl, ⟨_, rfl, h1.trans (.com (g1.trans b6) b7 n3 .refl)⟩, by simp only; omega, fun _ h => h⟩
        · rw [if_neg (fun h => b7 h.2)]
          exact .inl ⟨_, rfl, j, rfl, h1, hsp, fun _ h => absurd h b7⟩
      · rw [if_neg (by omega)]
        exact .inl ⟨_, rfl, j, rfl, h1, hsp, fun h => by omega⟩
    · rw [if_neg (by omega)]
      have hz := nx_end (s := s) (i := j) (by omega)
      exact .inl ⟨_, rfl, j, rfl, h1, by rw [hz]; decide, fun h => by omega⟩) ((s, (a : Int), dp, ac), (a : Int)) ⟨a, rfl, .refl⟩
  rw [h, bind_some]
  have hle := h1.le
  simp only [cond_dec]
  by_cases hk : a < k
  · rw [if_pos (by omega)]
    exact ⟨_, k, rfl, h1, h2, hle.1, hle.2 ha⟩
  · have : a = k := by omega
    subst this
    rw [if_neg (by omega)]
    exact ⟨_, a, rfl, h1, h2, Nat.le_refl _, ha⟩
theorem spaces_eq (hs : s.length ≤ 1000) {a : Nat} (ha : a ≤ s.length + 1) (b0 u0 p : Bool) : ∃ (r : Bool) (k : Nat) (b u : Bool), m_spec_reader_spaces (s, (a : Int), b0, u0, p) = some (r, s, (k : Int), b, u, p) ∧ k ≤ s.length + 1 ∧ (a ≤ s.length → k ≤ s.length) ∧ (u = false → u0 = false) ∧ (b0 = true → b = true ∧ k = a ∧ u = u0) ∧ (b0 = false → (b = true ∧ u = true ∧ nx s k = 47 ∧ Ws s a k) ∨ (b = false ∧ u = u0 ∧ Ws s a k ∧ Stop s k)) := by
  simp only [m_spec_reader_spaces]
  obtain ⟨y, h, r, k, b, u, hy, hq⟩ := loopO_rule (body := m_spec_reader_spaces_0) (fun x => ∃ (j : Nat) (b u : Bool), x = ((s, (j : Int), b, u, p), (a : Int)) ∧ j ≤ s.length + 1 ∧ (a ≤ s.length → j ≤ s.length) ∧ (u = false → u0 = false) ∧ (b0 = true → b = true ∧ j = a ∧ u = u0) ∧ (b0 = false → (b = true ∧ u = true ∧ nx s j = 47 ∧ Ws s a j) ∨ (b = false ∧ u = u0 ∧ Ws s a j)))
    (fun _ y => ∃ (r : Bool) (k : Nat) (b u : Bool), (y = .inl ((s, (k : Int), b, u, p), (a : Int)) ∨ y = .inr ((s, (k : Int), b, u, p), r)) ∧ k ≤ s.length + 1 ∧ (a ≤ s.length → k ≤ s.length) ∧ (u = false → u0 = false) ∧ (b0 = true → b = true ∧ k = a ∧ u = u0) ∧ (b0 = false → (b = true ∧ u = true ∧ nx s k = 47 ∧ Ws s a k) ∨ (b = false ∧ u = u0 ∧ Ws s a k ∧ Stop s k)))
    (fun x => cond x.1.2.2.1 0 (((s.length : Int) + 2 - x.1.2.1).toNat)) (fun x hx => by
    obtain ⟨j, b, u, rfl, h1, h1', h2, h3, h4⟩ := hx
    have e1 : IntKind.wrap .i64 ((j : Int) + 1) = ((j + 1 : Nat) : Int) := by rw [w64 (by omega) (by omega)]; rfl
    simp only [m_spec_reader_spaces_0, cond_dec, e1]
    cases b with
    | true =>
      refine .inl ⟨_, rfl, false, j, true, u, .inl rfl, h1, h1', h2, h3, fun h => ?_⟩
      rcases h4 h with h | h
      · exact .inl h
      · exact absurd h.1 (by decide)
    | false =>
      have hb0 : b0 = false := by
        cases b0 with
        | false => rfl
        | true => exact absurd (h3 rfl).1 (by decide)
      subst hb0
      have hW : u = u0 ∧ Ws s a j := by
        rcases h4 rfl with h | h
        · exact absurd h.1 (by decide)
        · exact h.2
      obtain ⟨rfl, hW⟩ := hW
      rw [Bool.not_false, cond_true]
      by_cases hj : j < s.length
      · rw [if_pos (by omega), next_eq hs, bind_some, spNx, bind_some]
        cases hsp : isSpN (nx s j) with
        | true =>
          refine .inr ⟨_, rfl, ⟨j + 1, false, u, rfl, by omega, fun _ => by omega, h2, fun h => (by cases h), fun _ => .inr ⟨rfl, rfl, hW.trans (.sp hsp .refl)⟩⟩, ?_, fun _ h => h⟩
          show (((s.length : Int) + 2 - ((j + 1 : Nat) : Int)).toNat) < (((s.length : Int) + 2 - (j : Int)).toNat)
          omega
        | false =>
          simp only [cond_false]
          rw [here_two hs (by omega) 47 42 (by decide), bind_some, cond_dec]
          have ex : (nx s j = UInt8.toNat 47 ∧ nx s (j + 1) = UInt8.toNat 42) = (nx s j = 47 ∧ nx s (j + 1) = 42) := rfl
          simp only [ex]
          by_cases hp : nx s j = 47 ∧ nx s (j + 1) = 42
          · rw [if_pos hp]
            rcases comment_eq hs (a := j) (by omega) false u p with ⟨n1, n2⟩ | ⟨e, n1, n2⟩
            · rw [n2, bind_some]
              refine .inr ⟨_, rfl, ⟨j, true, true, rfl, h1, h1', fun h => (by cases h), fun h => (by cases h), fun _ => .inl ⟨rfl, rfl, hp.1, hW⟩⟩, ?_, fun _ h => h⟩
              show 0 < (((s.length : Int) + 2 - (j : Int)).toNat)
              omega
            · rw [n2, bind_some]
              have n3 := n1.lt
              have n4 := n1.1
              refine .inr ⟨_, rfl, ⟨e + 2, false, u, rfl, by omega, fun _ => by omega, h2, fun h => (by cases h), fun _ => .inr ⟨rfl, rfl, hW.trans (.com hp.1 hp.2 n1 .refl)⟩⟩, ?_, fun _ h => h⟩
              show (((s.length : Int) + 2 - ((e + 2 : Nat) : Int)).toNat) < (((s.length : Int) + 2 - (j : Int)).toNat)
              omega
          · rw [if_neg hp]
            exact .inl ⟨_, rfl, _, j, false, u, .inr rfl, h1, h1', h2, fun h => (by cases h), fun _ => .inr ⟨rfl, rfl, hW, hsp, fun q1 q2 => absurd ⟨q1, q2⟩ hp⟩⟩
      · rw [if_neg (by omega)]
        have hz := nx_end (s := s) (i := j) (by omega)
        exact .inl ⟨_, rfl, false, j, false, u, .inl rfl, h1, h1', h2, fun h => (by cases h), fun _ => .inr ⟨rfl, rfl, hW, by rw [hz]; decide, fun h => by omega⟩⟩) ((s, (a : Int), b0, u0, p), (a : Int)) ⟨a, b0, u0, rfl, ha, fun h => h, fun h => h, fun h => ⟨h, rfl, rfl⟩, fun h => .inr ⟨h, rfl, .refl⟩⟩
  rw [h, bind_some]
  rcases hy with rfl | rfl
  · exact ⟨_, k, b, u, rfl, hq⟩
  · exact ⟨_, k, b, u, rfl, hq⟩
end
end Go.Proofs.YtcjpnnmclhdjbaaGreatDoor.V
