/-
  Models of functions, and that they are what the code does (written by a program).
-/
import Derived.Test.YtglcncfjagfodaaDoorKTab
set_option linter.unusedVariables false
set_option linter.unusedSimpArgs false
namespace Go.Proofs.YtglcncfjagfodaaDoor.V
open Go Go.Proofs

/-! spec.decimal -/
abbrev p_spec_decimal : Pt := [(0, .int .i64)]
abbrev q_spec_decimal : Pt := [(0, .str)]

noncomputable def b_spec_decimal (m_spec_decimal : Tup p_spec_decimal → Option (Tup q_spec_decimal)) : Tup p_spec_decimal → Option (Tup q_spec_decimal) := fun (x : Int) => bif Decidable.decide (x < (10 : Int)) then Option.bind (subL [(48 : UInt8), (49 : UInt8), (50 : UInt8), (51 : UInt8), (52 : UInt8), (53 : UInt8), (54 : UInt8), (55 : UInt8), (56 : UInt8), (57 : UInt8)] x (Go.IntKind.wrap Go.IntKind.i64 (x + (1 : Int)))) fun (m : List UInt8) => Option.some m else Option.bind (divI Go.IntKind.i64 x (10 : Int)) fun (n_1 : Int) => Option.bind (m_spec_decimal n_1) fun (r : List UInt8) => Option.bind (remI x (10 : Int)) fun (n_2 : Int) => Option.bind (m_spec_decimal n_2) fun (r_1 : List UInt8) => Option.bind (catS r r_1) fun (r : List UInt8) => Option.some r

noncomputable def m_spec_decimal : Nat → Tup p_spec_decimal → Option (Tup q_spec_decimal)
  | 0 => fun _ => none
  | n + 1 => b_spec_decimal (m_spec_decimal n)

noncomputable def cx_spec_decimal (n : Nat) : Cx := ⟨tb, lookE [(7, ⟨0, p_spec_decimal, q_spec_decimal, m_spec_decimal n⟩)], lookS []⟩

theorem ck_spec_decimal (n : Nat) (ih0 : FnOK Tryd.prog 7 ⟨0, p_spec_decimal, q_spec_decimal, m_spec_decimal n⟩) : CxOK Tryd.prog (cx_spec_decimal n) := cx_ok tb_ok (.cons ih0 Tryd.call7 .nil)

theorem st_spec_decimal (n : Nat) (ih0 : FnOK Tryd.prog 7 ⟨0, p_spec_decimal, q_spec_decimal, m_spec_decimal n⟩) : FnOK Tryd.prog 7 ⟨0, p_spec_decimal, q_spec_decimal, m_spec_decimal (n + 1)⟩ := fn_ok (ent := ⟨0, p_spec_decimal, q_spec_decimal, m_spec_decimal (n + 1)⟩) (L := lookL []) (ck_spec_decimal n ih0) mixed Tryd.func7 rfl (by kernel_rfl) (by kernel_rfl) (ls_ok (l := []) (by kernel_rfl) .nil) (by intro x; kernel_rfl)

theorem ok0_spec_decimal : ∀ n, FnOK Tryd.prog 7 ⟨0, p_spec_decimal, q_spec_decimal, m_spec_decimal n⟩
  | 0 => fun x r h => by cases h
  | n + 1 => (fun ih => st_spec_decimal n ih) (ok0_spec_decimal n)

noncomputable def e_spec_decimal : Ent := ⟨0, p_spec_decimal, q_spec_decimal, m_spec_decimal big⟩
theorem ok_spec_decimal : FnOK Tryd.prog 7 e_spec_decimal := (ok0_spec_decimal big)

/-! spec.signed -/
abbrev p_spec_signed : Pt := [(0, .int .i64)]
abbrev q_spec_signed : Pt := [(0, .str)]

noncomputable def m_spec_signed : Tup p_spec_signed → Option (Tup q_spec_signed) := fun (x : Int) => bif Decidable.decide (x < (0 : Int)) then Option.bind (m_spec_decimal big (Go.IntKind.wrap Go.IntKind.i64 ((0 : Int) - x))) fun (r : List UInt8) => Option.bind (catS [(45 : UInt8)] r) fun (r : List UInt8) => Option.some r else Option.bind (m_spec_decimal big x) fun (r : List UInt8) => Option.bind (catS [(43 : UInt8)] r) fun (r : List UInt8) => Option.some r

noncomputable def cx_spec_signed : Cx := ⟨tb, lookE [(7, e_spec_decimal)], lookS []⟩

theorem ck_spec_signed : CxOK Tryd.prog (cx_spec_signed) := cx_ok tb_ok (.cons ok_spec_decimal Tryd.call7 .nil)

noncomputable def e_spec_signed : Ent := ⟨0, p_spec_signed, q_spec_signed, m_spec_signed⟩
theorem ok_spec_signed : FnOK Tryd.prog 8 e_spec_signed := fn_ok (L := lookL []) ck_spec_signed mixed Tryd.func8 rfl (by kernel_rfl) (by kernel_rfl) (ls_ok (l := []) (by kernel_rfl) .nil) (by intro x; kernel_rfl)

/-! spec.Counted -/
abbrev p_spec_Counted : Pt := [(0, .int .i64), (1, .int .i64)]
abbrev q_spec_Counted : Pt := [(0, .str)]

noncomputable def m_spec_Counted : Tup p_spec_Counted → Option (Tup q_spec_Counted) := fun (x : Int × Int) => bif Decidable.decide (Prod.fst x < (0 : Int)) then Option.bind (m_spec_decimal big (Go.IntKind.wrap Go.IntKind.i64 ((0 : Int) - Prod.fst x))) fun (r : List UInt8) => Option.bind (catS [(45 : UInt8)] r) fun (r : List UInt8) => Option.bind (catS r [(110 : UInt8)]) fun (r : List UInt8) => Option.bind (m_spec_signed (Prod.snd x)) fun (r_1 : List UInt8) => Option.bind (catS r r_1) fun (r : List UInt8) => Option.some r else Option.bind (m_spec_decimal big (Prod.fst x)) fun (r : List UInt8) => Option.bind (catS r [(110 : UInt8)]) fun (r : List UInt8) => Option.bind (m_spec_signed (Prod.snd x)) fun (r_1 : List UInt8) => Option.bind (catS r r_1) fun (r : List UInt8) => Option.some r

noncomputable def cx_spec_Counted : Cx := ⟨tb, lookE [(7, e_spec_decimal), (8, e_spec_signed)], lookS []⟩

theorem ck_spec_Counted : CxOK Tryd.prog (cx_spec_Counted) := cx_ok tb_ok (.cons ok_spec_decimal Tryd.call7 (.cons ok_spec_signed Tryd.call8 .nil))

noncomputable def e_spec_Counted : Ent := ⟨0, p_spec_Counted, q_spec_Counted, m_spec_Counted⟩
theorem ok_spec_Counted : FnOK Tryd.prog 4 e_spec_Counted := fn_ok (L := lookL []) ck_spec_Counted mixed Tryd.func4 rfl (by kernel_rfl) (by kernel_rfl) (ls_ok (l := []) (by kernel_rfl) .nil) (by intro x; kernel_rfl)

/-! spec.Upper -/
abbrev p_spec_Upper : Pt := [(0, .str)]
abbrev q_spec_Upper : Pt := [(0, .str)]

abbrev p_spec_Upper_0 : Pt := [(3, .own .u8 5), (4, .int .i64)]
abbrev x_spec_Upper_0 : List (Xt × Pt) := [(.ex 0, [(3, .own .u8 5)])]
noncomputable def m_spec_Upper_0 : Tup p_spec_Upper_0 → Option (Stp (Tup p_spec_Upper_0) (SumT (x_spec_Upper_0.map (·.2)))) := fun (x : List UInt8 × Int) => bif Decidable.decide (Prod.snd x < (↑(List.length (Prod.fst x)) : Int)) then Option.bind (atI (Prod.fst x) (Prod.snd x)) fun (x_1 : UInt8) => Option.bind (Prod.fst x)[Int.toNat (Prod.snd x)]? fun (v : UInt8) => bif Decidable.decide ((97 : Int) ≤ (↑(UInt8.toNat v) : Int)) then Option.bind (atI (Prod.fst x) (Prod.snd x)) fun (x_2 : UInt8) => Option.bind (Prod.fst x)[Int.toNat (Prod.snd x)]? fun (v : UInt8) => bif Decidable.decide ((↑(UInt8.toNat v) : Int) ≤ (122 : Int)) then Option.bind (atI (Prod.fst x) (Prod.snd x)) fun (x_3 : UInt8) => Option.bind (Prod.fst x)[Int.toNat (Prod.snd x)]? fun (v : UInt8) => Option.bind (atI (Prod.fst x) (Prod.snd x)) fun (x_4 : UInt8) => Option.bind (Prod.fst x)[Int.toNat (Prod.snd x)]? fun (v_1 : UInt8) => Option.bind (byteI (Go.IntKind.wrap Go.IntKind.u8 ((↑(UInt8.toNat v) : Int) - (32 : Int)))) fun (v : UInt8) => Option.some (Stp.nx (List.set (Prod.fst x) (Int.toNat (Prod.snd x)) v, Go.IntKind.wrap Go.IntKind.i64 (Prod.snd x + (1 : Int)))) else Option.some (Stp.nx (Prod.fst x, Go.IntKind.wrap Go.IntKind.i64 (Prod.snd x + (1 : Int)))) else Option.some (Stp.nx (Prod.fst x, Go.IntKind.wrap Go.IntKind.i64 (Prod.snd x + (1 : Int)))) else Option.some (Stp.out (Prod.fst x))

noncomputable def m_spec_Upper : Tup p_spec_Upper → Option (Tup q_spec_Upper) := fun (x : List UInt8) => Option.bind (loopO m_spec_Upper_0 (x, (0 : Int))) fun (y : List UInt8) => Option.bind (castE E.u8 E.u8 y) fun (xs : List UInt8) => Option.some xs

noncomputable def cx_spec_Upper : Cx := ⟨tb, lookE [], lookS []⟩

theorem ck_spec_Upper : CxOK Tryd.prog (cx_spec_Upper) := cx_ok tb_ok .nil

noncomputable def c_spec_Upper_0 : Code := loopAt (Go.Proofs.Tryd.f5.body.getD .skip) 0

noncomputable def l_spec_Upper_0 : LEnt := ⟨p_spec_Upper_0, x_spec_Upper_0, loopO (m_spec_Upper_0)⟩

theorem lo_spec_Upper_0 : LOK Tryd.prog 33 0 false (l_spec_Upper_0) c_spec_Upper_0 := loop_ok (body := m_spec_Upper_0) (L := lookL []) (ck_spec_Upper) mixed (ls_ok (l := []) (by kernel_rfl) .nil) (by intro x; kernel_rfl) (fun x y h => loopO_iff.1 h)

noncomputable def e_spec_Upper : Ent := ⟨0, p_spec_Upper, q_spec_Upper, m_spec_Upper⟩
theorem ok_spec_Upper : FnOK Tryd.prog 5 e_spec_Upper := fn_ok (L := lookL [(0, l_spec_Upper_0)]) ck_spec_Upper mixed Tryd.func5 rfl (by kernel_rfl) (by kernel_rfl) (ls_ok (l := [(0, c_spec_Upper_0)]) (by kernel_rfl) (.cons rfl (lo_spec_Upper_0) .nil)) (by intro x; kernel_rfl)

end Go.Proofs.YtglcncfjagfodaaDoor.V
