/-
  Models of functions, and that they are what the code does (written by a program).
-/
import Derived.Test.YtlgabeiaheoniaaKTab
import Derived.Test.YtlgabeiaheoniaaSpecA
import Derived.Test.YtlgabeiaheoniaaSpecB
import Derived.Test.YtlgabeiaheoniaaImplA
import Derived.Test.YtlgabeiaheoniaaGoqA
namespace Go.Proofs.Ytlgabeiaheoniaa.V
open Go Go.Proofs

/-! goquery.appendWithoutDuplicates@mp -/
abbrev p_goquery_appendWithoutDuplicates_mp : Pt := [(0, .own .np 74), (1, .lst .np), (2, .mp)]
abbrev q_goquery_appendWithoutDuplicates_mp : Pt := [(0, .own .np 74), (1002, .mp)]

abbrev p_goquery_appendWithoutDuplicates_mp_0 : Pt := [(0, .own .np 74), (2, .mp), (23, .lst .np), (24, .int .i64), (25, .int .i64)]
abbrev x_goquery_appendWithoutDuplicates_mp_0 : List (Xt × Pt) := [(.ex 0, [(0, .own .np 74), (2, .mp)])]
noncomputable def m_goquery_appendWithoutDuplicates_mp_0 : Tup p_goquery_appendWithoutDuplicates_mp_0 → Option (Stp (Tup p_goquery_appendWithoutDuplicates_mp_0) (SumT (x_goquery_appendWithoutDuplicates_mp_0.map (·.2)))) := fun (x : List (Option Nat) × List (Option Nat × Bool) × List (Option Nat) × Int × Int) => bif Decidable.decide (Prod.snd (Prod.snd (Prod.snd (Prod.snd x))) < Prod.fst (Prod.snd (Prod.snd (Prod.snd x)))) then Option.bind (atI (Prod.fst (Prod.snd (Prod.snd x))) (Prod.snd (Prod.snd (Prod.snd (Prod.snd x))))) fun (v : Option Nat) => Option.bind (m_goquery_isInSlice (Prod.fst x, v)) fun (r : Bool) => bif !r then Option.bind (appL (Prod.fst x) [v]) fun (r : List (Option Nat)) => Option.some (Stp.nx (r, Prod.fst (Prod.snd x), Prod.fst (Prod.snd (Prod.snd x)), Prod.fst (Prod.snd (Prod.snd (Prod.snd x))), Go.IntKind.wrap Go.IntKind.i64 (Prod.snd (Prod.snd (Prod.snd (Prod.snd x))) + (1 : Int)))) else Option.some (Stp.nx (Prod.fst x, Prod.fst (Prod.snd x), Prod.fst (Prod.snd (Prod.snd x)), Prod.fst (Prod.snd (Prod.snd (Prod.snd x))), Go.IntKind.wrap Go.IntKind.i64 (Prod.snd (Prod.snd (Prod.snd (Prod.snd x))) + (1 : Int)))) else Option.some (Stp.out (Prod.fst x, Prod.fst (Prod.snd x)))

abbrev p_goquery_appendWithoutDuplicates_mp_1 : Pt := [(0, .own .np 74), (1, .lst .np), (2, .mp), (47, .al 0), (48, .int .i64), (49, .int .i64)]
abbrev x_goquery_appendWithoutDuplicates_mp_1 : List (Xt × Pt) := [(.ex 2, [(0, .own .np 74), (1, .lst .np), (2, .mp)])]
noncomputable def m_goquery_appendWithoutDuplicates_mp_1 : Tup p_goquery_appendWithoutDuplicates_mp_1 → Option (Stp (Tup p_goquery_appendWithoutDuplicates_mp_1) (SumT (x_goquery_appendWithoutDuplicates_mp_1.map (·.2)))) := fun (x : List (Option Nat) × List (Option Nat) × List (Option Nat × Bool) × PUnit × Int × Int) => bif Decidable.decide (Prod.snd (Prod.snd (Prod.snd (Prod.snd (Prod.snd x)))) < Prod.fst (Prod.snd (Prod.snd (Prod.snd (Prod.snd x))))) then Option.bind (atI (Prod.fst x) (Prod.snd (Prod.snd (Prod.snd (Prod.snd (Prod.snd x)))))) fun (x_1 : Option Nat) => Option.bind (Prod.fst x)[Int.toNat (Prod.snd (Prod.snd (Prod.snd (Prod.snd (Prod.snd x)))))]? fun (v : Option Nat) => Option.some (Stp.nx (Prod.fst x, Prod.fst (Prod.snd x), mput (Prod.fst (Prod.snd (Prod.snd x))) v Bool.true, PUnit.unit, Prod.fst (Prod.snd (Prod.snd (Prod.snd (Prod.snd x)))), Go.IntKind.wrap Go.IntKind.i64 (Prod.snd (Prod.snd (Prod.snd (Prod.snd (Prod.snd x)))) + (1 : Int)))) else Option.some (Stp.out (Prod.fst x, Prod.fst (Prod.snd x), Prod.fst (Prod.snd (Prod.snd x))))

abbrev p_goquery_appendWithoutDuplicates_mp_2 : Pt := [(0, .own .np 74), (2, .mp), (56, .lst .np), (57, .int .i64), (58, .int .i64)]
abbrev x_goquery_appendWithoutDuplicates_mp_2 : List (Xt × Pt) := [(.ex 4, [(0, .own .np 74), (2, .mp)])]
noncomputable def m_goquery_appendWithoutDuplicates_mp_2 : Tup p_goquery_appendWithoutDuplicates_mp_2 → Option (Stp (Tup p_goquery_appendWithoutDuplicates_mp_2) (SumT (x_goquery_appendWithoutDuplicates_mp_2.map (·.2)))) := fun (x : List (Option Nat) × List (Option Nat × Bool) × List (Option Nat) × Int × Int) => bif Decidable.decide (Prod.snd (Prod.snd (Prod.snd (Prod.snd x))) < Prod.fst (Prod.snd (Prod.snd (Prod.snd x)))) then Option.bind (atI (Prod.fst (Prod.snd (Prod.snd x))) (Prod.snd (Prod.snd (Prod.snd (Prod.snd x))))) fun (v : Option Nat) => bif !mget (Prod.fst (Prod.snd x)) v then Option.bind (appL (Prod.fst x) [v]) fun (r : List (Option Nat)) => Option.some (Stp.nx (r, mput (Prod.fst (Prod.snd x)) v Bool.true, Prod.fst (Prod.snd (Prod.snd x)), Prod.fst (Prod.snd (Prod.snd (Prod.snd x))), Go.IntKind.wrap Go.IntKind.i64 (Prod.snd (Prod.snd (Prod.snd (Prod.snd x))) + (1 : Int)))) else Option.some (Stp.nx (Prod.fst x, Prod.fst (Prod.snd x), Prod.fst (Prod.snd (Prod.snd x)), Prod.fst (Prod.snd (Prod.snd (Prod.snd x))), Go.IntKind.wrap Go.IntKind.i64 (Prod.snd (Prod.snd (Prod.snd (Prod.snd x))) + (1 : Int)))) else Option.some (Stp.out (Prod.fst x, Prod.fst (Prod.snd x)))

noncomputable def m_goquery_appendWithoutDuplicates_mp : Tup p_goquery_appendWithoutDuplicates_mp → Option (Tup q_goquery_appendWithoutDuplicates_mp) := fun (x : List (Option Nat) × List (Option Nat) × List (Option Nat × Bool)) => Option.bind (loopO m_goquery_appendWithoutDuplicates_mp_2 (Prod.fst x, Prod.snd (Prod.snd x), Prod.fst (Prod.snd x), (↑(List.length (Prod.fst (Prod.snd x))) : Int), (0 : Int))) fun (y : List (Option Nat) × List (Option Nat × Bool)) => Option.some (Prod.fst y, Prod.snd y)

noncomputable def cx_goquery_appendWithoutDuplicates_mp : Cx := ⟨tb, lookE [(115, e_goquery_isInSlice)]⟩

theorem ck_goquery_appendWithoutDuplicates_mp : CxOK Try.prog (cx_goquery_appendWithoutDuplicates_mp) := cx_ok tb_ok (.cons ok_goquery_isInSlice Try.call115 .nil)

noncomputable def c_goquery_appendWithoutDuplicates_mp_0 : Code := loopAt (Go.Proofs.Try.f131.body.getD .skip) 0

noncomputable def l_goquery_appendWithoutDuplicates_mp_0 : LEnt := ⟨p_goquery_appendWithoutDuplicates_mp_0, x_goquery_appendWithoutDuplicates_mp_0, loopO (m_goquery_appendWithoutDuplicates_mp_0)⟩

theorem lo_goquery_appendWithoutDuplicates_mp_0 : LOK Try.prog 74 2003 false (l_goquery_appendWithoutDuplicates_mp_0) c_goquery_appendWithoutDuplicates_mp_0 := loop_ok (body := m_goquery_appendWithoutDuplicates_mp_0) (L := lookL []) (ck_goquery_appendWithoutDuplicates_mp) mixed (ls_ok (l := []) (by kernel_rfl) .nil) (by intro x; kernel_rfl) (fun x y h => loopO_iff.1 h)

noncomputable def c_goquery_appendWithoutDuplicates_mp_1 : Code := loopAt (Go.Proofs.Try.f131.body.getD .skip) 1

noncomputable def l_goquery_appendWithoutDuplicates_mp_1 : LEnt := ⟨p_goquery_appendWithoutDuplicates_mp_1, x_goquery_appendWithoutDuplicates_mp_1, loopO (m_goquery_appendWithoutDuplicates_mp_1)⟩

theorem lo_goquery_appendWithoutDuplicates_mp_1 : LOK Try.prog 74 2003 false (l_goquery_appendWithoutDuplicates_mp_1) c_goquery_appendWithoutDuplicates_mp_1 := loop_ok (body := m_goquery_appendWithoutDuplicates_mp_1) (L := lookL []) (ck_goquery_appendWithoutDuplicates_mp) mixed (ls_ok (l := []) (by kernel_rfl) .nil) (by intro x; kernel_rfl) (fun x y h => loopO_iff.1 h)

noncomputable def c_goquery_appendWithoutDuplicates_mp_2 : Code := loopAt (Go.Proofs.Try.f131.body.getD .skip) 2

noncomputable def l_goquery_appendWithoutDuplicates_mp_2 : LEnt := ⟨p_goquery_appendWithoutDuplicates_mp_2, x_goquery_appendWithoutDuplicates_mp_2, loopO (m_goquery_appendWithoutDuplicates_mp_2)⟩

theorem lo_goquery_appendWithoutDuplicates_mp_2 : LOK Try.prog 74 2003 false (l_goquery_appendWithoutDuplicates_mp_2) c_goquery_appendWithoutDuplicates_mp_2 := loop_ok (body := m_goquery_appendWithoutDuplicates_mp_2) (L := lookL []) (ck_goquery_appendWithoutDuplicates_mp) mixed (ls_ok (l := []) (by kernel_rfl) .nil) (by intro x; kernel_rfl) (fun x y h => loopO_iff.1 h)

noncomputable def e_goquery_appendWithoutDuplicates_mp : Ent := ⟨2003, p_goquery_appendWithoutDuplicates_mp, q_goquery_appendWithoutDuplicates_mp, m_goquery_appendWithoutDuplicates_mp⟩
theorem ok_goquery_appendWithoutDuplicates_mp : FnOK Try.prog 131 e_goquery_appendWithoutDuplicates_mp := fn_ok (L := lookL [(0, l_goquery_appendWithoutDuplicates_mp_0), (2, l_goquery_appendWithoutDuplicates_mp_1), (4, l_goquery_appendWithoutDuplicates_mp_2)]) ck_goquery_appendWithoutDuplicates_mp mixed Try.func131 rfl (by kernel_rfl) (by kernel_rfl) (ls_ok (l := [(0, c_goquery_appendWithoutDuplicates_mp_0), (2, c_goquery_appendWithoutDuplicates_mp_1), (4, c_goquery_appendWithoutDuplicates_mp_2)]) (by kernel_rfl) (.cons rfl (lo_goquery_appendWithoutDuplicates_mp_0) (.cons rfl (lo_goquery_appendWithoutDuplicates_mp_1) (.cons rfl (lo_goquery_appendWithoutDuplicates_mp_2) .nil)))) (by intro x; kernel_rfl)

end Go.Proofs.Ytlgabeiaheoniaa.V
