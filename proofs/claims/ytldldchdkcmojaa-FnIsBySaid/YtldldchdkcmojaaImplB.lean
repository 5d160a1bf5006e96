/-
  Models of functions, and that they are what the code does (written by a program).
-/
import Derived.Test.YtldldchdkcmojaaKTab
import Derived.Test.YtldldchdkcmojaaSpecA
set_option linter.unusedVariables false
set_option linter.unusedSimpArgs false
namespace Go.Proofs.Ytldldchdkcmojaa.V
open Go Go.Proofs

/-! impl.these -/
abbrev p_impl_these : Pt := [(0, .lst .np), (1, .lst .int)]
abbrev q_impl_these : Pt := [(0, .own .np 65), (1, .bool)]

abbrev p_impl_these_0 : Pt := [(0, .lst .np), (6, .own .np 65), (9, .lst .int), (10, .int .i64), (11, .int .i64)]
abbrev x_impl_these_0 : List (Xt × Pt) := [(.ex 0, [(6, .own .np 65)]), (.rt, [(4, .own .np 65), (5, .bool)])]
noncomputable def m_impl_these_0 : Tup p_impl_these_0 → Option (Stp (Tup p_impl_these_0) (SumT (x_impl_these_0.map (·.2)))) := fun (x : List (Option Nat) × List (Option Nat) × List Int × Int × Int) => bif Decidable.decide (Prod.snd (Prod.snd (Prod.snd (Prod.snd x))) < Prod.fst (Prod.snd (Prod.snd (Prod.snd x)))) then Option.bind (atI (Prod.fst (Prod.snd (Prod.snd x))) (Prod.snd (Prod.snd (Prod.snd (Prod.snd x))))) fun (v : Int) => bif Decidable.decide (v < (0 : Int)) then Option.some (Stp.out (Sum.inr ([], Bool.false))) else bif Decidable.decide ((↑(List.length (Prod.fst x)) : Int) ≤ v) then Option.some (Stp.out (Sum.inr ([], Bool.false))) else Option.bind (atI (Prod.fst x) v) fun (v : Option Nat) => Option.bind (appL (Prod.fst (Prod.snd x)) [v]) fun (r : List (Option Nat)) => Option.some (Stp.nx (Prod.fst x, r, Prod.fst (Prod.snd (Prod.snd x)), Prod.fst (Prod.snd (Prod.snd (Prod.snd x))), Go.IntKind.wrap Go.IntKind.i64 (Prod.snd (Prod.snd (Prod.snd (Prod.snd x))) + (1 : Int)))) else Option.some (Stp.out (Sum.inl (Prod.fst (Prod.snd x))))

noncomputable def m_impl_these : Tup p_impl_these → Option (Tup q_impl_these) := fun (x : List (Option Nat) × List Int) => Option.bind (loopO m_impl_these_0 (Prod.fst x, [], Prod.snd x, (↑(List.length (Prod.snd x)) : Int), (0 : Int))) fun (y : List (Option Nat) ⊕ List (Option Nat) × Bool) => selim (fun (y : List (Option Nat)) => Option.some (y, Bool.true)) (fun (y : List (Option Nat) × Bool) => Option.some (Prod.fst y, Prod.snd y)) y

noncomputable def cx_impl_these : Cx := ⟨tb, lookE [], lookS []⟩

theorem ck_impl_these : CxOK Try.prog (cx_impl_these) := cx_ok tb_ok .nil

noncomputable def c_impl_these_0 : Code := loopAt (Go.Proofs.Try.f112.body.getD .skip) 0

noncomputable def l_impl_these_0 : LEnt := ⟨p_impl_these_0, x_impl_these_0, loopO (m_impl_these_0)⟩

theorem lo_impl_these_0 : LOK Try.prog 32 0 false (l_impl_these_0) c_impl_these_0 := loop_ok (body := m_impl_these_0) (L := lookL []) (ck_impl_these) mixed (ls_ok (l := []) (by kernel_rfl) .nil) (by intro x; kernel_rfl) (fun x y h => loopO_iff.1 h)

noncomputable def e_impl_these : Ent := ⟨0, p_impl_these, q_impl_these, m_impl_these⟩
theorem ok_impl_these : FnOK Try.prog 112 e_impl_these := fn_ok (L := lookL [(0, l_impl_these_0)]) ck_impl_these mixed Try.func112 rfl (by kernel_rfl) (by kernel_rfl) (ls_ok (l := [(0, c_impl_these_0)]) (by kernel_rfl) (.cons rfl (lo_impl_these_0) .nil)) (by intro x; kernel_rfl)

/-! impl.placeOf -/
abbrev p_impl_placeOf : Pt := [(0, .lst .np), (1, .np)]
abbrev q_impl_placeOf : Pt := [(0, .int .i64)]

abbrev p_impl_placeOf_0 : Pt := [(0, .lst .np), (1, .np), (7, .int .i64), (8, .int .i64)]
abbrev x_impl_placeOf_0 : List (Xt × Pt) := [(.ex 0, []), (.rt, [(4, .int .i64)])]
noncomputable def m_impl_placeOf_0 : Tup p_impl_placeOf_0 → Option (Stp (Tup p_impl_placeOf_0) (SumT (x_impl_placeOf_0.map (·.2)))) := fun (x : List (Option Nat) × Option Nat × Int × Int) => bif Decidable.decide (Prod.snd (Prod.snd (Prod.snd x)) < Prod.fst (Prod.snd (Prod.snd x))) then Option.bind (atI (Prod.fst x) (Prod.snd (Prod.snd (Prod.snd x)))) fun (v : Option Nat) => bif Decidable.decide (v = Prod.fst (Prod.snd x)) then Option.some (Stp.out (Sum.inr (Prod.snd (Prod.snd (Prod.snd x))))) else Option.some (Stp.nx (Prod.fst x, Prod.fst (Prod.snd x), Prod.fst (Prod.snd (Prod.snd x)), Go.IntKind.wrap Go.IntKind.i64 (Prod.snd (Prod.snd (Prod.snd x)) + (1 : Int)))) else Option.some (Stp.out (Sum.inl PUnit.unit))

noncomputable def m_impl_placeOf : Tup p_impl_placeOf → Option (Tup q_impl_placeOf) := fun (x : List (Option Nat) × Option Nat) => Option.bind (loopO m_impl_placeOf_0 (Prod.fst x, Prod.snd x, (↑(List.length (Prod.fst x)) : Int), (0 : Int))) fun (y : PUnit ⊕ Int) => selim (fun (y : PUnit) => Option.some (-1 : Int)) (fun (y : Int) => Option.some y) y

noncomputable def cx_impl_placeOf : Cx := ⟨tb, lookE [], lookS []⟩

theorem ck_impl_placeOf : CxOK Try.prog (cx_impl_placeOf) := cx_ok tb_ok .nil

noncomputable def c_impl_placeOf_0 : Code := loopAt (Go.Proofs.Try.f76.body.getD .skip) 0

noncomputable def l_impl_placeOf_0 : LEnt := ⟨p_impl_placeOf_0, x_impl_placeOf_0, loopO (m_impl_placeOf_0)⟩

theorem lo_impl_placeOf_0 : LOK Try.prog 19 0 false (l_impl_placeOf_0) c_impl_placeOf_0 := loop_ok (body := m_impl_placeOf_0) (L := lookL []) (ck_impl_placeOf) mixed (ls_ok (l := []) (by kernel_rfl) .nil) (by intro x; kernel_rfl) (fun x y h => loopO_iff.1 h)

noncomputable def e_impl_placeOf : Ent := ⟨0, p_impl_placeOf, q_impl_placeOf, m_impl_placeOf⟩
theorem ok_impl_placeOf : FnOK Try.prog 76 e_impl_placeOf := fn_ok (L := lookL [(0, l_impl_placeOf_0)]) ck_impl_placeOf mixed Try.func76 rfl (by kernel_rfl) (by kernel_rfl) (ls_ok (l := [(0, c_impl_placeOf_0)]) (by kernel_rfl) (.cons rfl (lo_impl_placeOf_0) .nil)) (by intro x; kernel_rfl)

/-! impl.placesOf -/
abbrev p_impl_placesOf : Pt := [(0, .lst .np), (1, .lst .np)]
abbrev q_impl_placesOf : Pt := [(0, .own .int 3)]

abbrev p_impl_placesOf_0 : Pt := [(0, .lst .np), (5, .own .int 3), (8, .lst .np), (9, .int .i64), (10, .int .i64)]
abbrev x_impl_placesOf_0 : List (Xt × Pt) := [(.ex 0, [(5, .own .int 3)])]
noncomputable def m_impl_placesOf_0 : Tup p_impl_placesOf_0 → Option (Stp (Tup p_impl_placesOf_0) (SumT (x_impl_placesOf_0.map (·.2)))) := fun (x : List (Option Nat) × List Int × List (Option Nat) × Int × Int) => bif Decidable.decide (Prod.snd (Prod.snd (Prod.snd (Prod.snd x))) < Prod.fst (Prod.snd (Prod.snd (Prod.snd x)))) then Option.bind (atI (Prod.fst (Prod.snd (Prod.snd x))) (Prod.snd (Prod.snd (Prod.snd (Prod.snd x))))) fun (v : Option Nat) => Option.bind (m_impl_placeOf (Prod.fst x, v)) fun (r : Int) => Option.bind (appL (Prod.fst (Prod.snd x)) [r]) fun (r : List Int) => Option.some (Stp.nx (Prod.fst x, r, Prod.fst (Prod.snd (Prod.snd x)), Prod.fst (Prod.snd (Prod.snd (Prod.snd x))), Go.IntKind.wrap Go.IntKind.i64 (Prod.snd (Prod.snd (Prod.snd (Prod.snd x))) + (1 : Int)))) else Option.some (Stp.out (Prod.fst (Prod.snd x)))

noncomputable def m_impl_placesOf : Tup p_impl_placesOf → Option (Tup q_impl_placesOf) := fun (x : List (Option Nat) × List (Option Nat)) => Option.bind (loopO m_impl_placesOf_0 (Prod.fst x, [], Prod.snd x, (↑(List.length (Prod.snd x)) : Int), (0 : Int))) fun (y : List Int) => Option.some y

noncomputable def cx_impl_placesOf : Cx := ⟨tb, lookE [(76, e_impl_placeOf)], lookS []⟩

theorem ck_impl_placesOf : CxOK Try.prog (cx_impl_placesOf) := cx_ok tb_ok (.cons ok_impl_placeOf Try.call76 .nil)

noncomputable def c_impl_placesOf_0 : Code := loopAt (Go.Proofs.Try.f40.body.getD .skip) 0

noncomputable def l_impl_placesOf_0 : LEnt := ⟨p_impl_placesOf_0, x_impl_placesOf_0, loopO (m_impl_placesOf_0)⟩

theorem lo_impl_placesOf_0 : LOK Try.prog 22 0 false (l_impl_placesOf_0) c_impl_placesOf_0 := loop_ok (body := m_impl_placesOf_0) (L := lookL []) (ck_impl_placesOf) mixed (ls_ok (l := []) (by kernel_rfl) .nil) (by intro x; kernel_rfl) (fun x y h => loopO_iff.1 h)

noncomputable def e_impl_placesOf : Ent := ⟨0, p_impl_placesOf, q_impl_placesOf, m_impl_placesOf⟩
theorem ok_impl_placesOf : FnOK Try.prog 40 e_impl_placesOf := fn_ok (L := lookL [(0, l_impl_placesOf_0)]) ck_impl_placesOf mixed Try.func40 rfl (by kernel_rfl) (by kernel_rfl) (ls_ok (l := [(0, c_impl_placesOf_0)]) (by kernel_rfl) (.cons rfl (lo_impl_placesOf_0) .nil)) (by intro x; kernel_rfl)

/-! impl.yes -/
abbrev p_impl_yes : Pt := [(0, .lst .bool), (1, .int .i64)]
abbrev q_impl_yes : Pt := [(0, .bool)]

noncomputable def m_impl_yes : Tup p_impl_yes → Option (Tup q_impl_yes) := fun (x : List Bool × Int) => bif Decidable.decide (Prod.snd x < (↑(List.length (Prod.fst x)) : Int)) then Option.bind (atI (Prod.fst x) (Prod.snd x)) fun (v : Bool) => Option.some v else Option.some Bool.false

noncomputable def cx_impl_yes : Cx := ⟨tb, lookE [], lookS []⟩

theorem ck_impl_yes : CxOK Try.prog (cx_impl_yes) := cx_ok tb_ok .nil

noncomputable def e_impl_yes : Ent := ⟨0, p_impl_yes, q_impl_yes, m_impl_yes⟩
theorem ok_impl_yes : FnOK Try.prog 41 e_impl_yes := fn_ok (L := lookL []) ck_impl_yes mixed Try.func41 rfl (by kernel_rfl) (by kernel_rfl) (ls_ok (l := []) (by kernel_rfl) .nil) (by intro x; kernel_rfl)

end Go.Proofs.Ytldldchdkcmojaa.V
