/-
  Models of functions, and that they are what the code does (written by a program).
-/
import Derived.Test.YtfmlpodcldhgdaaKTab
import Derived.Test.YtfmlpodcldhgdaaSpecA
import Derived.Test.YtfmlpodcldhgdaaSpecB
import Derived.Test.YtfmlpodcldhgdaaImplA
import Derived.Test.YtfmlpodcldhgdaaGoqA
import Derived.Test.YtfmlpodcldhgdaaImplK
import Derived.Test.YtfmlpodcldhgdaaSpecL
set_option linter.unusedVariables false
set_option linter.unusedSimpArgs false
namespace Go.Proofs.Ytfmlpodcldhgdaa.V
open Go Go.Proofs

/-! laws.FnCloned -/
abbrev p_laws_FnCloned : Pt := [(0, .lst .node), (1, .lst .int)]
abbrev q_laws_FnCloned : Pt := [(0, .bool)]

abbrev p_laws_FnCloned_0 : Pt := [(0, .lst .node), (1, .lst .int), (5, .lst (.rc .nodes [] 0)), (7, .int .i64)]
abbrev x_laws_FnCloned_0 : List (Xt × Pt) := [(.ex 0, []), (.rt, [(4, .bool)])]
noncomputable def m_laws_FnCloned_0 : Tup p_laws_FnCloned_0 → Option (Stp (Tup p_laws_FnCloned_0) (SumT (x_laws_FnCloned_0.map (·.2)))) := fun (x : List Node × List Int × List (List Node) × Int) => bif Decidable.decide (Prod.snd (Prod.snd (Prod.snd x)) < (↑(List.length (Prod.fst (Prod.snd x))) : Int)) then Option.bind (atI (Prod.fst (Prod.snd (Prod.snd x))) (Prod.snd (Prod.snd (Prod.snd x)))) fun (v : List Node) => Option.bind (atI (Prod.fst (Prod.snd x)) (Prod.snd (Prod.snd (Prod.snd x)))) fun (v_1 : Int) => Option.bind (m_spec_Sub (Prod.fst x, v_1)) fun (r : List Node) => Option.bind (m_spec_SameTree (v, r)) fun (r : Bool) => bif !r then Option.some (Stp.out (Sum.inr Bool.false)) else Option.some (Stp.nx (Prod.fst x, Prod.fst (Prod.snd x), Prod.fst (Prod.snd (Prod.snd x)), Go.IntKind.wrap Go.IntKind.i64 (Prod.snd (Prod.snd (Prod.snd x)) + (1 : Int)))) else Option.some (Stp.out (Sum.inl PUnit.unit))

noncomputable def m_laws_FnCloned : Tup p_laws_FnCloned → Option (Tup q_laws_FnCloned) := fun (x : List Node × List Int) => Option.bind (m_laws_zzFits1 (Prod.fst x)) fun (r : Bool) => bif !r then Option.some Bool.true else bif Decidable.decide ((2147483647 : Int) < (↑(List.length (Prod.snd x)) : Int)) then Option.some Bool.true else Option.bind (m_spec_Right (Prod.fst x)) fun (r : Bool) => bif !r then Option.some Bool.true else Option.bind (m_spec_Order (Prod.fst x, Prod.snd x)) fun (r : Bool) => bif !r then Option.some Bool.true else bif Decidable.decide ((0 : Int) < (↑(List.length (Prod.snd x)) : Int)) then Option.bind (atI (Prod.snd x) (0 : Int)) fun (v : Int) => bif Decidable.decide (v = (0 : Int)) then Option.some Bool.true else Option.bind (m_impl_Cloned_f (Prod.fst x, Prod.snd x)) fun (r : List (List Node) × Bool) => bif !Prod.snd r then Option.some Bool.false else bif Decidable.decide ((↑(List.length (Prod.fst r)) : Int) ≠ (↑(List.length (Prod.snd x)) : Int)) then Option.some Bool.false else Option.bind (loopO m_laws_FnCloned_0 (Prod.fst x, Prod.snd x, Prod.fst r, (0 : Int))) fun (y : PUnit ⊕ Bool) => selim (fun (y : PUnit) => Option.some Bool.true) (fun (y : Bool) => Option.some y) y else Option.bind (m_impl_Cloned_f (Prod.fst x, Prod.snd x)) fun (r : List (List Node) × Bool) => bif !Prod.snd r then Option.some Bool.false else bif Decidable.decide ((↑(List.length (Prod.fst r)) : Int) ≠ (↑(List.length (Prod.snd x)) : Int)) then Option.some Bool.false else Option.bind (loopO m_laws_FnCloned_0 (Prod.fst x, Prod.snd x, Prod.fst r, (0 : Int))) fun (y : PUnit ⊕ Bool) => selim (fun (y : PUnit) => Option.some Bool.true) (fun (y : Bool) => Option.some y) y

noncomputable def cx_laws_FnCloned : Cx := ⟨tb, lookE [(13, e_laws_zzFits1), (14, e_spec_Right), (15, e_spec_Order), (18, e_impl_Cloned_f), (20, e_spec_Sub), (19, e_spec_SameTree)], lookS [(11, [(true, 0), (true, 1), (true, 2), (true, 3), (true, 4), (true, 5), (true, 6), (true, 7), (true, 8), (false, 9), (false, 10), (true, 11)])]⟩

theorem ck_laws_FnCloned : CxOK Try.prog (cx_laws_FnCloned) := cx_ok tb_ok (.cons ok_laws_zzFits1 Try.call13 (.cons ok_spec_Right Try.call14 (.cons ok_spec_Order Try.call15 (.cons ok_impl_Cloned_f Try.call18 (.cons ok_spec_Sub Try.call20 (.cons ok_spec_SameTree Try.call19 .nil))))))

noncomputable def c_laws_FnCloned_0 : Code := loopAt (Go.Proofs.Try.f4.body.getD .skip) 0

noncomputable def l_laws_FnCloned_0 : LEnt := ⟨p_laws_FnCloned_0, x_laws_FnCloned_0, loopO (m_laws_FnCloned_0)⟩

theorem lo_laws_FnCloned_0 : LOK Try.prog 69 0 false (l_laws_FnCloned_0) c_laws_FnCloned_0 := loop_ok (body := m_laws_FnCloned_0) (L := lookL []) (ck_laws_FnCloned) mixed (ls_ok (l := []) (by kernel_rfl) .nil) (by intro x; kernel_rfl) (fun x y h => loopO_iff.1 h)

noncomputable def e_laws_FnCloned : Ent := ⟨0, p_laws_FnCloned, q_laws_FnCloned, m_laws_FnCloned⟩
theorem ok_laws_FnCloned : FnOK Try.prog 4 e_laws_FnCloned := fn_ok (L := lookL [(0, l_laws_FnCloned_0)]) ck_laws_FnCloned mixed Try.func4 rfl (by kernel_rfl) (by kernel_rfl) (ls_ok (l := [(0, c_laws_FnCloned_0)]) (by kernel_rfl) (.cons rfl (lo_laws_FnCloned_0) .nil)) (by intro x; kernel_rfl)

end Go.Proofs.Ytfmlpodcldhgdaa.V
