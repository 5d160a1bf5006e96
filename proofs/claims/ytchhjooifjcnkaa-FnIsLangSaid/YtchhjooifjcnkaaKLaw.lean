/-
  From a contract of a law's function to what the given row asks: a law that returns true and leaves what was there as it is meets its row.
-/
import Derived.Test.YtchhjooifjcnkaaKMem
import Derived.ProofKit
namespace Go.Proofs.Ytchhjooifjcnkaa.K
open Go Go.ChangeShapes Go.WideShapes Go.ChangeAt Go.RowKit

theorem trodAll_stays {H : Type} {enc : TypeId × Value → H} {P : Program} (hl : laidOutB P = true) {W W' : World} {sp : Nat → Bool} : ∀ (ts : List TypeId) (vs : List Value) (ds : List (DataW H)) (ps : List MemPlace),
    ts.all (fun t => P.readableRec t && decide (t < P.types.size)) = true → DataW.TrodAll enc P W 0 (fun _ => true) true ts vs ds ps → (∀ p ∈ ps, W.sameAt W' p) → (∀ p ∈ ps, sp p.block = true) → DataW.TrodAll enc P W' 0 sp true ts vs ds ps
  | [], [], [], _, _, h, _, _ => h
  | t :: ts, v :: vs, d :: ds, ps, hr, ⟨p, q, h1, h2, he⟩, hs, hb => by
    subst he
    simp only [List.all_cons, Bool.and_eq_true, decide_eq_true_eq] at hr
    exact ⟨p, q, WideElems.Trod_stays hl hr.1.1 hr.1.2 h1 (fun x hx => hs x (by simp [hx])) (fun x hx => hb x (by simp [hx])), trodAll_stays hl ts vs ds q hr.2 h2 (fun x hx => hs x (by simp [hx])) (fun x hx => hb x (by simp [hx])), rfl⟩
  | [], _ :: _, _, _, _, h, _, _ => h.elim
  | [], [], _ :: _, _, _, h, _, _ => h.elim
  | _ :: _, [], _, _, _, h, _, _ => h.elim
  | _ :: _, _ :: _, [], _, _, h, _, _ => h.elim

theorem below_of {E : Env} {W w' : World} {h' : Array Obj} (hE : E = ⟨W.os, W.output, W.tape⟩) (hA : At E h' w') (he : Ext W.heap h') : Below W.heap.size W w' := by
  subst hE
  exact ⟨hA.2.1, hA.2.2.2, hA.2.2.1, by rw [hA.1]; exact he.1, fun k hk => by rw [hA.1]; exact he.2 k hk⟩

/-- A law that returns true, and leaves what was there as it is, meets its row. -/
theorem law_post {H : Type} {enc : TypeId × Value → H} {P : Program} {k : FuncId} {f : Func} {s : ChangeSpec} {tb : TypeId} {W : World} {args : Array Value} {ds gs : List (DataW H)} {before : List MemPlace}
    (hl : laidOutB P = true) (hread : f.params.toList.all (fun t => P.readableRec t && decide (t < P.types.size)) = true) (hrt : f.resultTypes = #[tb]) (hub : P.underlying tb = some .bool) (hvars : s.vars = []) (hW : DataW.Whole enc P f.params.toList s.vars false W args.toList ds gs before)
    (hfn : (s.fn H (ds ++ gs)).results = [.lit (.bool true)] ∧ (s.fn H (ds ++ gs)).args = ds ∧ (s.fn H (ds ++ gs)).vars = [])
    (hret : Ret P k args.toList W.heap fun v h => v = .bool true ∧ Ext W.heap h) :
    Calls P k args W fun e W' => ∃ v, e = .returned v ∧ s.post enc P f false true false false W args v W' := by
  have h1 := hret.out ⟨W.os, W.output, W.tape⟩ W ⟨rfl, rfl, rfl, rfl⟩
  simp only [Array.toArray_toList] at h1
  refine h1.mono fun e W' ⟨v, he, h', hA, hv, hx⟩ => ?_
  subst hv
  refine ⟨_, he, ?_⟩
  have hb := below_of rfl hA hx
  have hW' := hW
  obtain ⟨p, q, hA0, hV, rfl, hfz, hnd⟩ := hW
  rw [hvars] at hV
  have hq : q = [] ∧ gs = [] := by
    cases gs with
    | nil => exact ⟨hV, rfl⟩
    | cons g gs => exact hV.elim
  obtain ⟨rfl, rfl⟩ := hq
  have hlt : ∀ x ∈ p, x.block < W.heap.size := fun x hx => hW'.lt x (by simp [hx])
  refine ⟨ds, [], p ++ [], [], p, [], hW', ?_, ?_, ?_, World.keptBut_mono (fun _ h => h.elim) (hb.frame (fun _ => False)), fun h => by cases h⟩
  · rw [hrt, hfn.1]
    exact trodAll_mk1 (shut_bool hub true)
  · rw [hfn.2.1]
    exact trodAll_stays hl _ _ _ _ hread hA0 (fun x hx => hb.same (hlt x hx)) (fun x hx => by simpa using hlt x hx)
  · rw [hvars, hfn.2.2]
    rfl
end Go.Proofs.Ytchhjooifjcnkaa.K
