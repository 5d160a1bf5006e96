/-
  What a written list of functions and loops comes to.
-/
import Derived.Test.YtchhjooifjcnkaaKFn
namespace Go.Proofs.Ytchhjooifjcnkaa.V
open Go K

def loopsOf : Code → Nat → List (Nat × Code)
  | .seq a b, i => loopsOf a i ++ loopsOf b i
  | .cond _ a b, i => loopsOf a i ++ loopsOf b i
  | .block id c, _ => loopsOf c id
  | .loop c, i => [(i, c)]
  | _, _ => []
def loopAt (c : Code) (k : Nat) : Code := ((loopsOf c 0).getD k (0, .skip)).2
theorem loops_iff {Q : Nat → Code → Prop} : ∀ {c : Code} {i : Nat}, (∀ p ∈ loopsOf c i, Q p.1 p.2) → LoopsOK Q c i
  | .seq a b, i, h => ⟨loops_iff fun p hp => h p (List.mem_append_left _ hp), loops_iff fun p hp => h p (List.mem_append_right _ hp)⟩
  | .cond _ a b, i, h => ⟨loops_iff fun p hp => h p (List.mem_append_left _ hp), loops_iff fun p hp => h p (List.mem_append_right _ hp)⟩
  | .block id c, _, h => loops_iff (c := c) h
  | .loop c, i, h => h (i, c) (by simp [loopsOf])
  | .skip, _, _ => trivial
  | .region _ _ _, _, _ => trivial
  | .rangeFunc _ _ _ _, _, _ => trivial
  | .exit _, _, _ => trivial
  | .scope _, _, _ => trivial
  | .label _, _, _ => trivial
  | .goto _, _, _ => trivial
  | .ret, _, _ => trivial
  | .refuse _, _, _ => trivial
def lookE : List (FuncId × Ent) → FuncId → Option Ent
  | [], _ => none
  | (g, e) :: l, f => cond (f == g) (some e) (lookE l f)
def lookL : List (Nat × LEnt) → Nat → Option LEnt
  | [], _ => none
  | (g, e) :: l, f => cond (f == g) (some e) (lookL l f)
inductive EsOK (P : Program) : List (FuncId × Ent) → Prop
  | nil : EsOK P []
  | cons {f : FuncId} {e : Ent} {l : List (FuncId × Ent)} (h : FnOK P f e) (c : ∀ args w, (callFunc f args).run P w = .ok (.enter f args) w) (t : EsOK P l) : EsOK P ((f, e) :: l)
theorem cx_ok {P : Program} {tb : List (Option TI)} {l : List (FuncId × Ent)} (ht : TbOK P tb) (h : EsOK P l) : CxOK P ⟨tb, lookE l⟩ := by
  refine ⟨ht, ?_⟩
  induction h with
  | nil => intro f e hf; cases hf
  | @cons g e0 l h c t ih =>
    intro f e hf
    simp only [lookE] at hf
    cases hg : (f == g) with
    | true =>
      rw [hg] at hf
      cases hf
      have : f = g := by simpa using hg
      subst this
      exact ⟨h, c⟩
    | false =>
      rw [hg] at hf
      exact ih f e hf
inductive LsOK (P : Program) (n np : Nat) (nw : Bool) (L : Nat → Option LEnt) : List (Nat × Code) → Prop
  | nil : LsOK P n np nw L []
  | cons {i : Nat} {c : Code} {le : LEnt} {l : List (Nat × Code)} (hl : L i = some le) (h : LOK P n np nw le c) (t : LsOK P n np nw L l) : LsOK P n np nw L ((i, c) :: l)
  | skip {i : Nat} {c : Code} {l : List (Nat × Code)} (hl : L i = none) (t : LsOK P n np nw L l) : LsOK P n np nw L ((i, c) :: l)
theorem ls_ok {P : Program} {n np : Nat} {nw : Bool} {L : Nat → Option LEnt} {c : Code} {l : List (Nat × Code)} (hc : loopsOf c 0 = l) (h : LsOK P n np nw L l) : LoopsOK (fun i c => ∀ le, L i = some le → LOK P n np nw le c) c 0 := by
  refine loops_iff ?_
  rw [hc]
  clear hc
  induction h with
  | nil => intro p hp; cases hp
  | skip hl t ih =>
    intro p hp
    rcases List.mem_cons.1 hp with rfl | hp
    · intro le hle
      rw [hl] at hle
      cases hle
    · exact ih p hp
  | cons hl h t ih =>
    intro p hp
    rcases List.mem_cons.1 hp with rfl | hp
    · intro le hle
      rw [hl] at hle
      cases hle
      exact h
    · exact ih p hp
/-- How deep functions call themselves. -/
def big : Nat := 1099511627776
end Go.Proofs.Ytchhjooifjcnkaa.V
