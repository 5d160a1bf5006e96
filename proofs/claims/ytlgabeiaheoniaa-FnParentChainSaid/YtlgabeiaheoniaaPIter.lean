/-
  goquery's children and siblings of a node, one after the other. Plain facts.
-/
import Derived.Test.YtlgabeiaheoniaaPWay
import Derived.Test.YtlgabeiaheoniaaPLists
import Derived.Test.YtlgabeiaheoniaaGoqR
namespace Go.Proofs.Ytlgabeiaheoniaa.V
open Go

theorem loopO_same {X B : Type} {body : X → Option (Stp X B)} {x y : X} (h : body x = body y) : loopO body x = loopO body y := by
  have key : ∀ {x y : X} {b : B}, body x = body y → LoopTo body x b → LoopTo body y b := fun h hl => by
    cases hl with
    | out h1 => exact .out (by rw [← h]; exact h1)
    | nx h1 h2 => exact .nx (by rw [← h]; exact h1) h2
  cases hx : loopO body x with
  | some b => exact (loopO_iff.2 (key h (loopO_iff.1 hx))).symm
  | none =>
    cases hy : loopO body y with
    | none => rfl
    | some b =>
      have := loopO_iff.2 (key h.symm (loopO_iff.1 hy))
      rw [hx] at this
      cases this
abbrev ItX := Option Nat × Int × Option Nat × Option Nat × Option Nat × List HN
/-- The end of a round: the next one, if it will do. -/
def finB (t : List Node) (st : Int) (p s : Option Nat) : Option Nat → Option (Stp ItX (Option Nat × List HN))
  | none => some (.out (none, store t))
  | some r => if kindN t r = 3 ∨ st = 4 then some (.out (some r, store t)) else some (.nx (some r, st, p, s, some r, store t))
theorem kind_ty {t : List Node} (hR : RT t) {r : Nat} (hr : r < t.length) : (rc t 0 t.length r).ty = 3 ↔ kindN t r = 3 := by
  obtain ⟨v, hv⟩ := get_lt hr
  rw [rc_el hR hv, kind_some hv]
theorem it_tail {t : List Node} (hR : RT t) (st : Int) (p s o : Option Nat) (ho : ∀ r, o = some r → r < t.length) :
    (bif o.isNone then some (Stp.out (o, store t)) else o.bind fun i => (store t)[i]?.bind fun h_1 => bif decide (h_1.ty = 3) then some (.out (o, store t)) else bif decide (st = 4) then some (.out (o, store t)) else some (.nx (o, st, p, s, o, store t)) : Option (Stp ItX (Option Nat × List HN))) = finB t st p s o := by
  cases o with
  | none => rfl
  | some r =>
    have hr := ho r rfl
    simp only [Option.isNone_some, cond_false, bind_some, store_get hr, cond_dec, finB]
    by_cases h3 : kindN t r = 3
    · rw [if_pos ((kind_ty hR hr).2 h3), if_pos (.inl h3)]
    · rw [if_neg (fun e => h3 ((kind_ty hR hr).1 e))]
      by_cases h4 : st = 4
      · rw [if_pos h4, if_pos (.inr h4)]
      · rw [if_neg h4, if_neg (fun h => h.elim h3 h4)]
section
variable {t : List Node}
theorem fst_lt (hR : RT t) {a r : Nat} (h : (rc t 0 t.length a).fst = some r) : r < t.length := by
  simp only [rc] at h
  split at h
  · cases h; omega
  · cases h
theorem nxt_lt {a r : Nat} (h : (rc t 0 t.length a).nxt = some r) : r < t.length := by
  simp only [rc, nxtF] at h
  split at h
  · cases h
  · split at h
    · split at h
      · rename_i hc; cases h; exact hc.1
      · cases h
    · cases h
theorem prv_lt {a r : Nat} (ha : a < t.length) (h : (rc t 0 t.length a).prv = some r) : r < t.length := by
  simp only [rc, prvF] at h
  split at h
  · cases h
  · split at h
    · have := (lastF_some h).1; omega
    · cases h
/-- The kid after one, or the first one. -/
def stK (t : List Node) (p : Nat) : Option Nat → Option Nat
  | none => (rc t 0 t.length p).fst
  | some c => (rc t 0 t.length c).nxt
/-- The same without one of them. -/
def stS (t : List Node) (p a : Nat) (cur : Option Nat) : Option Nat := if stK t p cur = some a then (rc t 0 t.length a).nxt else stK t p cur
theorem body_kids (hR : RT t) (st : Int) (hst : st = 0 ∨ st = 4) (p : Nat) (hp : p < t.length) (r0 : Option Nat) (cur : Option Nat) (hc : ∀ c, cur = some c → c < t.length) :
    m_goquery_getChildrenWithSiblingType_1_0 (cur, st, some p, none, r0, store t) = finB t st (some p) none (stK t p cur) := by
  cases cur with
  | none =>
    rcases hst with rfl | rfl
    · simp only [m_goquery_getChildrenWithSiblingType_1_0, show decide ((0 : Int) = 0) = true from rfl, cond_true, Option.isNone_none, bind_some, store_get hp, Bool.not_true, cond_false, Bool.cond_self]
      exact it_tail hR 0 _ _ _ fun r h => fst_lt hR h
    · simp only [m_goquery_getChildrenWithSiblingType_1_0, show decide ((4 : Int) = 0) = false from rfl, show decide ((4 : Int) = 4) = true from rfl, cond_true, Option.isNone_none, bind_some, store_get hp, Bool.not_true, cond_false, Bool.cond_self]
      exact it_tail hR 4 _ _ _ fun r h => fst_lt hR h
  | some c =>
    have hcl := hc c rfl
    rcases hst with rfl | rfl
    · simp only [m_goquery_getChildrenWithSiblingType_1_0, show decide ((0 : Int) = 0) = true from rfl, cond_true, Option.isNone_none, Option.isNone_some, bind_some, store_get hcl, Bool.not_true, cond_false, Bool.cond_self]
      exact it_tail hR 0 _ _ _ fun r h => nxt_lt h
    · simp only [m_goquery_getChildrenWithSiblingType_1_0, show decide ((4 : Int) = 0) = false from rfl, show decide ((4 : Int) = 4) = true from rfl, cond_true, Option.isNone_none, Option.isNone_some, bind_some, store_get hcl, Bool.not_true, cond_false, Bool.cond_self]
      exact it_tail hR 4 _ _ _ fun r h => nxt_lt h
theorem body_nxt (hR : RT t) (st : Int) (hst : st = 1 ∨ st = 2 ∨ st = 3) (p : Option Nat) (a : Nat) (ha : a < t.length) (r0 : Option Nat) (cur : Option Nat) (hc : ∀ c, cur = some c → c < t.length) :
    m_goquery_getChildrenWithSiblingType_1_0 (cur, st, p, some a, r0, store t) = finB t st p (some a) (rc t 0 t.length (cur.getD a)).nxt := by
  cases cur with
  | none =>
    rcases hst with rfl | rfl | rfl
    · simp only [m_goquery_getChildrenWithSiblingType_1_0, show decide ((1 : Int) = 0) = false from rfl, show decide ((1 : Int) = 4) = false from rfl, show decide ((1 : Int) = -1) = false from rfl, show decide ((1 : Int) = -2) = false from rfl, show decide ((1 : Int) = -3) = false from rfl, show decide ((1 : Int) = 1) = true from rfl, cond_true, Option.isNone_none, bind_some, store_get ha, cond_false, Option.getD_none]
      exact it_tail hR 1 _ _ _ fun r h => nxt_lt h
    · simp only [m_goquery_getChildrenWithSiblingType_1_0, show decide ((2 : Int) = 0) = false from rfl, show decide ((2 : Int) = 4) = false from rfl, show decide ((2 : Int) = -1) = false from rfl, show decide ((2 : Int) = -2) = false from rfl, show decide ((2 : Int) = -3) = false from rfl, show decide ((2 : Int) = 1) = false from rfl, show decide ((2 : Int) = 2) = true from rfl, cond_true, Option.isNone_none, bind_some, store_get ha, cond_false, Option.getD_none]
      exact it_tail hR 2 _ _ _ fun r h => nxt_lt h
    · simp only [m_goquery_getChildrenWithSiblingType_1_0, show decide ((3 : Int) = 0) = false from rfl, show decide ((3 : Int) = 4) = false from rfl, show decide ((3 : Int) = -1) = false from rfl, show decide ((3 : Int) = -2) = false from rfl, show decide ((3 : Int) = -3) = false from rfl, show decide ((3 : Int) = 1) = false from rfl, show decide ((3 : Int) = 2) = false from rfl, show decide ((3 : Int) = 3) = true from rfl, cond_true, Option.isNone_none, bind_some, store_get ha, cond_false, Option.getD_none]
      exact it_tail hR 3 _ _ _ fun r h => nxt_lt h
  | some c =>
    have hcl := hc c rfl
    rcases hst with rfl | rfl | rfl
    · simp only [m_goquery_getChildrenWithSiblingType_1_0, show decide ((1 : Int) = 0) = false from rfl, show decide ((1 : Int) = 4) = false from rfl, show decide ((1 : Int) = -1) = false from rfl, show decide ((1 : Int) = -2) = false from rfl, show decide ((1 : Int) = -3) = false from rfl, show decide ((1 : Int) = 1) = true from rfl, cond_true, Option.isNone_some, bind_some, store_get hcl, cond_false, Option.getD_some]
      exact it_tail hR 1 _ _ _ fun r h => nxt_lt h
    · simp only [m_goquery_getChildrenWithSiblingType_1_0, show decide ((2 : Int) = 0) = false from rfl, show decide ((2 : Int) = 4) = false from rfl, show decide ((2 : Int) = -1) = false from rfl, show decide ((2 : Int) = -2) = false from rfl, show decide ((2 : Int) = -3) = false from rfl, show decide ((2 : Int) = 1) = false from rfl, show decide ((2 : Int) = 2) = true from rfl, cond_true, Option.isNone_some, bind_some, store_get hcl, cond_false, Option.getD_some]
      exact it_tail hR 2 _ _ _ fun r h => nxt_lt h
    · simp only [m_goquery_getChildrenWithSiblingType_1_0, show decide ((3 : Int) = 0) = false from rfl, show decide ((3 : Int) = 4) = false from rfl, show decide ((3 : Int) = -1) = false from rfl, show decide ((3 : Int) = -2) = false from rfl, show decide ((3 : Int) = -3) = false from rfl, show decide ((3 : Int) = 1) = false from rfl, show decide ((3 : Int) = 2) = false from rfl, show decide ((3 : Int) = 3) = true from rfl, cond_true, Option.isNone_some, bind_some, store_get hcl, cond_false, Option.getD_some]
      exact it_tail hR 3 _ _ _ fun r h => nxt_lt h
theorem body_prv (hR : RT t) (p : Option Nat) (a : Nat) (ha : a < t.length) (r0 : Option Nat) (cur : Option Nat) (hc : ∀ c, cur = some c → c < t.length) :
    m_goquery_getChildrenWithSiblingType_1_0 (cur, (-2 : Int), p, some a, r0, store t) = finB t (-2) p (some a) (rc t 0 t.length (cur.getD a)).prv := by
  cases cur with
  | none =>
    simp only [m_goquery_getChildrenWithSiblingType_1_0, show decide ((-2 : Int) = 0) = false from rfl, show decide ((-2 : Int) = 4) = false from rfl, show decide ((-2 : Int) = -1) = false from rfl, show decide ((-2 : Int) = -2) = true from rfl, cond_true, Option.isNone_none, bind_some, store_get ha, cond_false, Option.getD_none]
    exact it_tail hR (-2) _ _ _ fun r h => prv_lt ha h
  | some c =>
    have hcl := hc c rfl
    simp only [m_goquery_getChildrenWithSiblingType_1_0, show decide ((-2 : Int) = 0) = false from rfl, show decide ((-2 : Int) = 4) = false from rfl, show decide ((-2 : Int) = -1) = false from rfl, show decide ((-2 : Int) = -2) = true from rfl, cond_true, Option.isNone_some, bind_some, store_get hcl, cond_false, Option.getD_some]
    exact it_tail hR (-2) _ _ _ fun r h => prv_lt hcl h
theorem body_sib (hR : RT t) (p a : Nat) (hp : p < t.length) (ha : a < t.length) (r0 : Option Nat) (cur : Option Nat) (hc : ∀ c, cur = some c → c < t.length) :
    m_goquery_getChildrenWithSiblingType_1_0 (cur, (0 : Int), some p, some a, r0, store t) = finB t 0 (some p) (some a) (stS t p a cur) := by
  cases cur with
  | none =>
    simp only [m_goquery_getChildrenWithSiblingType_1_0, show decide ((0 : Int) = 0) = true from rfl, cond_true, Option.isNone_none, Option.isNone_some, bind_some, store_get hp, store_get ha, Bool.not_false]
    rw [it_tail hR 0 _ _ _ fun r h => nxt_lt h, it_tail hR 0 _ _ _ fun r h => fst_lt hR h]
    simp only [decide_true, cond_true, cond_dec]
    split
    · rename_i h; exact congrArg _ (if_pos (c := stK t p none = some a) h).symm
    · rename_i h; exact congrArg _ (if_neg (c := stK t p none = some a) h).symm
  | some c =>
    have hcl := hc c rfl
    simp only [m_goquery_getChildrenWithSiblingType_1_0, show decide ((0 : Int) = 0) = true from rfl, cond_true, Option.isNone_some, bind_some, store_get hcl, store_get ha, Bool.not_false, cond_false]
    rw [it_tail hR 0 _ _ _ fun r h => nxt_lt h, it_tail hR 0 _ _ _ fun r h => nxt_lt h]
    simp only [decide_true, cond_true, cond_dec]
    split
    · rename_i h; exact congrArg _ (if_pos (c := stK t p (some c) = some a) h).symm
    · rename_i h; exact congrArg _ (if_neg (c := stK t p (some c) = some a) h).symm
/-- One that will do. -/
def okN (t : List Node) (st : Int) (r : Nat) : Bool := decide (kindN t r = 3 ∨ st = 4)
theorem it_way (st : Int) (p s : Option Nat) (W : List Nat) (h : ∀ A C, W = A ++ C → m_goquery_getChildrenWithSiblingType_1_0 (A.getLast?, st, p, s, A.getLast?, store t) = finB t st p s C.head?)
    (hc : ∀ cur r0, m_goquery_getChildrenWithSiblingType_1_0 (cur, st, p, s, r0, store t) = m_goquery_getChildrenWithSiblingType_1_0 (cur, st, p, s, cur, store t)) :
    Way (fun cur => m_goquery_getChildrenWithSiblingType_1 (cur, st, p, s, store t)) (W.filter (okN t st)) := by
  refine way_of fun C A hw => ?_
  have := skip_loop (body := m_goquery_getChildrenWithSiblingType_1_0) (fun cur => ((cur, st, p, s, cur, store t) : ItX)) (fun r => (r, store t)) (okN t st) W (fun A C hw => by
    rw [h A C hw]
    cases C with
    | nil => rfl
    | cons r C =>
      simp only [List.head?_cons, finB, okN, decide_eq_true_eq]
      split <;> rfl) C A hw
  simp only [m_goquery_getChildrenWithSiblingType_1]
  rw [loopO_same (hc A.getLast? none), this, bind_some]
end
end Go.Proofs.Ytlgabeiaheoniaa.V
