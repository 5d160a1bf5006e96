/-
  FnIsNth's model answers true. Plain facts.
-/
import Derived.Test.YtnggneccdekofaaPRc
import Derived.Test.YtnggneccdekofaaLwNth
namespace Go.Proofs.Ytnggneccdekofaa.V
open Go

section
variable {t : List Node} {a p j c : Nat} {v w : Node}
theorem body1 (hR : RT t) (hv : t[a]? = some v) (h3 : v.kind = 3) (hw : t[c]? = some w) (ty : Bool) (b n : Int) :
    m_cascadia_simpleNthChildMatch_0 (b, ty, some a, n, some c, store t) = some (if hitK t a ty c = true then (if c = a then .out (.inr (decide (IntKind.wrap .i64 (n + 1) = b), store t)) else if b ≤ IntKind.wrap .i64 (n + 1) then .out (.inr (false, store t)) else .nx (b, ty, some a, IntKind.wrap .i64 (n + 1), (rc t 0 t.length c).nxt, store t)) else .nx (b, ty, some a, n, (rc t 0 t.length c).nxt, store t)) := by
  have ha := (List.getElem?_eq_some_iff.1 hv).1
  have hc := (List.getElem?_eq_some_iff.1 hw).1
  rw [hit_eq hR hv h3 hw ty (e := t.length)]
  simp only [m_cascadia_simpleNthChildMatch_0, Option.isNone_some, Bool.not_false, cond_true, bind_some, store_get hc, store_get ha, cond_dec]
  by_cases q3 : (rc t 0 t.length c).ty = 3
  · by_cases qd : (rc t 0 t.length c).data = (rc t 0 t.length a).data <;> by_cases ca : c = a <;> by_cases hb : b ≤ IntKind.wrap .i64 (n + 1) <;> cases ty <;> simp_all <;> (split <;> rfl)
  · simp [q3]
theorem body2 (hR : RT t) (hv : t[a]? = some v) (h3 : v.kind = 3) (hw : t[c]? = some w) (ty : Bool) (b n : Int) :
    m_cascadia_simpleNthLastChildMatch_0 (b, ty, some a, n, some c, store t) = some (if hitK t a ty c = true then (if c = a then .out (.inr (decide (IntKind.wrap .i64 (n + 1) = b), store t)) else if b ≤ IntKind.wrap .i64 (n + 1) then .out (.inr (false, store t)) else .nx (b, ty, some a, IntKind.wrap .i64 (n + 1), (rc t 0 t.length c).prv, store t)) else .nx (b, ty, some a, n, (rc t 0 t.length c).prv, store t)) := by
  have ha := (List.getElem?_eq_some_iff.1 hv).1
  have hc := (List.getElem?_eq_some_iff.1 hw).1
  rw [hit_eq hR hv h3 hw ty (e := t.length)]
  simp only [m_cascadia_simpleNthLastChildMatch_0, Option.isNone_some, Bool.not_false, cond_true, bind_some, store_get hc, store_get ha, cond_dec]
  by_cases q3 : (rc t 0 t.length c).ty = 3
  · by_cases qd : (rc t 0 t.length c).data = (rc t 0 t.length a).data <;> by_cases ca : c = a <;> by_cases hb : b ≤ IntKind.wrap .i64 (n + 1) <;> cases ty <;> simp_all <;> (split <;> rfl)
  · simp [q3]
theorem body3 (hR : RT t) (hv : t[a]? = some v) (h3 : v.kind = 3) (hw : t[c]? = some w) (la ty : Bool) (A B i n : Int) :
    m_cascadia_nthChildMatch_0 (A, B, la, ty, some a, i, n, some c, store t) = some (if hitK t a ty c = true then (if c = a then (if la = true then .nx (A, B, la, ty, some a, IntKind.wrap .i64 (n + 1), IntKind.wrap .i64 (n + 1), (rc t 0 t.length c).nxt, store t) else .out (A, B, la, IntKind.wrap .i64 (n + 1), IntKind.wrap .i64 (n + 1), store t)) else .nx (A, B, la, ty, some a, i, IntKind.wrap .i64 (n + 1), (rc t 0 t.length c).nxt, store t)) else .nx (A, B, la, ty, some a, i, n, (rc t 0 t.length c).nxt, store t)) := by
  have ha := (List.getElem?_eq_some_iff.1 hv).1
  have hc := (List.getElem?_eq_some_iff.1 hw).1
  rw [hit_eq hR hv h3 hw ty (e := t.length)]
  simp only [m_cascadia_nthChildMatch_0, Option.isNone_some, Bool.not_false, cond_true, bind_some, store_get hc, store_get ha, cond_dec]
  by_cases q3 : (rc t 0 t.length c).ty = 3
  · by_cases qd : (rc t 0 t.length c).data = (rc t 0 t.length a).data <;> by_cases ca : c = a <;> cases la <;> cases ty <;> simp_all
  · simp [q3]
/-- What is known where an element stands among its parent's kids. -/
structure At (t : List Node) (a p j : Nat) (v : Node) : Prop where
  R : RT t
  hv : t[a]? = some v
  h3 : v.kind = 3
  hp : par t a = some p
  hj : (kidsN t p)[j]? = some a
theorem At.lt (h : At t a p j v) : p < a ∧ a < t.length := ⟨(par_some h.hp).1, (List.getElem?_eq_some_iff.1 h.hv).1⟩
theorem At.L (h : At t a p j v) : Lam t p (p + sz t p) := h.R.lam.sub (Nat.zero_le _) (by have := h.lt; omega)
theorem At.e (h : At t a p j v) : p + sz t p ≤ t.length := by
  obtain ⟨_, _, _, _, h5⟩ := h.R.lam.ok p (Nat.zero_le _) (by have := h.lt; omega)
  exact h5
theorem At.len (h : At t a p j v) : (kidsN t p).length ≤ 200 := by
  have h2 := kidsF_len (t := t) (f := sz t p) (k := p + 1) (hi := p + sz t p)
  have := h.e
  have := h.R.len
  unfold kidsN
  omega
theorem At.get (h : At t a p j v) {k c : Nat} (hc : (kidsN t p)[k]? = some c) : ∃ w, t[c]? = some w := by
  have := kids_mem h.R.lam (Nat.zero_le _) (by have := h.lt; omega) (List.mem_of_getElem? hc)
  have := h.e
  exact get_lt (by omega)
theorem At.ne (h : At t a p j v) {k c : Nat} (hc : (kidsN t p)[k]? = some c) : c = a ↔ k = j := by
  constructor
  · rintro rfl
    rcases Nat.lt_trichotomy k j with g | g | g
    · have := kids_get_lt h.L g hc h.hj; omega
    · exact g
    · have := kids_get_lt h.L g h.hj hc; omega
  · rintro rfl
    have := h.hj
    rw [hc] at this
    cases this
    rfl
theorem At.self (h : At t a p j v) (ty : Bool) : hitK t a ty a = true := hit_self ty (by rw [kind_some h.hv]; exact h.h3)
theorem At.F (h : At t a p j v) (ty : Bool) : cF t a ty p (j + 1) = cF t a ty p j + 1 := by rw [cF_succ h.hj, h.self ty, if_pos rfl]
theorem At.La (h : At t a p j v) (ty : Bool) : cL t a ty p j = cL t a ty p (j + 1) + 1 := by rw [cL_succ h.hj, h.self ty, if_pos rfl]
theorem At.head (h : At t a p j v) : (rc t 0 t.length a).ty = 3 ∧ (rc t 0 t.length a).par = some p := by
  refine ⟨(rc_kind h.R h.hv).2 h.h3, ?_⟩
  have := h.lt
  simp only [rc]
  rw [if_neg (by omega), h.hp]
theorem simpleNth_eq (h : At t a p j v) (b : Int) (ty : Bool) : m_cascadia_simpleNthChildMatch (b, ty, some a, store t) = some (decide ((cF t a ty p (j + 1) : Int) = b)) := by
  have hl := h.lt
  have hlen := h.len
  simp only [m_cascadia_simpleNthChildMatch, bind_some, store_get hl.2, cond_dec, h.head.1, h.head.2, Option.isNone_some, cond_false, store_get (show p < t.length by omega), kid_fst h.L h.e]
  rw [if_neg (by simp)]
  have key : ∀ m k, j - k = m → k ≤ j → loopO m_cascadia_simpleNthChildMatch_0 (b, ty, some a, (cF t a ty p k : Int), (kidsN t p)[k]?, store t) = some (.inr (decide ((cF t a ty p (j + 1) : Int) = b), store t)) := by
    intro m
    induction m with
    | zero =>
      intro k hm hk
      have : k = j := by omega
      subst this
      have hF := cF_le t a ty p k
      rw [h.hj]
      refine loopO_out ?_
      rw [body1 h.R h.hv h.h3 h.hv, if_pos (h.self ty), if_pos rfl, w64 (by omega) (by omega), h.F ty]
      rfl
    | succ m ih =>
      intro k hm hk
      have hF := cF_le t a ty p k
      obtain ⟨c, hc⟩ := get_lt (l := kidsN t p) (k := k) (by have := (List.getElem?_eq_some_iff.1 h.hj).1; omega)
      obtain ⟨w, hw⟩ := h.get hc
      have hca : ¬ c = a := fun e => by have := (h.ne hc).1 e; omega
      rw [hc]
      have hs := cF_succ (a := a) (ty := ty) hc
      have hb := body1 h.R h.hv h.h3 hw ty b (cF t a ty p k : Int)
      rw [kid_nxt h.L h.e hc] at hb
      cases hh : hitK t a ty c with
      | false =>
        rw [hh, if_neg (by simp)] at hs hb
        have hi := ih (k + 1) (by omega) (by omega)
        rw [show cF t a ty p (k + 1) = cF t a ty p k from hs] at hi
        rw [loopO_nx hb, hi]
      | true =>
        rw [hh, if_pos rfl] at hs hb
        rw [if_neg hca, w64 (by omega) (by omega)] at hb
        by_cases hle : b ≤ (cF t a ty p k : Int) + 1
        · rw [if_pos hle] at hb
          rw [loopO_out hb]
          have hmo := cF_mono (t := t) (a := a) (ty := ty) (p := p) (show k + 1 ≤ j by omega)
          have := h.F ty
          rw [decide_eq_false (by omega)]
        · rw [if_neg hle] at hb
          rw [loopO_nx hb, ← ih (k + 1) (by omega) (by omega), hs]
          rfl
  have hk := key j 0 (by omega) (Nat.zero_le _)
  rw [cF_zero] at hk
  rw [show loopO m_cascadia_simpleNthChildMatch_0 (b, ty, some a, (0 : Int), (kidsN t p)[0]?, store t) = _ from hk, bind_some, selim_r]
theorem cL_mono {ty : Bool} {k l : Nat} (h : k ≤ l) : cL t a ty p l ≤ cL t a ty p k := by
  have h1 := cF_cL t a ty p k
  have h2 := cF_cL t a ty p l
  have h3 := cF_mono (t := t) (a := a) (ty := ty) (p := p) h
  omega
theorem simpleLast_eq (h : At t a p j v) (b : Int) (ty : Bool) : m_cascadia_simpleNthLastChildMatch (b, ty, some a, store t) = some (decide ((cL t a ty p j : Int) = b)) := by
  have hl := h.lt
  have hlen := h.len
  have hjl := (List.getElem?_eq_some_iff.1 h.hj).1
  simp only [m_cascadia_simpleNthLastChildMatch, bind_some, store_get hl.2, cond_dec, h.head.1, h.head.2, Option.isNone_some, cond_false, store_get (show p < t.length by omega), kid_lst h.L h.e]
  rw [if_neg (by simp)]
  have key : ∀ m k, k - j = m → j ≤ k → k < (kidsN t p).length → loopO m_cascadia_simpleNthLastChildMatch_0 (b, ty, some a, (cL t a ty p (k + 1) : Int), (kidsN t p)[k]?, store t) = some (.inr (decide ((cL t a ty p j : Int) = b), store t)) := by
    intro m
    induction m with
    | zero =>
      intro k hm hk hkl
      have : k = j := by omega
      subst this
      have hF := cL_le t a ty p (k + 1)
      rw [h.hj]
      refine loopO_out ?_
      rw [body2 h.R h.hv h.h3 h.hv, if_pos (h.self ty), if_pos rfl, w64 (by omega) (by omega), h.La ty]
      rfl
    | succ m ih =>
      intro k hm hk hkl
      have hF := cL_le t a ty p (k + 1)
      obtain ⟨c, hc⟩ := get_lt (l := kidsN t p) (k := k) (by omega)
      obtain ⟨w, hw⟩ := h.get hc
      have hca : ¬ c = a := fun e => by have := (h.ne hc).1 e; omega
      rw [hc]
      have hs := cL_succ (a := a) (ty := ty) hc
      have hb := body2 h.R h.hv h.h3 hw ty b (cL t a ty p (k + 1) : Int)
      rw [kid_prv h.L hc, if_neg (show ¬ k = 0 by omega)] at hb
      have hih := ih (k - 1) (by omega) (by omega) (by omega)
      rw [show k - 1 + 1 = k by omega] at hih
      cases hh : hitK t a ty c with
      | false =>
        rw [hh, if_neg (by simp)] at hs hb
        rw [show cL t a ty p k = cL t a ty p (k + 1) from hs] at hih
        rw [loopO_nx hb, hih]
      | true =>
        rw [hh, if_pos rfl] at hs hb
        rw [if_neg hca, w64 (by omega) (by omega)] at hb
        by_cases hle : b ≤ (cL t a ty p (k + 1) : Int) + 1
        · rw [if_pos hle] at hb
          rw [loopO_out hb]
          have hmo := cL_mono (t := t) (a := a) (ty := ty) (p := p) (show j + 1 ≤ k by omega)
          have := h.La ty
          rw [decide_eq_false (by omega)]
        · rw [if_neg hle] at hb
          rw [loopO_nx hb, ← hih, hs]
          rfl
  have hk := key _ ((kidsN t p).length - 1) rfl (by omega) (by omega)
  rw [show (kidsN t p).length - 1 + 1 = (kidsN t p).length by omega, cL_end (Nat.le_refl _)] at hk
  rw [show loopO m_cascadia_simpleNthLastChildMatch_0 (b, ty, some a, (0 : Int), (kidsN t p)[(kidsN t p).length - 1]?, store t) = _ from hk, bind_some, selim_r]
theorem loop3 (h : At t a p j v) (A B : Int) (la ty : Bool) : loopO m_cascadia_nthChildMatch_0 (A, B, la, ty, some a, (-1 : Int), (0 : Int), (kidsN t p)[0]?, store t) = some (A, B, la, (cF t a ty p (j + 1) : Int), (if la = true then (cF t a ty p (kidsN t p).length : Int) else (cF t a ty p (j + 1) : Int)), store t) := by
  have hlen := h.len
  have hjl := (List.getElem?_eq_some_iff.1 h.hj).1
  have key : ∀ m k, (kidsN t p).length - k = m → k ≤ (kidsN t p).length → (la = false → k ≤ j) → loopO m_cascadia_nthChildMatch_0 (A, B, la, ty, some a, (if k ≤ j then (-1 : Int) else (cF t a ty p (j + 1) : Int)), (cF t a ty p k : Int), (kidsN t p)[k]?, store t) = some (A, B, la, (cF t a ty p (j + 1) : Int), (if la = true then (cF t a ty p (kidsN t p).length : Int) else (cF t a ty p (j + 1) : Int)), store t) := by
    intro m
    induction m with
    | zero =>
      intro k hm hk hla
      have : k = (kidsN t p).length := by omega
      subst this
      have : la = true := by
        cases la with
        | true => rfl
        | false => have := hla rfl; omega
      subst this
      rw [List.getElem?_eq_none (Nat.le_refl _), if_neg (by omega)]
      exact loopO_out rfl
    | succ m ih =>
      intro k hm hk hla
      have hF := cF_le t a ty p k
      obtain ⟨c, hc⟩ := get_lt (l := kidsN t p) (k := k) (by omega)
      obtain ⟨w, hw⟩ := h.get hc
      rw [hc]
      have hs := cF_succ (a := a) (ty := ty) hc
      obtain ⟨I, hI⟩ : ∃ I : Int, I = if k ≤ j then (-1 : Int) else (cF t a ty p (j + 1) : Int) := ⟨_, rfl⟩
      rw [← hI]
      have hb := body3 h.R h.hv h.h3 hw la ty A B I (cF t a ty p k : Int)
      rw [kid_nxt h.L h.e hc, w64 (n := (cF t a ty p k : Int) + 1) (by omega) (by omega)] at hb
      by_cases hca : c = a
      · have hkj := (h.ne hc).1 hca
        subst hkj
        subst hca
        rw [h.self ty] at hb
        rw [if_pos rfl, if_pos rfl] at hb
        have hF1 := h.F ty
        cases la with
        | false =>
          rw [if_neg (by simp)] at hb
          rw [loopO_out hb, hF1]
          rfl
        | true =>
          rw [if_pos rfl] at hb
          have hi := ih (k + 1) (by omega) (by omega) (fun h => by cases h)
          rw [if_neg (by omega), hF1] at hi
          rw [loopO_nx hb, hF1, ← hi]
          rfl
      · have hkj : k ≠ j := fun e => hca ((h.ne hc).2 e)
        rw [if_neg hca] at hb
        have hi := ih (k + 1) (by omega) (by omega) (fun e => by have := hla e; omega)
        rw [show (if k + 1 ≤ j then (-1 : Int) else (cF t a ty p (j + 1) : Int)) = I by rw [hI]; split <;> split <;> omega] at hi
        cases hh : hitK t a ty c with
        | false =>
          rw [hh, if_neg (by simp)] at hs hb
          rw [show cF t a ty p (k + 1) = cF t a ty p k from hs] at hi
          rw [loopO_nx hb, hi]
        | true =>
          rw [hh, if_pos rfl] at hs hb
          rw [hs] at hi
          rw [loopO_nx hb, ← hi]
          rfl
  have hk := key _ 0 rfl (Nat.zero_le _) (fun _ => Nat.zero_le _)
  rw [if_pos (Nat.zero_le _), cF_zero] at hk
  exact hk
end
end Go.Proofs.Ytnggneccdekofaa.V
