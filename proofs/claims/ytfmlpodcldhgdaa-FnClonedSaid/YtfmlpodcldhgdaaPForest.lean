/-
  Forests: nodes with a parent and kids, and the store of nodes that tells them by pointers. Plain facts.
-/
import Derived.Test.YtfmlpodcldhgdaaPBase
set_option linter.unusedVariables false
set_option linter.unusedSimpArgs false
namespace Go.Proofs.Ytfmlpodcldhgdaa.V
open Go

/-! A list's next element -/
def nxtL : List Nat → Nat → Option Nat
  | [], _ => none
  | a :: l, c => if a = c then l.head? else nxtL l c
def prvL (l : List Nat) (c : Nat) : Option Nat := nxtL l.reverse c
section
variable {A B l : List Nat} {a b c j : Nat}
theorem nxtL_skip (h : j ∉ A) : nxtL (A ++ B) j = nxtL B j := by
  induction A with
  | nil => rfl
  | cons a A ih =>
    simp only [List.mem_cons, not_or] at h
    simp only [List.cons_append, nxtL, if_neg (Ne.symm h.1), ih h.2]
theorem nxtL_at (h : c ∉ A) : nxtL (A ++ c :: B) c = B.head? := by rw [nxtL_skip h]; simp [nxtL]
theorem nxtL_none (h : c ∉ l) : nxtL l c = none := by
  induction l with
  | nil => rfl
  | cons a l ih =>
    simp only [List.mem_cons, not_or] at h
    simp only [nxtL, if_neg (Ne.symm h.1), ih h.2]
/-- In front of the cut the next element stays, but for the last one. -/
theorem nxtL_front (h : j ∈ A) (hl : A.getLast? ≠ some j) : nxtL (A ++ B) j = nxtL A j := by
  induction A with
  | nil => cases h
  | cons a A ih =>
    cases A with
    | nil =>
      simp only [List.mem_singleton] at h
      subst h
      simp at hl
    | cons b A =>
      simp only [List.cons_append, nxtL]
      by_cases e : a = j
      · simp [e]
      · simp only [if_neg e]
        rcases List.mem_cons.1 h with h | h
        · exact absurd h.symm e
        · exact ih h (by simpa [List.getLast?_cons_cons] using hl)
theorem nxtL_last (hn : (A ++ [a]).Nodup) : nxtL (A ++ [a] ++ B) a = B.head? := by
  rw [List.append_assoc]
  refine nxtL_at fun h => ?_
  rw [List.nodup_append] at hn
  exact hn.2.2 a h a (by simp) rfl
theorem nxtL_back (h : j ∉ A) (hj : j ≠ c) : nxtL (A ++ c :: B) j = nxtL (A ++ B) j := by
  rw [nxtL_skip h, nxtL_skip h]
  simp [nxtL, Ne.symm hj]
theorem prvL_at (h : c ∉ B) : prvL (A ++ c :: B) c = A.getLast? := by
  unfold prvL
  rw [List.reverse_append, List.reverse_cons, List.append_assoc]
  rw [show [c] ++ A.reverse = c :: A.reverse from rfl, nxtL_at (by simpa using h)]
  simp
theorem prvL_front (h : j ∉ B) (hj : j ≠ c) : prvL (A ++ c :: B) j = prvL (A ++ B) j := by
  unfold prvL
  rw [List.reverse_append, List.reverse_cons, List.append_assoc, List.reverse_append]
  exact nxtL_back (by simpa using h) hj
theorem prvL_back (h : j ∈ B) (hl : B.head? ≠ some j) : prvL (A ++ B) j = prvL B j := by
  unfold prvL
  rw [List.reverse_append]
  exact nxtL_front (by simpa using h) (by simpa using hl)
theorem prvL_first (hn : (b :: B).Nodup) : prvL (A ++ b :: B) b = A.getLast? := prvL_at (List.nodup_cons.1 hn).1
theorem nxtL_mid (hj : j ∈ A) (hl : A.getLast? ≠ some j) : nxtL (A ++ c :: B) j = nxtL (A ++ B) j := by rw [nxtL_front hj hl, nxtL_front hj hl]
theorem prvL_mid (hj : j ∈ B) (hl : B.head? ≠ some j) : prvL (A ++ c :: B) j = prvL (A ++ B) j := by
  rw [show A ++ c :: B = (A ++ [c]) ++ B by simp, prvL_back hj hl, prvL_back hj hl]
end

/-! Tables -/
def tab {α : Type} (m : Nat) (f : Nat → α) : List α := (List.range m).map f
def upd {α : Type} (f : Nat → α) (i : Nat) (v : α) : Nat → α := fun j => if j = i then v else f j
section
variable {α : Type} {m i j : Nat} {f g : Nat → α} {v : α}
theorem tab_len : (tab m f).length = m := by simp [tab]
theorem tab_get (h : i < m) : (tab m f)[i]? = some (f i) := by simp [tab, h]
theorem tab_set (h : i < m) : (tab m f).set i v = tab m (upd f i v) := by
  apply List.ext_getElem?
  intro j
  by_cases e : i = j
  · subst e
    rw [List.getElem?_set_self (by rw [tab_len]; exact h), tab_get h]
    simp [upd]
  · rw [List.getElem?_set_ne e]
    by_cases hj : j < m
    · rw [tab_get hj, tab_get hj]; simp [upd, Ne.symm e]
    · rw [List.getElem?_eq_none (by rw [tab_len]; omega), List.getElem?_eq_none (by rw [tab_len]; omega)]
theorem tab_ext (h : ∀ i, i < m → f i = g i) : tab m f = tab m g := by
  unfold tab
  exact List.map_congr_left fun i hi => h i (by simpa using hi)
theorem tab_snoc : tab m f ++ [v] = tab (m + 1) (upd f m v) := by
  unfold tab
  rw [List.range_succ, List.map_append]
  have : (List.range m).map f = (List.range m).map (upd f m v) := List.map_congr_left fun i hi => by
    have : i ≠ m := by have := List.mem_range.1 hi; omega
    simp [upd, this]
  rw [this]
  simp [upd]
theorem upd_same : upd f i v i = v := by simp [upd]
theorem upd_ne (h : j ≠ i) : upd f i v j = f j := by simp [upd, h]
end

/-! Forests -/
structure Fo where
  m : Nat
  up : Nat → Option Nat
  kids : Nat → List Nat
def Fo.mk1 (F : Fo) (L : Nat → HN) (i : Nat) : HN :=
  ⟨F.up i, (F.kids i).head?, (F.kids i).getLast?, (F.up i).bind fun p => prvL (F.kids p) i, (F.up i).bind fun p => nxtL (F.kids p) i, (L i).ty, (L i).atom, (L i).data, (L i).ns, (L i).attrs⟩
def Fo.st (F : Fo) (L : Nat → HN) : List HN := tab F.m (F.mk1 L)
structure Fo.ok (F : Fo) : Prop where
  kid : ∀ {p c : Nat}, c ∈ F.kids p → F.up c = some p ∧ c < F.m
  up : ∀ {c p : Nat}, F.up c = some p → p < F.m ∧ c ∈ F.kids p
  nd : ∀ p, (F.kids p).Nodup
  irr : ∀ c, F.up c ≠ some c
def Fo.setK (F : Fo) (p : Nat) (l : List Nat) (c : Nat) (u : Option Nat) : Fo := ⟨F.m, fun i => if i = c then u else F.up i, fun i => if i = p then l else F.kids i⟩
section
variable {F G : Fo} {L : Nat → HN} {p c i j : Nat} {A B : List Nat}
theorem Fo.get (h : i < F.m) : (F.st L)[i]? = some (F.mk1 L i) := tab_get h
theorem Fo.ok.lt (h : F.ok) (hu : F.up c = some p) : c < F.m ∧ p < F.m := ⟨(h.kid (h.up hu).2).2, (h.up hu).1⟩
/-- A kid among its siblings, and without it. -/
structure Sp (F G : Fo) (p c : Nat) (A B : List Nat) : Prop where
  okF : F.ok
  hp : p < F.m
  hc : c < F.m
  u : F.up c = some p
  k : F.kids p = A ++ c :: B
  g : G = F.setK p (A ++ B) c none
theorem Sp.nd (h : Sp F G p c A B) : (A ++ c :: B).Nodup := h.k ▸ h.okF.nd p
theorem Sp.pc (h : Sp F G p c A B) : p ≠ c := fun e => h.okF.irr c (by rw [h.u, e])
theorem Sp.cA (h : Sp F G p c A B) : c ∉ A := fun hc => by
  have := h.nd
  rw [List.nodup_append] at this
  exact this.2.2 c hc c (by simp) rfl
theorem Sp.cB (h : Sp F G p c A B) : c ∉ B := by
  have := h.nd
  rw [List.nodup_append, List.nodup_cons] at this
  exact this.2.1.1
theorem Sp.nA (h : Sp F G p c A B) : A.Nodup := (List.nodup_append.1 h.nd).1
theorem Sp.nB (h : Sp F G p c A B) : B.Nodup := (List.nodup_cons.1 (List.nodup_append.1 h.nd).2.1).2
theorem Sp.AB (h : Sp F G p c A B) (hj : j ∈ A) : j ∉ B := fun hb => (List.nodup_append.1 h.nd).2.2 j hj j (by simp [hb]) rfl
theorem Sp.kid (h : Sp F G p c A B) (hj : j ∈ A ∨ j ∈ B) : F.up j = some p ∧ j < F.m ∧ j ≠ p ∧ j ≠ c := by
  have h1 : j ∈ F.kids p := by rw [h.k]; rcases hj with hj | hj <;> simp [hj]
  have h2 := h.okF.kid h1
  refine ⟨h2.1, h2.2, fun e => h.okF.irr j (by rw [h2.1, e]), fun e => ?_⟩
  subst e
  rcases hj with hj | hj
  · exact h.cA hj
  · exact h.cB hj
/-- Others are as they were. -/
theorem Sp.other (h : Sp F G p c A B) (hj : j ≠ c) (hp : j ≠ p) (ha : A.getLast? ≠ some j) (hb : B.head? ≠ some j) : G.mk1 L j = F.mk1 L j := by
  rw [h.g]
  simp only [Fo.mk1, Fo.setK, if_neg hj, if_neg hp]
  cases hu : F.up j with
  | none => rfl
  | some q =>
    simp only [Option.bind_some]
    by_cases e : q = p
    · subst e
      simp only [if_true]
      have hm := (h.okF.up hu).2
      rw [h.k]
      rw [h.k] at hm
      have hm2 : j ∈ A ∨ j ∈ B := by simpa [hj] using hm
      rcases hm2 with hm | hm
      · rw [nxtL_mid hm ha, prvL_front (h.AB hm) hj]
      · rw [prvL_mid hm hb, nxtL_back (fun ha => h.AB ha hm) hj]
    · simp only [if_neg e]
theorem Sp.at_c (h : Sp F G p c A B) : G.mk1 L c = ⟨none, (F.kids c).head?, (F.kids c).getLast?, none, none, (L c).ty, (L c).atom, (L c).data, (L c).ns, (L c).attrs⟩ := by
  rw [h.g]
  simp [Fo.mk1, Fo.setK, Ne.symm h.pc]
theorem Sp.f_c (h : Sp F G p c A B) : F.mk1 L c = ⟨some p, (F.kids c).head?, (F.kids c).getLast?, A.getLast?, B.head?, (L c).ty, (L c).atom, (L c).data, (L c).ns, (L c).attrs⟩ := by
  simp [Fo.mk1, h.u, h.k, nxtL_at h.cA, prvL_at h.cB]
theorem Sp.f_p (h : Sp F G p c A B) : (F.mk1 L p).fst = (A ++ [c]).head? ∧ (F.mk1 L p).lst = (c :: B).getLast? := by
  have e1 : F.kids p = (A ++ [c]) ++ B := by rw [h.k]; simp
  constructor
  · simp only [Fo.mk1, e1]
    cases A <;> rfl
  · simp only [Fo.mk1, h.k]
    rw [List.getLast?_append]
    cases hB : (c :: B).getLast? with
    | none => simp at hB
    | some x => rfl
theorem Sp.at_p (h : Sp F G p c A B) : G.mk1 L p = ⟨(F.mk1 L p).par, (A ++ B).head?, (A ++ B).getLast?, (F.mk1 L p).prv, (F.mk1 L p).nxt, (F.mk1 L p).ty, (F.mk1 L p).atom, (F.mk1 L p).data, (F.mk1 L p).ns, (F.mk1 L p).attrs⟩ := by
  rw [h.g]
  simp only [Fo.mk1, Fo.setK, if_neg h.pc, if_true]
  cases hu : F.up p with
  | none => rfl
  | some q =>
    have hq : q ≠ p := fun e => h.okF.irr p (by rw [hu, e])
    simp only [Option.bind_some, if_neg hq]
theorem Sp.at_a {A : List Nat} {a : Nat} (h : Sp F G p c (A ++ [a]) B) : G.mk1 L a = ⟨(F.mk1 L a).par, (F.mk1 L a).fst, (F.mk1 L a).lst, (F.mk1 L a).prv, B.head?, (F.mk1 L a).ty, (F.mk1 L a).atom, (F.mk1 L a).data, (F.mk1 L a).ns, (F.mk1 L a).attrs⟩ := by
  obtain ⟨hu, hm, hp, hc⟩ := h.kid (j := a) (.inl (by simp))
  rw [h.g]
  simp only [Fo.mk1, Fo.setK, if_neg hc, if_neg hp, hu, Option.bind_some, if_true, h.k]
  rw [nxtL_last h.nA, prvL_front (h.AB (by simp)) hc]
theorem Sp.at_b {B : List Nat} {b : Nat} (h : Sp F G p c A (b :: B)) : G.mk1 L b = ⟨(F.mk1 L b).par, (F.mk1 L b).fst, (F.mk1 L b).lst, A.getLast?, (F.mk1 L b).nxt, (F.mk1 L b).ty, (F.mk1 L b).atom, (F.mk1 L b).data, (F.mk1 L b).ns, (F.mk1 L b).attrs⟩ := by
  obtain ⟨hu, hm, hp, hc⟩ := h.kid (j := b) (.inr (by simp))
  rw [h.g]
  simp only [Fo.mk1, Fo.setK, if_neg hc, if_neg hp, hu, Option.bind_some, if_true, h.k]
  rw [prvL_first h.nB, nxtL_back (fun ha => h.AB ha (by simp)) hc]
theorem Sp.f_a {A : List Nat} {a : Nat} (h : Sp F G p c (A ++ [a]) B) : (F.mk1 L a).nxt = some c := by
  obtain ⟨hu, hm, hp, hc⟩ := h.kid (j := a) (.inl (by simp))
  simp only [Fo.mk1, hu, Option.bind_some, h.k]
  rw [nxtL_last h.nA]; rfl
theorem Sp.f_b {B : List Nat} {b : Nat} (h : Sp F G p c A (b :: B)) : (F.mk1 L b).prv = some c := by
  obtain ⟨hu, hm, hp, hc⟩ := h.kid (j := b) (.inr (by simp))
  simp only [Fo.mk1, hu, Option.bind_some, h.k]
  rw [show A ++ c :: b :: B = (A ++ [c]) ++ b :: B by simp, prvL_first h.nB]; simp
end
end Go.Proofs.Ytfmlpodcldhgdaa.V
