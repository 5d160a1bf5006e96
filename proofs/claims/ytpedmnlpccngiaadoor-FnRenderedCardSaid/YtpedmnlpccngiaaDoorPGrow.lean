/-
  What the thin package makes of a right tree: its nodes, linked. Plain facts.
-/
import Derived.Test.YtpedmnlpccngiaaDoorPRight
import Derived.Test.YtpedmnlpccngiaaDoorImplA
set_option linter.unusedVariables false
set_option linter.unusedSimpArgs false
namespace Go.Proofs.YtpedmnlpccngiaaDoor.V
open Go

def hattr (a : Attr) : HAttr := ⟨[], a.key, a.val⟩
/-- A node without relatives. -/
def base (v : Node) : HN :=
  if v.kind = 1 then ⟨none, none, none, none, none, 2, 0, [], [], []⟩
  else if v.kind = 2 then ⟨none, none, none, none, none, 5, 0, v.text, [], []⟩
  else if v.kind = 4 then ⟨none, none, none, none, none, 1, 0, v.text, [], []⟩
  else if v.kind = 5 then ⟨none, none, none, none, none, 4, 0, v.text, [], []⟩
  else ⟨none, none, none, none, none, 3, 0, v.tag, [], v.attrs.map hattr⟩
theorem alone_eq (v : Node) (hs : List HN) (ha : v.attrs.length ≤ 2147483647) : m_impl_alone (v, hs) = some (some hs.length, hs ++ [base v]) := by
  simp only [m_impl_alone, cond_dec, base]
  split
  · rfl
  split
  · rfl
  split
  · rfl
  split
  · rfl
  have key : ∀ m k, v.attrs.length - k = m → k ≤ v.attrs.length → loopO m_impl_alone_0 (some hs.length, v.attrs, (v.attrs.length : Int), (k : Int), hs ++ [⟨none, none, none, none, none, 3, 0, v.tag, [], (v.attrs.take k).map hattr⟩]) = some (some hs.length, hs ++ [⟨none, none, none, none, none, 3, 0, v.tag, [], v.attrs.map hattr⟩]) := by
    intro m
    induction m with
    | zero =>
      intro k hm hk
      refine loopO_out ?_
      simp only [m_impl_alone_0, cond_dec]
      rw [if_neg (by omega), List.take_of_length_le (by omega)]
    | succ m ih =>
      intro k hm hk
      obtain ⟨a, hA⟩ := get_lt (l := v.attrs) (k := k) (by omega)
      have hg : ∀ e : HN, (hs ++ [e])[hs.length]? = some e := fun e => by simp
      have step : m_impl_alone_0 (some hs.length, v.attrs, (v.attrs.length : Int), (k : Int), hs ++ [⟨none, none, none, none, none, 3, 0, v.tag, [], (v.attrs.take k).map hattr⟩]) = some (.nx (some hs.length, v.attrs, (v.attrs.length : Int), ((k + 1 : Nat) : Int), hs ++ [⟨none, none, none, none, none, 3, 0, v.tag, [], (v.attrs.take (k + 1)).map hattr⟩])) := by
        simp only [m_impl_alone_0, cond_dec, atI_nat]
        rw [if_pos (by omega), hA]
        simp only [bind_some, hg]
        rw [appL_some (by simp; omega)]
        simp only [bind_some, hg, if_true]
        rw [w64 (by omega) (by omega), List.set_append_right _ _ (Nat.le_refl _)]
        have e2 : v.attrs.take (k + 1) = v.attrs.take k ++ [a] := by rw [List.take_add_one, hA]; rfl
        rw [e2]
        simp [hattr, HN.wa]
      rw [loopO_nx step]
      exact ih (k + 1) (by omega) (by omega)
  have h := key v.attrs.length 0 (by omega) (Nat.zero_le _)
  have h' : loopO m_impl_alone_0 (some hs.length, v.attrs, (v.attrs.length : Int), (0 : Int), hs ++ [⟨none, none, none, none, none, 3, 0, v.tag, [], []⟩]) = _ := h
  rw [h', bind_some]

theorem append_none {S : List HN} {p c : Nat} {hp hc : HN} (hne : p ≠ c) (h1 : S[p]? = some hp) (h2 : S[c]? = some hc) (g1 : hc.par = none) (g2 : hc.prv = none) (g3 : hc.nxt = none) (g4 : hp.lst = none) :
    m_html_Node_AppendChild (some p, some c, S) = some ((S.set p { hp with fst := some c, lst := some c }).set c { hc with par := some p, prv := none }) := by
  obtain ⟨hlp, e1⟩ := List.getElem?_eq_some_iff.1 h1
  obtain ⟨hlc, e2⟩ := List.getElem?_eq_some_iff.1 h2
  simp only [m_html_Node_AppendChild, bind_some, h1, h2, g1, g2, g3, g4, Option.isNone_none, Bool.not_true, cond_false]
  simp [List.getElem?_set, hlp, hlc, hne, hne.symm, h2, List.set_set, g4, e1, e2, g1, g2, g3]
theorem append_some {S : List HN} {p c l : Nat} {hp hc hl : HN} (hne : p ≠ c) (hlp' : l ≠ p) (hlc' : l ≠ c) (h1 : S[p]? = some hp) (h2 : S[c]? = some hc) (h3 : S[l]? = some hl) (g1 : hc.par = none) (g2 : hc.prv = none) (g3 : hc.nxt = none) (g4 : hp.lst = some l) :
    m_html_Node_AppendChild (some p, some c, S) = some (((S.set l { hl with nxt := some c }).set p { hp with lst := some c }).set c { hc with par := some p, prv := some l }) := by
  obtain ⟨hlp, e1⟩ := List.getElem?_eq_some_iff.1 h1
  obtain ⟨hlc, e2⟩ := List.getElem?_eq_some_iff.1 h2
  obtain ⟨hll, e3⟩ := List.getElem?_eq_some_iff.1 h3
  simp only [m_html_Node_AppendChild, bind_some, h1, h2, g1, g2, g3, g4, Option.isNone_none, Bool.not_true, cond_false, Option.isNone_some, Bool.not_false, cond_true, h3]
  simp [List.getElem?_set, hlp, hlc, hll, hne, hne.symm, hlp', hlp'.symm, hlc', hlc'.symm, h1, h2, h3, List.set_set, g4, e1, e2, e3, g1, g2, g3]

/-! how the nodes stand to each other -/
def lastF (t : List Node) (p : Nat) : Nat → Option Nat
  | 0 => none
  | e + 1 => if par t e = some p then some e else lastF t p e
theorem lastF_some {t : List Node} {p c : Nat} : ∀ {e : Nat}, lastF t p e = some c → c < e ∧ par t c = some p ∧ ∀ c', c < c' → c' < e → par t c' ≠ some p
  | 0, h => by cases h
  | e + 1, h => by
    simp only [lastF] at h
    split at h
    · cases h
      exact ⟨by omega, by assumption, fun c' h1 h2 => by omega⟩
    · rename_i hn
      obtain ⟨h1, h2, h3⟩ := lastF_some h
      refine ⟨by omega, h2, fun c' g1 g2 => ?_⟩
      by_cases e' : c' = e
      · subst e'; exact hn
      · exact h3 c' g1 (by omega)
theorem lastF_none {t : List Node} {p : Nat} : ∀ {e : Nat}, lastF t p e = none → ∀ c, c < e → par t c ≠ some p
  | 0, _, c, hc => by omega
  | e + 1, h, c, hc => by
    simp only [lastF] at h
    split at h
    · cases h
    · rename_i hn
      by_cases e' : c = e
      · subst e'; exact hn
      · exact lastF_none h c (by omega)
theorem lastF_skip {t : List Node} {p e : Nat} : ∀ {e' : Nat}, e ≤ e' → (∀ c, e ≤ c → c < e' → par t c ≠ some p) → lastF t p e' = lastF t p e
  | 0, h, _ => by have : e = 0 := by omega
                  subst this; rfl
  | e' + 1, h, hc => by
    by_cases h2 : e = e' + 1
    · subst h2; rfl
    · simp only [lastF]
      rw [if_neg (hc e' (by omega) (by omega))]
      exact lastF_skip (by omega) fun c g1 g2 => hc c g1 (by omega)
theorem lastF_mk {t : List Node} {p c : Nat} {e : Nat} (h1 : c < e) (h2 : par t c = some p) (h3 : ∀ c', c < c' → c' < e → par t c' ≠ some p) : lastF t p e = some c := by
  rw [lastF_skip (e := c + 1) (by omega) fun c' g1 g2 => h3 c' (by omega) g2]
  simp [lastF, h2]
def nxtF (t : List Node) (i e : Nat) : Option Nat := match par t i with
  | some p => if i + sz t i < e ∧ i + sz t i < p + sz t p then some (i + sz t i) else none
  | none => none
def prvF (t : List Node) (i : Nat) : Option Nat := match par t i with
  | some p => lastF t p i
  | none => none
def bs0 (t : List Node) (i : Nat) : HN := match t[i]? with
  | some v => base v
  | none => base ⟨0, [], [], [], 0⟩
/-- A node, when the tree that begins at a is made as far as e. -/
def rc (t : List Node) (a e i : Nat) : HN :=
  ⟨if i = a then none else par t i, if i + 1 < e ∧ 1 < sz t i then some (i + 1) else none, lastF t i e, if i = a then none else prvF t i, if i = a then none else nxtF t i e, (bs0 t i).ty, (bs0 t i).atom, (bs0 t i).data, (bs0 t i).ns, (bs0 t i).attrs⟩
def fillL (l : List (Option Nat)) (a e : Nat) : List (Option Nat) := l.mapIdx fun i x => if a ≤ i ∧ i < e then some i else x
theorem fillL_get {l : List (Option Nat)} {a e i : Nat} : (fillL l a e)[i]? = (l[i]?).map fun x => if a ≤ i ∧ i < e then some i else x := by simp [fillL, List.getElem?_mapIdx]
theorem fillL_len {l : List (Option Nat)} {a e : Nat} : (fillL l a e).length = l.length := by simp [fillL]
def stp (t : List Node) (a e : Nat) : List HN := (List.range' a (e - a)).map (rc t a e)
theorem stp_len {t : List Node} {a e : Nat} : (stp t a e).length = e - a := by simp [stp]
theorem stp_get {t : List Node} {a e i : Nat} (h : i < e - a) : (stp t a e)[i]? = some (rc t a e (a + i)) := by
  unfold stp
  rw [List.getElem?_map, List.getElem?_range' h]
  simp
theorem app_get {hs : List HN} {t : List Node} {a e i : Nat} (hl : hs.length = a) (h1 : a ≤ i) (h2 : i < e) : (hs ++ stp t a e)[i]? = some (rc t a e i) := by
  rw [List.getElem?_append_right (by omega), stp_get (by omega)]
  congr 2
  omega
section
variable {t : List Node} {a k l i : Nat}
/-- Up to k the kids of a stand whole. -/
def Ch (t : List Node) (a k : Nat) : Prop := ∀ q, a < q → q < k → q + sz t q ≤ k
theorem Ch.par (h : Ch t a k) (h1 : a < k) (h2 : k < a + sz t a) : par t k = some a := par_mk h1 h2 fun q g1 g2 => by have := h q g1 g2; omega
theorem Ch.of_par (h : V.par t k = some a) : Ch t a k := fun q g1 g2 => by have := (par_some h).2.2 q g1 g2; omega
theorem Ch.next (hL : Lam t a (a + sz t a)) (h : Ch t a k) (h1 : a < k) (h2 : k < a + sz t a) : Ch t a (k + sz t k) := fun q g1 g2 => by
  obtain ⟨v, _, _, hk, _⟩ := hL.ok k (by omega) h2
  by_cases e : q < k
  · have := h q g1 e; omega
  · by_cases e2 : q = k
    · subst e2; omega
    · exact hL.nest k q (by omega) h2 (by omega) g2
theorem par_in (hL : Lam t a (a + sz t a)) (h1 : a < i) (h2 : i < a + sz t a) : ∃ p, par t i = some p ∧ a ≤ p ∧ p < i := by
  cases h : par t i with
  | none => have := parF_none h a h1; omega
  | some p =>
    obtain ⟨g1, g2, g3⟩ := par_some h
    refine ⟨p, rfl, ?_, g1⟩
    rcases Nat.lt_or_ge p a with h4 | h4
    · exact absurd (by omega) (g3 a h4 h1)
    · exact h4
/-- The last kid ends where the next one begins. -/
theorem last_end (hL : Lam t a (a + sz t a)) (h : Ch t a k) (h2 : k ≤ a + sz t a) (hl : lastF t a k = some l) : a < l ∧ l < k ∧ l + sz t l = k := by
  obtain ⟨g1, g2, g3⟩ := lastF_some hl
  obtain ⟨g4, g5, _⟩ := par_some g2
  refine ⟨g4, g1, ?_⟩
  have h3 := h l g4 g1
  rcases Nat.lt_or_ge (l + sz t l) k with h4 | h4
  · obtain ⟨v, _, _, hk, _⟩ := hL.ok l (by omega) g5
    have hc := (Ch.of_par g2).next hL g4 g5
    exact absurd (hc.par (by omega) (by omega)) (g3 _ (by omega) h4)
  · omega
theorem last_none (hL : Lam t a (a + sz t a)) (h1 : a < k) (h2 : k ≤ a + sz t a) (hl : lastF t a k = none) : k = a + 1 := by
  rcases Nat.lt_or_ge (a + 1) k with h4 | h4
  · have hc : Ch t a (a + 1) := fun q g1 g2 => by omega
    exact absurd (hc.par (by omega) (by omega)) (lastF_none hl _ h4)
  · omega
theorem rc_in (hL : Lam t a (a + sz t a)) (hC : Ch t a k) (h1 : a < k) (h2 : k < a + sz t a) (hi : a < i) (hik : i < k) (hl : lastF t a k ≠ some i) : rc t a (k + sz t k) i = rc t a k i := by
  have hi2 := hC i hi hik
  obtain ⟨v, _, _, hk, _⟩ := hL.ok k (by omega) h2
  unfold rc
  have e1 : lastF t i (k + sz t k) = lastF t i k := lastF_skip (by omega) fun c g1 g2 e => by
    have := (par_some e).2.1; omega
  have e2 : (i + 1 < k + sz t k ∧ 1 < sz t i) = (i + 1 < k ∧ 1 < sz t i) := by
    apply propext
    constructor
    · rintro ⟨_, g⟩; exact ⟨by omega, g⟩
    · rintro ⟨g0, g⟩; exact ⟨by omega, g⟩
  have e3 : nxtF t i (k + sz t k) = nxtF t i k := by
    unfold nxtF
    obtain ⟨p, hp, hp1, hp2⟩ := par_in hL hi (by omega)
    rw [hp]
    simp only
    have : (i + sz t i < k + sz t k ∧ i + sz t i < p + sz t p) = (i + sz t i < k ∧ i + sz t i < p + sz t p) := by
      apply propext
      constructor
      · rintro ⟨_, g⟩
        refine ⟨?_, g⟩
        rcases Nat.lt_or_ge (i + sz t i) k with h4 | h4
        · exact h4
        · exfalso
          have hik2 : i + sz t i = k := by omega
          have hpa : p = a := by
            rcases Nat.lt_or_ge a p with h5 | h5
            · have := hC p h5 (by omega); omega
            · omega
          subst hpa
          refine hl (lastF_mk hik hp fun c' g1 g2 e => ?_)
          exact (par_some e).2.2 i (by omega) g1 (by omega)
      · rintro ⟨g0, g⟩; exact ⟨by omega, g⟩
    simp only [this]
  rw [e1, e3]
  simp only [e2]
end
/-- One kid more. -/
theorem link_eq {t : List Node} {a k : Nat} {hs : List HN} (hhs : hs.length = a) (hL : Lam t a (a + sz t a)) (hC : Ch t a k) (h1 : a < k) (h2 : k < a + sz t a) :
    m_html_Node_AppendChild (some a, some k, (hs ++ stp t a k) ++ stp t k (k + sz t k)) = some (hs ++ stp t a (k + sz t k)) := by
  obtain ⟨v, hv, hvs, hk1, hk2⟩ := hL.ok k (by omega) h2
  have hkl : (hs ++ stp t a k).length = k := by rw [List.length_append, stp_len]; omega
  have gk : ∀ i, k ≤ i → i < k + sz t k → ((hs ++ stp t a k) ++ stp t k (k + sz t k))[i]? = some (rc t k (k + sz t k) i) := fun i g1 g2 => app_get hkl g1 g2
  have ga : ∀ i, a ≤ i → i < k → ((hs ++ stp t a k) ++ stp t k (k + sz t k))[i]? = some (rc t a k i) := fun i g1 g2 => by
    rw [List.getElem?_append_left (by omega)]; exact app_get hhs g1 g2
  have gh : ∀ i, i < a → ((hs ++ stp t a k) ++ stp t k (k + sz t k))[i]? = hs[i]? := fun i g => by
    rw [List.getElem?_append_left (by omega), List.getElem?_append_left (by omega)]
  have go : ∀ i, k + sz t k ≤ i → ((hs ++ stp t a k) ++ stp t k (k + sz t k))[i]? = none := fun i g => List.getElem?_eq_none (by rw [List.length_append, hkl, stp_len]; omega)
  have gh' : ∀ i, i < a → (hs ++ stp t a (k + sz t k))[i]? = hs[i]? := fun i g => List.getElem?_append_left (by omega)
  have go' : ∀ i, k + sz t k ≤ i → (hs ++ stp t a (k + sz t k))[i]? = none := fun i g => List.getElem?_eq_none (by rw [List.length_append, stp_len]; omega)
  have hpk := hC.par h1 h2
  have hc1 : (rc t k (k + sz t k) k).par = none := by simp [rc]
  have hc2 : (rc t k (k + sz t k) k).prv = none := by simp [rc]
  have hc3 : (rc t k (k + sz t k) k).nxt = none := by simp [rc]
  have hnk : nxtF t k (k + sz t k) = none := by unfold nxtF; rw [hpk]; simp
  have hla : lastF t a (k + sz t k) = some k := lastF_mk (by omega) hpk fun c g1 g2 e => (par_some e).2.2 k h1 g1 (by omega)
  have hnew : ∀ i, k < i → i < k + sz t k → rc t k (k + sz t k) i = rc t a (k + sz t k) i := fun i g1 g2 => by
    unfold rc
    simp only [if_neg (show ¬ i = k by omega), if_neg (show ¬ i = a by omega)]
  generalize hS : (hs ++ stp t a k) ++ stp t k (k + sz t k) = S at *
  have hlen : S.length = k + sz t k := by rw [← hS, List.length_append, hkl, stp_len]; omega
  cases hl : lastF t a k with
  | none =>
    obtain rfl := last_none hL h1 (by omega) hl
    rw [append_none (by omega) (ga a (Nat.le_refl _) (by omega)) (gk (a + 1) (Nat.le_refl _) (by omega)) hc1 hc2 hc3 (by simp [rc, hl])]
    congr 1
    apply List.ext_getElem?
    intro i
    rw [List.getElem?_set, List.getElem?_set]
    simp only [List.length_set, hlen]
    by_cases e1 : a + 1 = i
    · subst e1
      rw [if_pos rfl, if_pos (by omega), app_get hhs (by omega) (by omega)]
      congr 1
      unfold rc
      simp only [hpk, prvF, hl, hnk]
      simp
    · rw [if_neg e1]
      by_cases e2 : a = i
      · subst e2
        rw [if_pos rfl, if_pos (by omega), app_get hhs (by omega) (by omega)]
        congr 1
        unfold rc
        rw [hla]
        have : 1 < sz t a := by omega
        simp [this]
        omega
      · rw [if_neg e2]
        rcases Nat.lt_or_ge i a with g | g
        · rw [gh i g, gh' i g]
        · rcases Nat.lt_or_ge i (a + 1 + sz t (a + 1)) with g2 | g2
          · rw [gk i (by omega) g2, app_get hhs (by omega) g2, hnew i (by omega) g2]
          · rw [go i g2, go' i g2]
  | some l =>
    obtain ⟨l1, l2, l3⟩ := last_end hL hC (by omega) hl
    obtain ⟨l4, l5, _⟩ := lastF_some hl
    rw [append_some (by omega) (by omega) (by omega) (ga a (Nat.le_refl _) (by omega)) (gk k (Nat.le_refl _) (by omega)) (ga l (by omega) l2) hc1 hc2 hc3 (by simp [rc, hl])]
    congr 1
    apply List.ext_getElem?
    intro i
    rw [List.getElem?_set, List.getElem?_set, List.getElem?_set]
    simp only [List.length_set, hlen]
    by_cases e1 : k = i
    · subst e1
      rw [if_pos rfl, if_pos (by omega), app_get hhs (by omega) (by omega)]
      congr 1
      unfold rc
      simp only [if_neg (show ¬ k = a by omega), hpk, prvF, hl, hnk]
      simp
    · rw [if_neg e1]
      by_cases e2 : a = i
      · subst e2
        rw [if_pos rfl, if_pos (by omega), app_get hhs (by omega) (by omega)]
        congr 1
        unfold rc
        rw [hla]
        have : 1 < sz t a := by omega
        have h3 : a + 1 < k := by omega
        have h4 : a + 1 < k + sz t k := by omega
        simp [this, h3, h4]
      · rw [if_neg e2]
        by_cases e3 : l = i
        · subst e3
          rw [if_pos rfl, if_pos (by omega), app_get hhs (by omega) (by omega)]
          congr 1
          have hn : nxtF t l (k + sz t k) = some k := by
            unfold nxtF; rw [l5]; simp only
            rw [if_pos ⟨by omega, by omega⟩, l3]
          have q1 : lastF t l (k + sz t k) = lastF t l k := lastF_skip (by omega) fun c g1 g2 e => by
            have := (par_some e).2.1; omega
          have q2 : (l + 1 < k + sz t k ∧ 1 < sz t l) = (l + 1 < k ∧ 1 < sz t l) := by
            apply propext
            constructor
            · rintro ⟨_, g⟩; exact ⟨by omega, g⟩
            · rintro ⟨g0, g⟩; exact ⟨by omega, g⟩
          unfold rc
          rw [hn, q1]
          simp only [q2, if_neg (show ¬ l = a by omega)]
        · rw [if_neg e3]
          rcases Nat.lt_or_ge i a with g | g
          · rw [gh i g, gh' i g]
          · rcases Nat.lt_or_ge i k with g1 | g1
            · rw [ga i g g1, app_get hhs g (by omega), rc_in hL hC h1 h2 (by omega) g1 (by rw [hl]; intro e; cases e; exact e3 rfl)]
            · rcases Nat.lt_or_ge i (k + sz t k) with g2 | g2
              · rw [gk i g1 g2, app_get hhs g g2, hnew i (by omega) g2]
              · rw [go i g2, go' i g2]
theorem grow_eq (t : List Node) (ht : t.length ≤ 1000000) (hat : ∀ (i : Nat) (v : Node), t[i]? = some v → v.attrs.length ≤ 2147483647) : ∀ (n a : Nat) (l : List (Option Nat)) (hs : List HN), sz t a ≤ n → Lam t a (a + sz t a) → 1 ≤ sz t a → a + sz t a ≤ t.length → l.length = t.length → hs.length = a →
    m_impl_grow n (t, (a : Int), l, hs) = some (fillL l a (a + sz t a), hs ++ stp t a (a + sz t a)) := by
  intro n
  induction n with
  | zero => intro a l hs h1 _ h2; omega
  | succ n ih =>
    intro a l hs hn hL hs1 hat2 hl hhs
    obtain ⟨v, hv, hvs, _, _⟩ := hL.ok a (Nat.le_refl _) (by omega)
    obtain ⟨x, hx⟩ := get_lt (l := l) (k := a) (by omega)
    simp only [m_impl_grow, b_impl_grow, atI_nat, Int.toNat_natCast]
    rw [hv, bind_some, show m_impl_alone ({ kind := v.kind, tag := v.tag, text := v.text, attrs := v.attrs, size := v.size }, hs) = _ from alone_eq v hs (hat a v hv), bind_some, hx]
    simp only [bind_some]
    rw [w64 (n := (a : Int) + 1) (by omega) (by omega)]
    have key : ∀ m k, a + sz t a - k = m → a < k → k ≤ a + sz t a → Ch t a k → loopO (m_impl_grow_0 (m_impl_grow n)) (t, (a : Int), fillL l a k, (k : Int), hs ++ stp t a k) = some (fillL l a (a + sz t a), hs ++ stp t a (a + sz t a)) := by
      intro m
      induction m using Nat.strongRecOn with
      | ind m ihm =>
        intro k hm g1 g2 hC
        by_cases hk : k < a + sz t a
        · obtain ⟨u, hu, hus, hu1, hu2⟩ := hL.ok k (by omega) hk
          have hLk := hL.sub (i := k) (by omega) hk
          have hgr := ih k (fillL l a k) (hs ++ stp t a k) (by omega) hLk hu1 (by omega) (by rw [fillL_len, hl]) (by rw [List.length_append, stp_len]; omega)
          have hff : fillL (fillL l a k) k (k + sz t k) = fillL l a (k + sz t k) := by
            apply List.ext_getElem?
            intro i
            rw [fillL_get, fillL_get, fillL_get, Option.map_map]
            congr 1
            funext y
            simp only [Function.comp]
            by_cases c1 : k ≤ i ∧ i < k + sz t k
            · rw [if_pos c1, if_pos ⟨by omega, c1.2⟩]
            · rw [if_neg c1]
              by_cases c2 : a ≤ i ∧ i < k
              · rw [if_pos c2, if_pos ⟨c2.1, by omega⟩]
              · rw [if_neg c2, if_neg (by omega)]
          have ga : (fillL l a (k + sz t k))[a]? = some (some a) := by
            rw [fillL_get, hx]; simp; omega
          obtain ⟨y, hy⟩ := get_lt (l := l) (k := k) (by omega)
          have gk : (fillL l a (k + sz t k))[k]? = some (some k) := by
            rw [fillL_get, hy]; simp; omega
          have step : m_impl_grow_0 (m_impl_grow n) (t, (a : Int), fillL l a k, (k : Int), hs ++ stp t a k) = some (.nx (t, (a : Int), fillL l a (k + sz t k), ((k + sz t k : Nat) : Int), hs ++ stp t a (k + sz t k))) := by
            simp only [m_impl_grow_0, cond_dec, atI_nat, Int.toNat_natCast]
            rw [hv, bind_some, hvs, w64 (n := (a : Int) + (sz t a : Int)) (by omega) (by omega), if_pos (by omega), hgr, bind_some]
            simp only
            rw [hff, ga, bind_some, bind_some, gk, bind_some, bind_some, link_eq hhs hL hC g1 hk, bind_some, hu, bind_some, hus, w64 (n := (k : Int) + (sz t k : Int)) (by omega) (by omega)]
            rfl
          rw [loopO_nx step]
          exact ihm (a + sz t a - (k + sz t k)) (by omega) (k + sz t k) rfl (by omega) (by omega) (hC.next hL g1 hk)
        · have : k = a + sz t a := by omega
          subst this
          refine loopO_out ?_
          simp only [m_impl_grow_0, cond_dec, atI_nat]
          rw [hv, bind_some, hvs, w64 (n := (a : Int) + (sz t a : Int)) (by omega) (by omega), if_neg (by omega)]
    have h := key _ (a + 1) rfl (by omega) (by omega) (fun q g1 g2 => by omega)
    have e1 : l.set a (some hs.length) = fillL l a (a + 1) := by
      apply List.ext_getElem?
      intro i
      rw [fillL_get, List.getElem?_set]
      by_cases c : a = i
      · subst c; rw [if_pos rfl, if_pos (by omega), hx, hhs]; simp
      · rw [if_neg c]
        cases l[i]? with
        | none => rfl
        | some z => simp; omega
    have e2 : [base v] = stp t a (a + 1) := by
      have hln : lastF t a (a + 1) = none := by
        cases h3 : lastF t a (a + 1) with
        | none => rfl
        | some c =>
          obtain ⟨q1, q2, _⟩ := lastF_some h3
          have := (par_some q2).1
          omega
      have hsub : a + 1 - a = 1 := by omega
      have hb : base v = ⟨none, none, none, none, none, (base v).ty, (base v).atom, (base v).data, (base v).ns, (base v).attrs⟩ := by
        unfold base
        repeat' split
        all_goals rfl
      rw [hb]
      simp [stp, hsub, rc, bs0, hv, hln]
    have e3 : ((a : Int) + 1) = ((a + 1 : Nat) : Int) := by omega
    rw [e1, e2, e3, h, bind_some]
/-- The nodes of a tree. -/
def store (t : List Node) : List HN := stp t 0 t.length
def ptrs (t : List Node) : List (Option Nat) := (List.range t.length).map some
theorem fits_eq (t : List Node) (ht : t.length ≤ 1000000) (hn : ∀ i v, t[i]? = some v → RN t i v) : ∀ (n a e : Nat), 1 ≤ a → a ≤ e → e - a < n → Lam t a e → e ≤ t.length → m_impl_fits n (t, (a : Int), (e : Int)) = some true := by
  intro n
  induction n with
  | zero => intro a e _ _ h; omega
  | succ n ih =>
    intro a e ha hae hne hL he
    simp only [m_impl_fits, b_impl_fits]
    have key : ∀ m k, e - k = m → a ≤ k → k ≤ e → Lam t k e → loopO (m_impl_fits_0 (m_impl_fits n)) (t, (k : Int), (e : Int)) = some (.inl ()) := by
      intro m
      induction m using Nat.strongRecOn with
      | ind m ihm =>
        intro k hm g1 g2 hLk
        by_cases hk : k < e
        · obtain ⟨v, hv, hvs, hv1, hv2⟩ := hLk.ok k (Nat.le_refl _) hk
          have hr := hn k v hv
          have hs := hLk.sub (i := k) (Nat.le_refl _) hk
          have hs' : Lam t (k + 1) (k + sz t k) := ⟨fun i h1 h2 => hs.ok i (by omega) h2, fun i j h1 h2 => hs.nest i j (by omega) h2⟩
          have hsub := ih (k + 1) (k + sz t k) (by omega) (by omega) (by omega) hs' (by omega)
          have hLn : Lam t (k + sz t k) e := ⟨fun i h1 h2 => hLk.ok i (by omega) h2, fun i j h1 h2 => hLk.nest i j (by omega) h2⟩
          have hk1 : v.kind ≠ 1 := fun h => by have := hr.k1 h; omega
          have hkd := hr.kd
          have step : m_impl_fits_0 (m_impl_fits n) (t, (k : Int), (e : Int)) = some (.nx (t, ((k + sz t k : Nat) : Int), (e : Int))) := by
            simp only [m_impl_fits_0, cond_dec, atI_nat]
            rw [if_pos (by omega), hv, bind_some, hvs, w64 (n := (e : Int) - (k : Int)) (by omega) (by omega), if_neg (by omega), if_neg (by omega), if_neg (by omega), if_neg (by omega), w64 (n := (k : Int) + 1) (by omega) (by omega), w64 (n := (k : Int) + (sz t k : Int)) (by omega) (by omega)]
            have hc : m_impl_fits n (t, (k : Int) + 1, (k : Int) + (sz t k : Int)) = some true := hsub
            rw [hc]
            simp only [bind_some]
            by_cases h3 : v.kind ≠ 3
            · have := hr.k2 h3 hk1
              rw [if_pos h3, if_neg (by omega)]
              rfl
            · rw [if_neg h3]; rfl
          rw [loopO_nx step]
          exact ihm (e - (k + sz t k)) (by omega) (k + sz t k) rfl (by omega) (by omega) hLn
        · refine loopO_out ?_
          simp only [m_impl_fits_0, cond_dec]
          rw [if_neg (by omega)]
    rw [key _ a rfl (Nat.le_refl _) hae hL, bind_some]
    rfl
theorem right_eq (t : List Node) (hR : RT t) : m_impl_right t = some true := by
  obtain ⟨v, hv, hk⟩ := hR.k0
  obtain ⟨u, hu, hus, _, _⟩ := hR.lam.ok 0 (Nat.le_refl _) hR.pos
  rw [hv] at hu
  cases hu
  have h1 := hR.pos
  have h2 := hR.len
  have h3 := hR.root
  simp only [m_impl_right, cond_dec, atI_zero]
  rw [if_neg (by omega), hv]
  simp only [bind_some]
  rw [if_neg (by omega), if_pos hk, show m_impl_fits big (t, (1 : Int), (t.length : Int)) = some true from fits_eq t (by omega) hR.node big 1 t.length (Nat.le_refl _) (by omega) (by unfold big; omega) ⟨fun i h1 h2 => hR.lam.ok i (by omega) h2, fun i j h1 h2 => hR.lam.nest i j (by omega) h2⟩ (Nat.le_refl _)]
  rfl
theorem grown_eq (t : List Node) (hf : fits1 t = true) (hR : RT t) : m_impl_grown (t, []) = some (ptrs t, true, store t) := by
  have h1 := hR.pos
  have h2 := hR.len
  have h3 := hR.root
  have hL : Lam t 0 (0 + sz t 0) := by rw [h3, Nat.zero_add]; exact hR.lam
  have hat : ∀ (i : Nat) (v : Node), t[i]? = some v → v.attrs.length ≤ 2147483647 := fun i v hv => by
    have := (fits_node hf hv).2.2
    simp only [fits3, Bool.and_eq_true, decide_eq_true_eq] at this
    exact this.1
  have h := grow_eq t (by omega) hat big 0 (List.replicate t.length none) [] (by unfold big; omega) hL (by omega) (by omega) (by simp) rfl
  simp only [m_impl_grown, right_eq t hR, bind_some, not_cond, cond_dec]
  rw [if_pos trivial, if_pos ⟨by omega, by omega, by omega⟩, Int.toNat_natCast, show m_impl_grow big (t, (0 : Int), List.replicate t.length none, []) = _ from h, bind_some]
  have e : fillL (List.replicate t.length none) 0 (0 + sz t 0) = ptrs t := by
    apply List.ext_getElem?
    intro i
    rw [fillL_get, List.getElem?_replicate]
    unfold ptrs
    rw [List.getElem?_map]
    by_cases hi : i < t.length
    · rw [List.getElem?_range hi, if_pos hi, Option.map_some, if_pos ⟨Nat.zero_le _, by omega⟩]; rfl
    · rw [List.getElem?_eq_none (l := List.range t.length) (by simp; omega), if_neg hi]; rfl
  rw [e]
  simp [store, h3]
theorem store_get {t : List Node} {i : Nat} (h : i < t.length) : (store t)[i]? = some (rc t 0 t.length i) := by
  have := stp_get (t := t) (a := 0) (e := t.length) (i := i) (by omega)
  rwa [Nat.zero_add] at this
theorem ptrs_get {t : List Node} {i : Nat} (h : i < t.length) : (ptrs t)[i]? = some (some i) := by
  unfold ptrs
  rw [List.getElem?_map, List.getElem?_range h]
  rfl
theorem ptrs_len (t : List Node) : (ptrs t).length = t.length := by simp [ptrs]
end Go.Proofs.YtpedmnlpccngiaaDoor.V
