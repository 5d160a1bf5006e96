/-
  FnIsLang's model answers true. Plain facts.
-/
import Derived.Test.YtchhjooifjcnkaaPText
import Derived.Test.YtchhjooifjcnkaaPAlone
import Derived.Test.YtchhjooifjcnkaaPGrow
import Derived.Test.YtchhjooifjcnkaaLwLang
namespace Go.Proofs.Ytchhjooifjcnkaa.V
open Go

theorem base_ty (v : Node) : (base v).ty = if v.kind = 1 then 2 else if v.kind = 2 then 5 else if v.kind = 4 then 1 else if v.kind = 5 then 4 else 3 := by
  unfold base
  repeat' split
  all_goals rfl
theorem rc_ty {t : List Node} {a e i : Nat} {v : Node} (hv : t[i]? = some v) : (rc t a e i).ty = (base v).ty := by simp [rc, bs0, hv]
theorem rc_el {t : List Node} (hR : RT t) {i : Nat} {v : Node} (hv : t[i]? = some v) {a e : Nat} : (rc t a e i).ty = 3 ↔ v.kind = 3 := by
  have hk := (hR.node i v hv).kd
  rw [rc_ty hv, base_ty]
  rcases hk with h | h | h | h | h <;> simp [h]
theorem rc_attrs {t : List Node} {i : Nat} {v : Node} (hv : t[i]? = some v) (h3 : v.kind = 3) {a e : Nat} : (rc t a e i).attrs = v.attrs.map hattr := by
  simp [rc, bs0, hv, base, h3]
theorem rc_par {t : List Node} {e i : Nat} : (rc t 0 e i).par = par t i := by
  simp only [rc]
  by_cases h : i = 0
  · subst h
    simp [par, parF]
  · rw [if_neg h]
/-- What an attribute of a name says: the first one. -/
def attrV (l : List Attr) (k : List UInt8) : Option (List UInt8) := (l.find? fun a => decide (a.key = k)).map (·.val)
theorem attr_eq (n : Node) (k : List UInt8) (h : n.attrs.length ≤ 2147483647) : m_spec_Attr (n, k) = some (match attrV n.attrs k with | some v => (v, true) | none => ([], false)) := by
  simp only [m_spec_Attr]
  have key : ∀ m i, n.attrs.length - i = m → i ≤ n.attrs.length → loopO m_spec_Attr_0 (k, n, (i : Int)) = some (match attrV (n.attrs.drop i) k with | some v => .inr (v, true) | none => .inl ()) := by
    intro m
    induction m with
    | zero =>
      intro i hm hi
      refine loopO_out ?_
      simp only [m_spec_Attr_0, cond_dec]
      rw [if_neg (by omega), List.drop_of_length_le (by omega)]
      rfl
    | succ m ih =>
      intro i hm hi
      obtain ⟨a, ha⟩ := get_lt (l := n.attrs) (k := i) (by omega)
      have hd : n.attrs.drop i = a :: n.attrs.drop (i + 1) := by
        obtain ⟨h1, h2⟩ := List.getElem?_eq_some_iff.1 ha
        rw [← h2]
        exact List.drop_eq_getElem_cons h1
      have hA : attrV (n.attrs.drop i) k = if a.key = k then some a.val else attrV (n.attrs.drop (i + 1)) k := by
        rw [hd]
        unfold attrV
        by_cases e : a.key = k
        · rw [if_pos e]; simp [e]
        · rw [if_neg e]; simp [e]
      by_cases e : a.key = k
      · refine loopO_out ?_
        simp only [m_spec_Attr_0, cond_dec, atI_nat]
        rw [if_pos (by omega), ha, bind_some, if_pos e, hA, if_pos e]
        rfl
      · have step : m_spec_Attr_0 (k, n, (i : Int)) = some (.nx (k, n, ((i + 1 : Nat) : Int))) := by
          simp only [m_spec_Attr_0, cond_dec, atI_nat]
          rw [if_pos (by omega), ha, bind_some, if_neg e, w64 (by omega) (by omega)]
          rfl
        rw [loopO_nx step, ih (i + 1) (by omega) (by omega), hA, if_neg e]
  have h0 := key n.attrs.length 0 (by omega) (Nat.zero_le _)
  rw [List.drop_zero] at h0
  rw [show loopO m_spec_Attr_0 (k, { kind := n.kind, tag := n.tag, text := n.text, attrs := n.attrs, size := n.size }, (0 : Int)) = _ from h0, bind_some]
  cases attrV n.attrs k <;> rfl
/-- With each key once, any attribute of a name is the first one. -/
theorem attr_any {l : List Attr} (hU : UA l) (k : List UInt8) (f : List UInt8 → Bool) : (l.any fun a => decide (a.key = k) && f a.val) = match attrV l k with | some v => f v | none => false := by
  unfold attrV
  cases hf : l.find? (fun a => decide (a.key = k)) with
  | none =>
    simp only [Option.map_none]
    rw [List.any_eq_false]
    intro a ha
    have := List.find?_eq_none.1 hf a ha
    simp only [decide_eq_true_eq] at this
    simp [this]
  | some b =>
    simp only [Option.map_some]
    have h1 := List.find?_some hf
    simp only [decide_eq_true_eq] at h1
    have h2 := List.mem_of_find?_eq_some hf
    obtain ⟨j, hj⟩ := List.mem_iff_getElem?.1 h2
    rw [Bool.eq_iff_iff, List.any_eq_true]
    constructor
    · rintro ⟨a, ha, h3⟩
      simp only [Bool.and_eq_true, decide_eq_true_eq] at h3
      obtain ⟨i, hi⟩ := List.mem_iff_getElem?.1 ha
      have : i = j := by
        rcases Nat.lt_trichotomy i j with h | h | h
        · exact absurd (h3.1.trans h1.symm) (hU.uq j i b a h hj hi)
        · exact h
        · exact absurd (h1.trans h3.1.symm) (hU.uq i j a b h hi hj)
      subst this
      rw [hi] at hj
      cases hj
      exact h3.2
    · intro h
      exact ⟨b, h2, by simp [h1, h]⟩
/-- The text lang. -/
def langK : List UInt8 := [(108 : UInt8), (97 : UInt8), (110 : UInt8), (103 : UInt8)]
def langOk (lang v : List UInt8) : Bool := decide (v = lang) || pre v (lang ++ [45])
theorem prefix_eq (s p : List UInt8) : m_strings_HasPrefix (s, p) = some (pre s p) := by
  simp only [m_strings_HasPrefix, m_internal_stringslite_HasPrefix, cond_dec]
  by_cases h : p.length ≤ s.length
  · rw [if_pos (by omega), show subL s (0 : Int) (p.length : Int) = _ from subL_nat s (Nat.zero_le _) h, bind_some, bind_some]
    rfl
  · rw [if_neg (by omega), bind_some, pre_long (by omega)]
theorem langClo (v lang : List UInt8) (h : lang.length ≤ 1000) : m_cascadia_langPseudoClassSelector_Match_1 (v, lang) = some (langOk lang v) := by
  simp only [m_cascadia_langPseudoClassSelector_Match_1, cond_dec]
  unfold langOk
  by_cases e : v = lang
  · rw [if_pos e, decide_eq_true e, Bool.true_or]
  · rw [if_neg e, catS_some _ _ (by simp; omega), bind_some, prefix_eq, bind_some, decide_eq_false e, Bool.false_or]
/-- What the nearest lang of a node itself says. -/
def langN (t : List Node) (lang : List UInt8) (a : Nat) : Option Bool := match t[a]? with
  | some v => (attrV v.attrs langK).map (langOk lang)
  | none => none
theorem matchA (t : List Node) (hR : RT t) (lang : List UInt8) (h : lang.length ≤ 1000) (a : Nat) (ha : a < t.length) : m_cascadia_matchAttribute_lang (some a, langK, lang, store t) = some (langN t lang a == some true) := by
  obtain ⟨v, hv⟩ := get_lt ha
  simp only [m_cascadia_matchAttribute_lang, bind_some, store_get ha, cond_dec]
  have hN : langN t lang a = (attrV v.attrs langK).map (langOk lang) := by simp [langN, hv]
  by_cases h3 : v.kind = 3
  · rw [if_neg (by simp [(rc_el hR hv).2 h3]), rc_attrs hv h3]
    have hU := (hR.node a v hv).k5 h3
    have hlen := hU.len
    have hl := loop_all (body := m_cascadia_matchAttribute_lang_0) v.attrs (fun x => !(decide (x.key = langK) && langOk lang x.val)) (fun k => (langK, lang, v.attrs.map hattr, ((v.attrs.map hattr).length : Int), (k : Int), store t)) (.inl (store t)) (.inr (true, store t)) (fun k x hx => by
      have hk := (List.getElem?_eq_some_iff.1 hx).1
      simp only [m_cascadia_matchAttribute_lang_0, cond_dec, atI_nat]
      rw [if_pos (by simp; omega), List.getElem?_map, hx]
      simp only [Option.map_some, bind_some, hattr]
      rw [w64 (by omega) (by omega)]
      by_cases e : x.key = langK
      · rw [if_pos e, langClo _ _ h, bind_some, decide_eq_true e, Bool.true_and]
        cases langOk lang x.val <;> rfl
      · rw [if_neg e, decide_eq_false e]
        rfl) (by
      simp only [m_cascadia_matchAttribute_lang_0, cond_dec]
      rw [if_neg (by simp)]) 0 (Nat.zero_le _)
    rw [show loopO m_cascadia_matchAttribute_lang_0 (langK, lang, v.attrs.map hattr, ((v.attrs.map hattr).length : Int), (0 : Int), store t) = _ from hl, bind_some, List.drop_zero]
    have e : (v.attrs.all fun x => !(decide (x.key = langK) && langOk lang x.val)) = !(v.attrs.any fun x => decide (x.key = langK) && langOk lang x.val) := by simp [List.all_eq_not_any_not]
    rw [e, attr_any hU langK (langOk lang), hN]
    cases attrV v.attrs langK with
    | none => rfl
    | some w => cases hw : langOk lang w <;> simp [hw, selim_l, selim_r]
  · rw [if_pos (fun e => h3 ((rc_el hR hv).1 e))]
    have := ((hR.node a v hv).k4 h3).2
    rw [hN, this]
    rfl
/-- A node and those that it is beneath. -/
def ups (t : List Node) : Nat → Nat → List Nat
  | 0, _ => []
  | n + 1, a => a :: (match par t a with
    | some p => ups t n p
    | none => [])
theorem ups_more {t : List Node} : ∀ {n m a : Nat}, a < n → n ≤ m → ups t m a = ups t n a
  | 0, _, _, h, _ => by omega
  | n + 1, 0, _, _, h => by omega
  | n + 1, m + 1, a, h1, h2 => by
    simp only [ups]
    cases hp : par t a with
    | none => rfl
    | some p => simp only; rw [ups_more (n := n) (m := m) (by have := (par_some hp).1; omega) (by omega)]
theorem lang_up (t : List Node) (hR : RT t) (lang : List UInt8) (h : lang.length ≤ 1000) : ∀ (n a : Nat), a < n → a < t.length → m_cascadia_langPseudoClassSelector_Match n (lang, some a, store t) = some ((ups t n a).any fun c => langN t lang c == some true)
  | 0, _, hn, _ => by omega
  | n + 1, a, hn, ha => by
    simp only [m_cascadia_langPseudoClassSelector_Match, b_cascadia_langPseudoClassSelector_Match]
    rw [show m_cascadia_matchAttribute_lang (some a, [(108 : UInt8), (97 : UInt8), (110 : UInt8), (103 : UInt8)], lang, store t) = _ from matchA t hR lang h a ha, bind_some]
    simp only [bind_some, store_get ha, rc_par, ups, List.any_cons]
    cases hp : par t a with
    | none => simp
    | some p =>
      have := (par_some hp).1
      simp only [Option.isNone_some, cond_false]
      rw [lang_up t hR lang h n p (by omega) (by omega), bind_some]
      cases (langN t lang a == some true) <;> rfl
/-- What the loop over a node and those above it comes to. -/
theorem language_ex (t : List Node) (hR : RT t) (hf : fits1 t = true) (lang : List UInt8) (h : lang.length ≤ 1000) (a : Nat) (ha : a < t.length) : ∃ r, m_spec_language (t, (a : Int), lang) = some r ∧ (r ≠ 2 → ((ups t t.length a).any fun c => langN t lang c == some true) = decide (r = 1)) := by
  have hlen := hR.len
  simp only [m_spec_language]
  obtain ⟨y, hy, q1, q2⟩ := loopO_rule (body := m_spec_language_0) (fun x => ∃ (o : Option Nat) (r : Int) (sn : Bool), x = (t, (match o with | some a => (a : Int) | none => -1), lang, r, sn) ∧ (∀ a, o = some a → a < t.length) ∧ (r = 0 ∨ r = 1)) (fun x y => (∀ r, y = .inl r → (r = 0 ∨ r = 1) ∧ (x.2.2.2.2 = true → r = x.2.2.2.1) ∧ (∀ c ∈ (if x.2.1 < 0 then [] else ups t t.length x.2.1.toNat), ∀ b, langN t lang c = some b → b = decide (r = 1)) ∧ (x.2.2.2.2 = false → r = x.2.2.2.1 ∨ ∃ c ∈ (if x.2.1 < 0 then [] else ups t t.length x.2.1.toNat), ∃ b, langN t lang c = some b)) ∧ ∀ r, y = .inr r → r = (2 : Int)) (fun x => (x.2.1 + 1).toNat) (fun x hx => by
    obtain ⟨o, r, sn, rfl, ho, hr⟩ := hx
    cases o with
    | none =>
      simp only [m_spec_language_0, cond_dec]
      rw [if_neg (by omega)]
      exact .inl ⟨_, rfl, fun r' h => by cases h; exact ⟨hr, fun _ => rfl, by simp, fun _ => .inl rfl⟩, fun r' h => by cases h⟩
    | some a =>
      have ha := ho a rfl
      obtain ⟨v, hv⟩ := get_lt ha
      obtain ⟨g1, g2, g3⟩ := fits_node hf hv
      have hal : v.attrs.length ≤ 2147483647 := by simp only [fits3, Bool.and_eq_true, decide_eq_true_eq] at g3; exact g3.1
      have hN : langN t lang a = (attrV v.attrs langK).map (langOk lang) := by simp [langN, hv]
      have hne : ¬ ((a : Int) < 0) := by omega
      have hup : ups t t.length a = a :: (match par t a with | some p => ups t t.length p | none => []) := by
        have e : t.length = (t.length - 1) + 1 := by omega
        conv => lhs; rw [e]
        simp only [ups]
        cases hp : par t a with
        | none => rfl
        | some p =>
          simp only
          rw [← ups_more (n := t.length - 1) (m := t.length) (by have := (par_some hp).1; omega) (by omega)]
      have hpo : ∃ o', parI t a = (match o' with | some a => ((a : Nat) : Int) | none => -1) ∧ (∀ b, o' = some b → b < t.length) ∧ (if (match o' with | some a => ((a : Nat) : Int) | none => -1) < 0 then [] else ups t t.length (match o' with | some a => ((a : Nat) : Int) | none => -1).toNat) = (match par t a with | some p => ups t t.length p | none => []) ∧ ((match o' with | some a => ((a : Nat) : Int) | none => -1) + 1).toNat < ((a : Int) + 1).toNat := by
        cases hp : par t a with
        | none => exact ⟨none, by simp [parI, hp], (fun b h => by cases h), by simp, by simp only; omega⟩
        | some p =>
          have := (par_some hp).1
          exact ⟨some p, by simp [parI, hp], (fun b h => by cases h; omega), by simp only []; rw [if_neg (by omega)]; simp, by simp only; omega⟩
      obtain ⟨o', p1, p2, p3, p4⟩ := hpo
      simp only [m_spec_language_0, cond_dec, atI_nat]
      rw [if_pos (by omega), hv, bind_some, show m_spec_Attr (v, [(108 : UInt8), (97 : UInt8), (110 : UInt8), (103 : UInt8)]) = _ from attr_eq v langK hal, bind_some, Parent_eq t (by omega) hR.lam ha (Nat.le_refl _), bind_some]
      cases hA : attrV v.attrs langK with
      | none =>
        rw [hA] at hN
        simp only [Bool.not_false, cond_true]
        refine .inr ⟨_, rfl, ⟨o', r, sn, by rw [p1], p2, hr⟩, by simp only [p1]; exact p4, fun b hb => ⟨fun r' e => ?_, hb.2⟩⟩
        obtain ⟨k1, k2, k3, k4⟩ := hb.1 r' e
        simp only [p1, p3] at k3 k4
        refine ⟨k1, k2, ?_, ?_⟩
        · simp only [if_neg hne, Int.toNat_natCast, hup]
          intro c hc z hz
          rcases List.mem_cons.1 hc with rfl | hc
          · rw [hN] at hz; cases hz
          · exact k3 c hc z hz
        · intro hs
          rcases k4 hs with k4 | ⟨c, hc, k4⟩
          · exact .inl k4
          · refine .inr ⟨c, ?_, k4⟩
            simp only [if_neg hne, Int.toNat_natCast, hup]
            exact List.mem_cons_of_mem _ hc
      | some w =>
        rw [hA] at hN
        simp only [Option.map_some] at hN
        simp only [Bool.not_true, cond_false]
        have hw : w.length ≤ 2147483647 := by
          unfold attrV at hA
          cases hfi : v.attrs.find? (fun a => decide (a.key = langK)) with
          | none => rw [hfi] at hA; cases hA
          | some z =>
            rw [hfi] at hA
            cases hA
            obtain ⟨j, hj⟩ := List.mem_iff_getElem?.1 (List.mem_of_find?_eq_some hfi)
            exact (fits_attr g3 hj).2
        have own : ∀ own : Bool, own = langOk lang w → ∃ y : Option (Stp (List Node × Int × List UInt8 × Int × Bool) (Int ⊕ Int)), (bif sn then if (if own then (1 : Int) else 0) ≠ r then some (Stp.out (Sum.inr (2 : Int))) else some (Stp.nx (t, parI t a, lang, (if own then (1 : Int) else 0), true)) else some (Stp.nx (t, parI t a, lang, (if own then (1 : Int) else 0), true))) = y ∧ (y = some (.out (.inr (2 : Int))) ∨ y = some (.nx (t, parI t a, lang, (if own then (1 : Int) else 0), true)) ∧ (sn = true → (if own then (1 : Int) else 0) = r)) := fun own hown => by
          refine ⟨_, rfl, ?_⟩
          cases sn with
          | false => exact .inr ⟨rfl, fun h => by cases h⟩
          | true =>
            simp only [cond_true]
            by_cases e : (if own then (1 : Int) else 0) = r
            · rw [if_neg (by simp [e])]; exact .inr ⟨rfl, fun _ => e⟩
            · rw [if_pos e]; exact .inl rfl
        have fin : ∀ z : Option (Stp (List Node × Int × List UInt8 × Int × Bool) (Int ⊕ Int)), (z = some (.out (.inr (2 : Int))) ∨ z = some (.nx (t, parI t a, lang, (if langOk lang w then (1 : Int) else 0), true)) ∧ (sn = true → (if langOk lang w then (1 : Int) else 0) = r)) → (∃ b, z = some (.out b) ∧ ((∀ r', b = .inl r' → (r' = 0 ∨ r' = 1) ∧ (sn = true → r' = r) ∧ (∀ c ∈ (if (a : Int) < 0 then [] else ups t t.length (a : Int).toNat), ∀ b, langN t lang c = some b → b = decide (r' = 1)) ∧ (sn = false → r' = r ∨ ∃ c ∈ (if (a : Int) < 0 then [] else ups t t.length (a : Int).toNat), ∃ b, langN t lang c = some b)) ∧ ∀ r', b = .inr r' → r' = (2 : Int))) ∨ (∃ y, z = some (.nx y) ∧ (∃ (o : Option Nat) (r : Int) (sn : Bool), y = (t, (match o with | some a => (a : Int) | none => -1), lang, r, sn) ∧ (∀ a, o = some a → a < t.length) ∧ (r = 0 ∨ r = 1)) ∧ (y.2.1 + 1).toNat < ((a : Int) + 1).toNat ∧ ∀ b : Int ⊕ Int, ((∀ r', b = .inl r' → (r' = 0 ∨ r' = 1) ∧ (y.2.2.2.2 = true → r' = y.2.2.2.1) ∧ (∀ c ∈ (if y.2.1 < 0 then [] else ups t t.length y.2.1.toNat), ∀ b, langN t lang c = some b → b = decide (r' = 1)) ∧ (y.2.2.2.2 = false → r' = y.2.2.2.1 ∨ ∃ c ∈ (if y.2.1 < 0 then [] else ups t t.length y.2.1.toNat), ∃ b, langN t lang c = some b)) ∧ ∀ r', b = .inr r' → r' = (2 : Int)) → ((∀ r', b = .inl r' → (r' = 0 ∨ r' = 1) ∧ (sn = true → r' = r) ∧ (∀ c ∈ (if (a : Int) < 0 then [] else ups t t.length (a : Int).toNat), ∀ b, langN t lang c = some b → b = decide (r' = 1)) ∧ (sn = false → r' = r ∨ ∃ c ∈ (if (a : Int) < 0 then [] else ups t t.length (a : Int).toNat), ∃ b, langN t lang c = some b)) ∧ ∀ r', b = .inr r' → r' = (2 : Int))) := fun z hz => by
          rcases hz with rfl | ⟨rfl, hs⟩
          · exact .inl ⟨_, rfl, (fun r' h => by cases h), fun r' h => by cases h; rfl⟩
          · refine .inr ⟨_, rfl, ⟨o', _, true, by rw [p1], p2, ?_⟩, by simp only [p1]; exact p4, fun b hb => ⟨fun r' e => ?_, hb.2⟩⟩
            · cases langOk lang w
              · exact .inl rfl
              · exact .inr rfl
            · obtain ⟨k1, k2, k3, _⟩ := hb.1 r' e
              simp only [p1, p3] at k3
              have k5 : r' = (if langOk lang w then (1 : Int) else 0) := k2 rfl
              refine ⟨k1, fun h => k5.trans (hs h), ?_, fun _ => .inr ⟨a, ?_, _, hN⟩⟩
              · simp only [if_neg hne, Int.toNat_natCast, hup]
                intro c hc z hz
                rcases List.mem_cons.1 hc with rfl | hc
                · rw [hN] at hz
                  cases hz
                  rw [k5]
                  cases langOk lang w <;> rfl
                · exact k3 c hc z hz
              · simp only [if_neg hne, Int.toNat_natCast, hup]
                exact List.mem_cons_self
        refine fin _ ?_
        split
        · exact .inl rfl
        · split
          · exact .inl rfl
          · rw [small_eq w hw, bind_some]
            split
            · exact .inl rfl
            · rw [small_eq lang (by omega), bind_some]
              split
              · exact .inl rfl
              · rw [ascii_eq w hw, bind_some, not_cond]
                cases isAscii w
                · exact .inl rfl
                · rw [if_pos rfl, ascii_eq lang (by omega), bind_some, not_cond]
                  cases isAscii lang
                  · exact .inl rfl
                  · rw [if_pos rfl]
                    by_cases e : w = lang
                    · have ho : langOk lang w = true := by simp [langOk, e]
                      rw [if_pos e, ho]
                      simp only [m_spec_truth, bind_some, cond_true, if_true]
                      obtain ⟨y, h1, h2⟩ := own true ho.symm
                      simp only [if_true] at h1 h2
                      rw [h1]
                      exact h2
                    · have ho : langOk lang w = pre w (lang ++ [45]) := by simp [langOk, e]
                      rw [if_neg e, catS_some _ _ (by simp; omega), bind_some, show m_spec_stands (w, (0 : Int), lang ++ [45]) = _ from stands_eq w (lang ++ [45]) 0 hw (by simp; omega) (Nat.zero_le _), bind_some, List.drop_zero, ← ho]
                      obtain ⟨y, h1, h2⟩ := own (langOk lang w) rfl
                      cases hl : langOk lang w with
                      | true =>
                        rw [hl] at h1 h2
                        simp only [m_spec_truth, bind_some, cond_true, if_true] at h1 h2 ⊢
                        rw [h1]
                        exact h2
                      | false =>
                        rw [hl] at h1 h2
                        simp only [m_spec_truth, bind_some, cond_false, Bool.false_eq_true, if_false] at h1 h2 ⊢
                        rw [h1]
                        exact h2) (t, (a : Int), lang, (0 : Int), false) ⟨some a, 0, false, rfl, (fun b h => by cases h; exact ha), .inl rfl⟩
  rw [hy, bind_some]
  rcases y with r | r
  · obtain ⟨k1, _, k3, k4⟩ := q1 r rfl
    have hne : ¬ ((a : Int) < 0) := by omega
    simp only [if_neg hne, Int.toNat_natCast] at k3 k4
    refine ⟨r, rfl, fun _ => ?_⟩
    rw [Bool.eq_iff_iff, List.any_eq_true, decide_eq_true_eq]
    constructor
    · rintro ⟨c, hc, h1⟩
      have := k3 c hc true (by simpa using h1)
      simpa using this
    · intro h1
      rcases k4 trivial with h2 | ⟨c, hc, b, hb⟩
      · have h3 : @Eq Int r 0 := h2
        have h4 : @Eq Int r 1 := h1
        rw [h3] at h4
        cases h4
      · have := k3 c hc b hb
        refine ⟨c, hc, ?_⟩
        rw [hb, this, h1]
        rfl
  · obtain rfl := q2 r rfl
    exact ⟨2, rfl, fun h => absurd rfl h⟩
theorem fn_isLang (t : List Node) (at_ : Int) (lang : List UInt8) : ∃ S, m_laws_FnIsLang (t, at_, lang, []) = some (true, S) := by
  simp only [m_laws_FnIsLang, zz1, bind_some, not_cond, cond_dec]
  cases hf : fits1 t
  · exact ⟨_, rfl⟩
  · rw [if_pos rfl]
    split
    · exact ⟨_, rfl⟩
    · obtain ⟨b, hR, hRT⟩ := Right_ex t hf
      rw [hR, bind_some]
      cases b
      · exact ⟨_, rfl⟩
      · rw [if_pos rfl]
        have hR := hRT rfl
        rw [within_eq, bind_some]
        by_cases hw : 0 ≤ at_ ∧ at_ < t.length
        · rw [decide_eq_true hw, if_pos rfl]
          obtain ⟨a, rfl⟩ := Int.eq_ofNat_of_zero_le hw.1
          have ha : a < t.length := by omega
          have hlen := hR.len
          obtain ⟨v, hv⟩ := get_lt ha
          rw [atI_nat, hv, bind_some]
          split
          · exact ⟨_, rfl⟩
          · split
            · exact ⟨_, rfl⟩
            · split
              · exact ⟨_, rfl⟩
              · rename_i h100
                obtain ⟨r, h1, h2⟩ := language_ex t hR hf lang (by omega) a ha
                simp only [m_spec_Language]
                rw [h1, bind_some, bind_some]
                split
                · exact ⟨_, rfl⟩
                · rename_i hr2
                  refine ⟨store t, ?_⟩
                  simp only [m_impl_IsLang, grown_eq t hf hR, bind_some, Bool.not_true, cond_false, cond_dec, atI_nat, Int.toNat_natCast, ptrs_len]
                  rw [if_neg (by omega), if_neg (by omega), ptrs_get ha]
                  simp only [bind_some, m_cascadia_IsLang]
                  rw [lang_up t hR lang (by omega) big a (by unfold big; omega) ha, ups_more (n := t.length) (by omega) (by unfold big; omega), h2 hr2]
                  simp
        · rw [decide_eq_false hw]
          exact ⟨_, rfl⟩
end Go.Proofs.Ytchhjooifjcnkaa.V
