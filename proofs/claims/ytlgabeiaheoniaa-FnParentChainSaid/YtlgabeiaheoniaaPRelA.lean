/-
  Parents, and all above. Plain facts.
-/
import Derived.Test.YtlgabeiaheoniaaPRelP
namespace Go.Proofs.Ytlgabeiaheoniaa.V
open Go

/-- The elements above a node, the nearest one first. -/
def abvF (t : List Node) : Nat → Nat → List Nat
  | 0, _ => []
  | n + 1, a => match par t a with
    | none => []
    | some p => (if kindN t p = 3 then [p] else []) ++ abvF t n p
theorem abvF_more {t : List Node} : ∀ {n m a : Nat}, a < n → n ≤ m → abvF t m a = abvF t n a
  | 0, _, _, h, _ => by omega
  | n + 1, 0, _, _, h => by omega
  | n + 1, m + 1, a, h1, h2 => by
    simp only [abvF]
    cases hp : par t a with
    | none => rfl
    | some p => simp only; rw [abvF_more (n := n) (m := m) (by have := (par_some hp).1; omega) (by omega)]
def abvN (t : List Node) (a : Nat) : List Nat := abvF t t.length a
/-- Its parent, if that is an element. -/
def parN (t : List Node) (a : Nat) : List Nat := match par t a with
  | none => []
  | some p => if kindN t p = 3 then [p] else []
theorem abvF_lt {t : List Node} : ∀ {n a c : Nat}, c ∈ abvF t n a → c < a
  | 0, _, _, h => by cases h
  | n + 1, a, c, h => by
    simp only [abvF] at h
    cases hp : par t a with
    | none => rw [hp] at h; cases h
    | some p =>
      rw [hp] at h
      have hpa := (par_some hp).1
      rcases List.mem_append.1 h with h | h
      · split at h
        · simp at h; omega
        · cases h
      · have := abvF_lt h; omega
theorem abvF_nodup {t : List Node} : ∀ {n a : Nat}, (abvF t n a).Nodup
  | 0, _ => List.nodup_nil
  | n + 1, a => by
    simp only [abvF]
    cases hp : par t a with
    | none => exact List.nodup_nil
    | some p =>
      simp only
      rw [List.nodup_append]
      refine ⟨by split <;> simp, abvF_nodup, fun x hx y hy e => ?_⟩
      have := abvF_lt hy
      split at hx
      · simp at hx; omega
      · cases hx
theorem abvF_len {t : List Node} : ∀ {n a : Nat}, (abvF t n a).length ≤ n
  | 0, _ => Nat.le_refl _
  | n + 1, a => by
    simp only [abvF]
    cases hp : par t a with
    | none => simp
    | some p =>
      have := abvF_len (t := t) (n := n) (a := p)
      simp only [List.length_append]
      split
      · simp; omega
      · simp; omega
section
variable {t : List Node}
theorem above_loop (hR : RT t) : ∀ (n a : Nat) (acc : List (Option Nat)), a < n → a < t.length → acc.length + n ≤ 1000000 → loopO m_goquery_getParentsNodes_1_0 ((), [], acc, par t a, store t) = some (acc ++ (abvF t n a).map some, store t)
  | 0, a, acc, h, _, _ => by omega
  | n + 1, a, acc, h, ha, hl => by
    simp only [abvF]
    cases hp : par t a with
    | none =>
      refine loopO_out ?_
      simp only [m_goquery_getParentsNodes_1_0, Option.isNone_none, Bool.not_true, cond_false, List.map_nil, List.append_nil]
    | some p =>
      have hpa := (par_some hp).1
      have hpl : p < t.length := by omega
      by_cases h3 : kindN t p = 3
      · have step : m_goquery_getParentsNodes_1_0 ((), [], acc, some p, store t) = some (.nx ((), [], acc ++ [some p], par t p, store t)) := by
          simp only [m_goquery_getParentsNodes_1_0, Option.isNone_some, Bool.not_false, cond_true, cond_dec, List.length_nil]
          rw [if_neg (by decide)]
          simp only [bind_some, store_get hpl, rc_par]
          rw [if_pos ((kind_ty hR hpl).2 h3), appL_some (by simp only [List.length_singleton]; omega), bind_some]
        rw [loopO_nx step, above_loop hR n p _ (by omega) hpl (by rw [List.length_append, List.length_singleton]; omega)]
        simp [h3]
      · have step : m_goquery_getParentsNodes_1_0 ((), [], acc, some p, store t) = some (.nx ((), [], acc, par t p, store t)) := by
          simp only [m_goquery_getParentsNodes_1_0, Option.isNone_some, Bool.not_false, cond_true, cond_dec, List.length_nil]
          rw [if_neg (by decide)]
          simp only [bind_some, store_get hpl, rc_par]
          rw [if_neg (fun e => h3 ((kind_ty hR hpl).1 e))]
        rw [loopO_nx step, above_loop hR n p _ (by omega) hpl (by omega)]
        simp [h3]
theorem clo_above (hR : RT t) (i : Int) (a : Nat) (ha : a < t.length) : m_goquery_getParentsNodes_1 (i, some a, (), [], store t) = some (gF (abvN t) (some a)) := by
  have := hR.len
  simp only [m_goquery_getParentsNodes_1, bind_some, store_get ha, rc_par]
  rw [above_loop hR t.length a [] ha ha (by simp; omega), bind_some]
  rfl
/-- Places of the tree, no two the same. -/
structure Dis (t : List Node) (l : List Int) : Prop where
  bd : ∀ v ∈ l, 0 ≤ v ∧ v < t.length
  nd : l.Nodup
theorem Dis.len {l : List Int} (h : Dis t l) (ht : t.length ≤ 200) : l.length ≤ 200 := by
  have h1 : l ⊆ (List.range t.length).map Int.ofNat := fun v hv => by
    obtain ⟨b1, b2⟩ := h.bd v hv
    exact List.mem_map.2 ⟨v.toNat, List.mem_range.2 (by omega), by simp only [Int.ofNat_eq_natCast]; omega⟩
  have h2 := h.nd.length_le_of_subset h1
  rw [List.length_map, List.length_range] at h2
  omega
theorem chosen_dis (l : List Int) (hf : fits1 t = true) (hR : RT t) (h : Dis t l) : m_impl_chosen (t, l, []) = some (pts l, ptrs t, true, store t) := by
  have h1 := hR.pos
  have h2 := hR.len
  have h3 := h.len h2
  have hb : ∀ (i : Nat) (v : Int), l[i]? = some v → 0 ≤ v ∧ v < t.length := fun i v hv => h.bd v (List.mem_of_getElem? hv)
  have hn : ∀ (i j : Nat) (v w : Int), i < j → l[i]? = some v → l[j]? = some w → v.toNat ≠ w.toNat := fun i j v w hij hv hw e => by
    have b1 := hb i v hv
    have b2 := hb j w hw
    have e2 : v = w := by omega
    obtain ⟨x1, x2⟩ := List.getElem?_eq_some_iff.1 hv
    obtain ⟨y1, y2⟩ := List.getElem?_eq_some_iff.1 hw
    have := List.pairwise_iff_getElem.1 h.nd i j x1 y1 hij
    rw [x2, y2] at this
    exact this e2
  simp only [m_impl_chosen, grown_eq t hf hR, bind_some, m_impl_among, these_eq t l (by omega) hb, Bool.not_true, cond_false, atI_zero, ptrs_get h1]
  simp only [m_goquery_NewDocumentFromNode, m_goquery_newDocument, m_goquery_newSingleSelection, bind_some, m_goquery_Selection_Eq_nil, cond_dec, List.length_singleton]
  rw [if_neg (by omega), if_pos (by omega)]
  simp only [m_goquery_newEmptySelection, bind_some, m_goquery_Selection_AddNodes_nil, appSmall_eq l (by omega) hn, m_goquery_pushStack]
theorem few_above {l : List Int} (hR : RT t) (h : Dis t l) : Few t l (abvN t) := by
  have h2 := hR.len
  refine ⟨fun v hv => abvF_nodup, fun v hv c hc => ?_, fun v hv => ?_⟩
  · have := abvF_lt hc
    have := h.bd v hv
    omega
  · have := abvF_len (t := t) (n := t.length) (a := v.toNat)
    unfold abvN
    omega
theorem places_dis {l : List Int} {f : Nat → List Nat} (hR : RT t) (hl : l.length ≤ 400) (hF : Few t l f) : m_impl_placesOf (ptrs t, pts (addAll [] (l.flatMap (FI f)))) = some (addAll [] (l.flatMap (FI f))) := by
  have h2 := hR.len
  have h3 := hF.flen hl
  have h4 := addAll_len (l.flatMap (FI f)) []
  simp only [List.length_nil, Nat.zero_add] at h4
  exact placesOf_eq t (by omega) _ (by omega) hF.bd
theorem parents_eq {l : List Int} (hf : fits1 t = true) (hR : RT t) (h : Dis t l) : m_impl_ParentsOf_f (t, l) = some (addAll [] (l.flatMap (FI (abvN t))), true) := by
  have h2 := hR.len
  have h1 := h.len h2
  have hF := few_above hR h
  have hm := map_par [] (by omega) hF (by omega) (fun i v hv => clo_above hR i _ (toN (h.bd v hv)))
  rw [show m_impl_ParentsOf_f (t, l) = (m_impl_ParentsOf (t, l, [])).map fun r => (r.1, r.2.1) from rfl]
  simp only [m_impl_ParentsOf, chosen_dis l hf hR h, bind_some, Bool.not_true, cond_false, m_goquery_Selection_Parents, m_goquery_getParentsNodes, hm, m_goquery_pushStack, hF.pts, places_dis hR (by omega) hF]
  rfl
theorem few_par {l : List Int} (hR : RT t) (h : Dis t l) : Few t l (parN t) := by
  have mem : ∀ a c, c ∈ parN t a → par t a = some c := fun a c hc => by
    unfold parN at hc
    cases hp : par t a with
    | none => rw [hp] at hc; cases hc
    | some p =>
      rw [hp] at hc
      simp only at hc
      split at hc
      · simp at hc; rw [hc]
      · cases hc
  refine ⟨fun v hv => ?_, fun v hv c hc => ?_, fun v hv => ?_⟩
  · unfold parN
    split
    · exact List.nodup_nil
    · split <;> simp
  · have := (par_some (mem _ _ hc)).1
    have := h.bd v hv
    omega
  · unfold parN
    split
    · simp
    · split <;> simp
theorem parent_loop (hR : RT t) (l : List Int) (hl : l.length ≤ 100000) (hb : ∀ v ∈ l, 0 ≤ v ∧ v < t.length) : loopO m_goquery_getParentNodes_0 ([], [], pts l, ((pts l).length : Int), (0 : Int), store t) = some (addAll [] ((pts l).flatMap (gF (parN t))), store t) := by
  have hpl := pts_len l
  have key : ∀ C A, l = A ++ C → ∀ s, Told s (addAll [] ((pts A).flatMap (gF (parN t)))) → loopO m_goquery_getParentNodes_0 (addAll [] ((pts A).flatMap (gF (parN t))), s, pts l, ((pts l).length : Int), (A.length : Int), store t) = some (addAll [] ((pts l).flatMap (gF (parN t))), store t) := by
    intro C
    induction C with
    | nil =>
      intro A hA s hs
      refine loopO_out ?_
      have hlen := congrArg List.length hA
      simp only [List.length_append, List.length_nil] at hlen
      simp only [m_goquery_getParentNodes_0, cond_dec]
      rw [if_neg (by omega), hA, List.append_nil]
    | cons c C ih =>
      intro A hA s hs
      have hlen := congrArg List.length hA
      simp only [List.length_append, List.length_cons] at hlen
      have hc : (pts l)[A.length]? = some (some c.toNat) := by rw [pts_get, hA]; simp
      have hcl := toN (hb c (by rw [hA]; simp))
      have hal := addAll_len ((pts A).flatMap (gF (parN t))) []
      simp only [List.length_nil, Nat.zero_add] at hal
      have hfl : ((pts A).flatMap (gF (parN t))).length ≤ A.length * 1 := by
        rw [← pts_len A]
        exact flat_len fun v hv => by
          unfold gF parN
          rw [List.length_map]
          split
          · simp
          · split <;> simp
      have ha : addAll [] ((pts (A ++ [c])).flatMap (gF (parN t))) = addAll (addAll [] ((pts A).flatMap (gF (parN t)))) (gF (parN t) (some c.toNat)) := by
        rw [← addAll_app]
        simp [pts]
      have go : ∀ acc' s', acc' = addAll [] ((pts (A ++ [c])).flatMap (gF (parN t))) → Told s' acc' → m_goquery_getParentNodes_0 (addAll [] ((pts A).flatMap (gF (parN t))), s, pts l, ((pts l).length : Int), (A.length : Int), store t) = some (.nx (acc', s', pts l, ((pts l).length : Int), ((A ++ [c]).length : Int), store t)) → loopO m_goquery_getParentNodes_0 (addAll [] ((pts A).flatMap (gF (parN t))), s, pts l, ((pts l).length : Int), (A.length : Int), store t) = some (addAll [] ((pts l).flatMap (gF (parN t))), store t) := fun acc' s' e hs' step => by
        subst e
        rw [loopO_nx step]
        exact ih (A ++ [c]) (by rw [hA]; simp) s' hs'
      have hw : IntKind.wrap .i64 ((A.length : Int) + 1) = ((A ++ [c]).length : Int) := by rw [w64 (by omega) (by omega)]; simp
      cases hp : par t c.toNat with
      | none =>
        have hg : gF (parN t) (some c.toNat) = [] := by unfold gF parN; simp [hp]
        rw [hg, addAll_nil] at ha
        refine go _ s ha.symm hs ?_
        simp only [m_goquery_getParentNodes_0, cond_dec, atI_nat, hc, bind_some, store_get hcl, rc_par, hp, Option.isNone_none, cond_true, hw]
        rw [if_pos (by omega)]
      | some p =>
        have hpa := (par_some hp).1
        have hpl2 : p < t.length := by omega
        by_cases h3 : kindN t p = 3
        · have hg : gF (parN t) (some c.toNat) = [some p] := by unfold gF parN; simp [hp, h3]
          rw [hg] at ha
          by_cases hm : some p ∈ addAll [] ((pts A).flatMap (gF (parN t)))
          · rw [addAll_in _ hm, addAll_nil] at ha
            refine go _ s ha.symm hs ?_
            simp only [m_goquery_getParentNodes_0, cond_dec, atI_nat, hc, bind_some, store_get hcl, rc_par, hp, Option.isNone_some, cond_false, hw, store_get hpl2]
            rw [if_pos (by omega), if_neg (by simpa using (kind_ty hR hpl2).2 h3), hs, decide_eq_true hm]
            rfl
          · rw [addAll_out _ hm, addAll_nil] at ha
            refine go _ (mput s (some p) true) ha.symm (fun u => ?_) ?_
            · rw [mget_mput, hs u]
              by_cases hu : u = some p
              · simp [hu]
              · simp [hu]
            · simp only [m_goquery_getParentNodes_0, cond_dec, atI_nat, hc, bind_some, store_get hcl, rc_par, hp, Option.isNone_some, cond_false, hw, store_get hpl2]
              rw [if_pos (by omega), if_neg (by simpa using (kind_ty hR hpl2).2 h3), hs, decide_eq_false hm, cond_false, appL_some (by simp only [List.length_singleton]; omega), bind_some]
        · have hg : gF (parN t) (some c.toNat) = [] := by unfold gF parN; simp [hp, h3]
          rw [hg, addAll_nil] at ha
          refine go _ s ha.symm hs ?_
          simp only [m_goquery_getParentNodes_0, cond_dec, atI_nat, hc, bind_some, store_get hcl, rc_par, hp, Option.isNone_some, cond_false, hw, store_get hpl2]
          rw [if_pos (by omega), if_pos (fun e => h3 ((kind_ty hR hpl2).1 e))]
  exact key l [] rfl [] told_nil
theorem parent_eq {l : List Int} (hf : fits1 t = true) (hR : RT t) (h : Dis t l) : m_impl_ParentOf_f (t, l) = some (addAll [] (l.flatMap (FI (parN t))), true) := by
  have h2 := hR.len
  have h1 := h.len h2
  have hF := few_par hR h
  have hm := parent_loop hR l (by omega) h.bd
  rw [show m_impl_ParentOf_f (t, l) = (m_impl_ParentOf (t, l, [])).map fun r => (r.1, r.2.1) from rfl]
  simp only [m_impl_ParentOf, chosen_dis l hf hR h, bind_some, Bool.not_true, cond_false, m_goquery_Selection_Parent, m_goquery_getParentNodes, hm, m_goquery_pushStack, hF.pts, places_dis hR (by omega) hF]
  rfl
/-- All above a node: its parent, and all above that. -/
theorem above_parts (hR : RT t) {a c : Nat} (ha : a < t.length) : c ∈ abvN t a ↔ c ∈ parN t a ∨ ∃ p ∈ parN t a, c ∈ abvN t p := by
  unfold abvN parN
  rw [← abvF_more (t := t) (n := t.length) (m := t.length + 1) ha (by omega)]
  simp only [abvF]
  cases hp : par t a with
  | none => simp
  | some p =>
    have hpa := (par_some hp).1
    simp only
    by_cases h3 : kindN t p = 3
    · rw [if_pos h3]
      simp
    · rw [if_neg h3]
      have h0 : abvF t t.length p = [] := by
        have hz : p = 0 := Decidable.byContradiction fun hne => by
          obtain ⟨v, hv⟩ := get_lt (l := t) (k := p) (by omega)
          have hn := hR.node p v hv
          rw [kind_some hv] at h3
          have h1 : v.kind ≠ 1 := fun e => hne (hn.k1 e)
          have := hn.k2 h3 h1
          have := (par_some hp).2.1
          omega
        subst hz
        cases hl : t.length with
        | zero => rfl
        | succ n =>
          simp only [abvF]
          cases hq : par t 0 with
          | none => rfl
          | some q => have := (par_some hq).1; omega
      rw [h0]
      simp
theorem mem_all {f : Nat → List Nat} {l : List Int} {c : Nat} : (c : Int) ∈ addAll [] (l.flatMap (FI f)) ↔ ∃ v ∈ l, c ∈ f v.toNat := by
  rw [addAll_mem, List.mem_flatMap]
  constructor
  · rintro (h | ⟨v, hv, h⟩)
    · cases h
    · obtain ⟨d, hd, e⟩ := List.mem_map.1 h
      have : d = c := Int.ofNat.inj e
      exact ⟨v, hv, this ▸ hd⟩
  · rintro ⟨v, hv, h⟩
    exact .inr ⟨v, hv, List.mem_map.2 ⟨c, h, rfl⟩⟩
theorem dis_all {f : Nat → List Nat} {l : List Int} (hF : Few t l f) : Dis t (addAll [] (l.flatMap (FI f))) := ⟨hF.bd, addAll_nodup List.nodup_nil⟩
end
theorem fn_parentChain (t : List Node) (l : List Int) : m_laws_FnParentChain (t, l) = some true := by
  simp only [m_laws_FnParentChain, zz1, bind_some, not_cond, cond_dec]
  cases hf : fits1 t
  · rfl
  · rw [if_pos rfl]
    split
    · rfl
    · obtain ⟨b, e, g⟩ := rising_ex t l hf (by omega)
      rw [e, bind_some]
      cases b
      · rfl
      · have h := g rfl
        have hR := h.rt
        have h2 := hR.len
        have hD : Dis t l := ⟨h.lb, asc_nodup h.asc⟩
        have hA := few_above hR hD
        have hP := few_par hR hD
        have hU := dis_all hP
        have hM := few_above hR hU
        have hUl := hU.len h2
        have hMd := dis_all hM
        have hMl := hMd.len h2
        have hAd := dis_all hA
        have hAl := hAd.len h2
        simp only [if_true]
        rw [parents_eq hf hR hD, bind_some, parent_eq hf hR hD, bind_some, parents_eq hf hR hU, bind_some]
        generalize hup : addAll [] (l.flatMap (FI (parN t))) = up at hU hM hUl hMd hMl ⊢
        generalize hmo : addAll [] (up.flatMap (FI (abvN t))) = more at hMd hMl ⊢
        generalize hall : addAll [] (l.flatMap (FI (abvN t))) = all at hAd hAl ⊢
        have hrel : m_spec_Related (t, up, (37 : Int), [], more, (0 : Int), (0 : Int)) = some (addAll [] (up ++ more), true) := by
          simp only [m_spec_Related, cond_dec]
          rw [if_neg (by decide), if_neg (by decide), if_neg (by decide), if_neg (by decide), if_neg (by decide), if_pos trivial, appL_some (by simp; omega), bind_some, List.nil_append, appL_some (by omega), bind_some, once_eq _ (by rw [List.length_append]; omega), bind_some]
        simp only
        rw [hrel, bind_some]
        simp only [cond_true]
        have hnd : (addAll [] (up ++ more)).Nodup := addAll_nodup List.nodup_nil
        have hsame : ∀ v, v ∈ all ↔ v ∈ addAll [] (up ++ more) := fun v => by
          rw [addAll_mem, List.mem_append]
          constructor
          · intro hv
            obtain ⟨c, rfl⟩ := Int.eq_ofNat_of_zero_le (hAd.bd v hv).1
            rw [← hall] at hv
            obtain ⟨u, hu, hc⟩ := mem_all.1 hv
            rcases (above_parts hR (toN (h.lb u hu))).1 hc with h1 | ⟨p, h1, h3⟩
            · refine .inr (.inl ?_)
              rw [← hup]
              exact mem_all.2 ⟨u, hu, h1⟩
            · refine .inr (.inr ?_)
              rw [← hmo]
              refine mem_all.2 ⟨(p : Int), ?_, by rw [Int.toNat_natCast]; exact h3⟩
              rw [← hup]
              exact mem_all.2 ⟨u, hu, h1⟩
          · rintro (hv | hv | hv)
            · cases hv
            · obtain ⟨c, rfl⟩ := Int.eq_ofNat_of_zero_le (hU.bd v hv).1
              rw [← hup] at hv
              obtain ⟨u, hu, hc⟩ := mem_all.1 hv
              rw [← hall]
              exact mem_all.2 ⟨u, hu, (above_parts hR (toN (h.lb u hu))).2 (.inl hc)⟩
            · obtain ⟨c, rfl⟩ := Int.eq_ofNat_of_zero_le (hMd.bd v hv).1
              rw [← hmo] at hv
              obtain ⟨p, hp, hc⟩ := mem_all.1 hv
              obtain ⟨q, rfl⟩ := Int.eq_ofNat_of_zero_le (hU.bd p hp).1
              rw [Int.toNat_natCast] at hc
              rw [← hup] at hp
              obtain ⟨u, hu, hq⟩ := mem_all.1 hp
              rw [← hall]
              exact mem_all.2 ⟨u, hu, (above_parts hR (toN (h.lb u hu))).2 (.inr ⟨q, hq, hc⟩)⟩
        have hperm := (List.perm_ext_iff_of_nodup hAd.nd hnd).2 hsame
        rw [sameOnce_true _ _ (by omega) hperm.length_eq.symm hAd.nd (fun v hv => (hsame v).1 hv), bind_some]
end Go.Proofs.Ytlgabeiaheoniaa.V
