/-
  Siblings as parts; children in the tree's order. Plain facts.
-/
import Derived.Test.YtlgabeiaheoniaaPRelS
namespace Go.Proofs.Ytlgabeiaheoniaa.V
open Go

section
variable {t : List Node}
theorem one_eq {f : Nat → List Nat} {v : Int} (hF : Few t [v] f) : addAll [] ([v].flatMap (FI f)) = FI f v := by
  simp only [List.flatMap_cons, List.flatMap_nil, List.append_nil]
  refine addAll_once ?_
  unfold FI
  exact (hF.nd v (by simp)).map (f := Int.ofNat) fun a b hne e => hne (Int.ofNat.inj e)
theorem siblings_loop {l : List Int} (h : Ris t l) : loopO m_impl_siblings_0 (pts l, pts l, ((pts l).length : Int), (0 : Int), store t) = some (.inl (pts l, store t)) := by
  have h1 := h.len
  have hl := loop_all (body := m_impl_siblings_0) (pts l) (fun _ => true) (fun k => (pts l, pts l, ((pts l).length : Int), (k : Int), store t)) (.inl (pts l, store t)) (.inl (pts l, store t)) (fun k u hu => by
    have hk := (List.getElem?_eq_some_iff.1 hu).1
    obtain ⟨v, hv, rfl⟩ := List.mem_map.1 (List.mem_of_getElem? hu)
    have hva := toN (h.lb v hv)
    obtain ⟨p, hp, _⟩ := el_par h.rt hva (h.el v hv).2.2
    rw [pts_len] at hk
    simp only [m_impl_siblings_0, cond_dec, atI_nat]
    rw [if_pos (by rw [pts_len]; omega), hu]
    simp only [bind_some, store_get hva, rc_par, hp, Option.isNone_some, cond_false]
    rw [w64 (by omega) (by omega)]
    rfl) (by
    simp only [m_impl_siblings_0, cond_dec]
    rw [if_neg (by omega)]) 0 (Nat.zero_le _)
  rw [show loopO m_impl_siblings_0 (pts l, pts l, ((pts l).length : Int), (0 : Int), store t) = _ from hl]
  split <;> rfl
theorem siblings_eq {l : List Int} (hf : fits1 t = true) (h : Ris t l) : m_impl_SiblingsOf_f (t, l) = some (addAll [] (l.flatMap (FI (sibN t))), true) := by
  have h1 := h.len
  have h2 := h.rt.len
  have hF := few_sibs h
  have hm := map_sibn (0 : Int) (by omega) hF (by omega) (fun i v hv => clo_all h.rt i _ (toN (h.lb v hv)) (h.el v hv).2.2)
  rw [show m_impl_SiblingsOf_f (t, l) = (m_impl_SiblingsOf (t, l, [])).map fun r => (r.1, r.2.1) from rfl]
  simp only [m_impl_SiblingsOf, chosen_eq t l hf h.rt h.asc, bind_some, Bool.not_true, cond_false, m_impl_siblings, siblings_loop h, selim_l, m_goquery_Selection_Siblings, m_goquery_getSiblingNodes_n, cond_dec]
  rw [if_neg (by decide), if_neg (by decide), hm]
  simp only [bind_some, m_goquery_pushStack, hF.pts, places_few h hF]
  rfl
theorem sib_parts (hR : RT t) {a : Nat} (ha : a < t.length) (h3 : kindN t a = 3) : (sibN t a).length = (prevN t a).length + (nextN t a).length ∧ ∀ c ∈ sibN t a, c ∈ prevN t a ∨ c ∈ nextN t a := by
  obtain ⟨p, hp, _⟩ := el_par hR ha h3
  obtain ⟨hpl, A, B, hk, h1, h2⟩ := sib_split hR ha hp
  have e : sibN t a = A.filter (okN t 0) ++ B.filter (okN t 0) := by
    unfold sibN sibsF
    simp only [hp, if_true]
    rw [hk, List.filter_append, List.filter_cons_of_neg (by simp)]
    congr 1
    · exact List.filter_congr fun c hc => by rw [ok_ne (by decide), decide_eq_true (by have := h1 c hc; omega), Bool.true_and]
    · exact List.filter_congr fun c hc => by rw [ok_ne (by decide), decide_eq_true (by have := h2 c hc; omega), Bool.true_and]
  rw [e, prevN_eq hp hk h1 h2 (st := 0) (by decide), nextN_eq hp hk h1 h2 (st := 0) (by decide), List.filter_reverse]
  refine ⟨by simp, fun c hc => ?_⟩
  rcases List.mem_append.1 hc with h | h
  · exact .inl (List.mem_reverse.2 h)
  · exact .inr h
/-- Order of places that ascend. -/
theorem order_true {l : List Int} (h : Asc t l) (hl : l.length ≤ 1000000) : m_spec_Order (t, l) = some true := by
  simp only [m_spec_Order]
  have hl2 := loop_all (body := m_spec_Order_0) l (fun _ => true) (fun k => (t, l, (k : Int))) (.inl ()) (.inr false) (fun k v hv => by
    have hk := (List.getElem?_eq_some_iff.1 hv).1
    obtain ⟨b1, b2⟩ := h.bd k v hv
    simp only [m_spec_Order_0, cond_dec, atI_nat]
    rw [if_pos (by omega), hv]
    simp only [bind_some]
    rw [if_neg (by omega), if_neg (by omega), w64 (n := (k : Int) + 1) (by omega) (by omega)]
    split
    · rename_i h6
      obtain ⟨j, rfl⟩ : ∃ j, k = j + 1 := ⟨k - 1, by omega⟩
      obtain ⟨u, hu⟩ := get_lt (l := l) (k := j) (by omega)
      have e : IntKind.wrap .i64 (((j + 1 : Nat) : Int) - 1) = (j : Int) := by rw [w64 (by omega) (by omega)]; omega
      have := h.up j u v hu hv
      rw [e, atI_nat, hu, bind_some, if_neg (by omega)]
      rfl
    · rfl) (by
    simp only [m_spec_Order_0, cond_dec]
    rw [if_neg (by omega)]) 0 (Nat.zero_le _)
  rw [show loopO m_spec_Order_0 (t, l, (0 : Int)) = _ from hl2, bind_some, if_pos (by simp)]
  rfl
theorem few_children {l : List Int} (h : Ris t l) : Few t l (fun a => (kidsN t a).filter (okN t 0)) := few_sib h.rt h.lb fun a ha => ⟨a, .inl ⟨ha, .inl List.filter_sublist⟩⟩
theorem children_eq {l : List Int} (hf : fits1 t = true) (h : Ris t l) : m_impl_ChildrenOf_f (t, l) = some (addAll [] (l.flatMap (FI fun a => (kidsN t a).filter (okN t 0))), true) := by
  have h1 := h.len
  have h2 := h.rt.len
  have hF := few_children h
  have hm := map_kids (0 : Int) (by omega) hF (by omega) (fun i v hv => clo_kids h.rt 0 (.inl rfl) i _ (toN (h.lb v hv)))
  rw [show m_impl_ChildrenOf_f (t, l) = (m_impl_ChildrenOf (t, l, [])).map fun r => (r.1, r.2.1) from rfl]
  simp only [m_impl_ChildrenOf, chosen_eq t l hf h.rt h.asc, bind_some, Bool.not_true, cond_false, m_goquery_Selection_Children, m_goquery_getChildrenNodes, hm, m_goquery_pushStack, hF.pts, places_few h hF]
  rfl
theorem kids_asc (hR : RT t) {a : Nat} (ha : a < t.length) : Asc t (FI (kidsN t) (a : Int)) := by
  unfold FI
  rw [Int.toNat_natCast]
  refine ⟨fun i v hv => ?_, fun i v w hv hw => ?_⟩
  · rw [List.getElem?_map] at hv
    cases hc : (kidsN t a)[i]? with
    | none => rw [hc] at hv; cases hv
    | some c =>
      rw [hc] at hv
      cases hv
      have := kids_lt hR ha (List.mem_of_getElem? hc)
      simp only [Int.ofNat_eq_natCast]
      omega
  · rw [List.getElem?_map] at hv hw
    cases hc : (kidsN t a)[i]? with
    | none => rw [hc] at hv; cases hv
    | some c =>
      cases hd : (kidsN t a)[i + 1]? with
      | none => rw [hd] at hw; cases hw
      | some d =>
        rw [hc] at hv
        rw [hd] at hw
        cases hv
        cases hw
        have := kids_get_lt (hR.sub ha).1 (by omega) hc hd
        simp only [Int.ofNat_eq_natCast]
        omega
theorem child_loop (hR : RT t) (K : List Nat) (hK : ∀ c ∈ K, c < t.length) (hKl : K.length ≤ 1000000) (a : List Int) (e f : Bool) : loopO m_laws_FnChildrenOrder_0 (t, a, e, K.map Int.ofNat, f, [], (0 : Int)) = some (.inl (t, a, e, K.map Int.ofNat, f, (K.filter (okN t 0)).map Int.ofNat)) := by
  have key : ∀ C A, K = A ++ C → loopO m_laws_FnChildrenOrder_0 (t, a, e, K.map Int.ofNat, f, (A.filter (okN t 0)).map Int.ofNat, (A.length : Int)) = some (.inl (t, a, e, K.map Int.ofNat, f, (K.filter (okN t 0)).map Int.ofNat)) := by
    intro C
    induction C with
    | nil =>
      intro A hA
      refine loopO_out ?_
      simp only [m_laws_FnChildrenOrder_0, cond_dec]
      rw [hA, List.append_nil, if_neg (by simp)]
    | cons c C ih =>
      intro A hA
      have hlen := congrArg List.length hA
      simp only [List.length_append, List.length_cons] at hlen
      have hc : (K.map Int.ofNat)[A.length]? = some (c : Int) := by rw [hA]; simp
      have hct : c < t.length := hK c (by rw [hA]; simp)
      obtain ⟨v, hv⟩ := get_lt hct
      have hfl := List.length_filter_le (okN t 0) A
      have step : m_laws_FnChildrenOrder_0 (t, a, e, K.map Int.ofNat, f, (A.filter (okN t 0)).map Int.ofNat, (A.length : Int)) = some (.nx (t, a, e, K.map Int.ofNat, f, ((A ++ [c]).filter (okN t 0)).map Int.ofNat, ((A ++ [c]).length : Int))) := by
        simp only [m_laws_FnChildrenOrder_0, cond_dec, atI_nat, Int.toNat_natCast, hc, bind_some, hv]
        rw [if_pos (by rw [List.length_map]; omega), if_neg (by omega), if_neg (by omega), w64 (by omega) (by omega), List.filter_append]
        by_cases h : v.kind = 3
        · rw [if_pos h, appL_some (by simp; omega), bind_some, List.filter_cons_of_pos (by rw [ok_ne (by decide), kind_some hv, h]; rfl)]
          simp
        · rw [if_neg h, List.filter_cons_of_neg (by rw [ok_ne (by decide), kind_some hv]; simpa using h)]
          simp
      rw [loopO_nx step]
      exact ih (A ++ [c]) (by rw [hA]; simp)
  exact key K [] rfl
end
theorem fn_siblingParts (t : List Node) (v : Int) : m_laws_FnSiblingParts (t, v) = some true := by
  simp only [m_laws_FnSiblingParts, zz1, bind_some, not_cond, cond_dec]
  cases hf : fits1 t
  · rfl
  · rw [if_pos rfl]
    obtain ⟨b, e, g⟩ := rising_ex t [v] hf (by simp)
    rw [e, bind_some]
    cases b
    · rfl
    · have h := g rfl
      obtain ⟨b1, b2, b3⟩ := h.el v (by simp)
      obtain ⟨a, rfl⟩ := Int.eq_ofNat_of_zero_le b1
      rw [Int.toNat_natCast] at b3
      have hal : a < t.length := by omega
      have hl1 : (prevN t a).length ≤ 200 := sibsF_len h.rt hal _ _
      have hl2 : (nextN t a).length ≤ 200 := sibsF_len h.rt hal _ _
      obtain ⟨s1, s2⟩ := sib_parts h.rt hal b3
      simp only [if_true]
      rw [siblings_eq hf h, bind_some, prevAll_eq hf h, bind_some, nextAll_eq hf h, bind_some, one_eq (few_sibs h), one_eq (few_prevAll h), one_eq (few_nextAll h)]
      simp only [cond_true]
      rw [appL_some (by simp [FI]; omega), bind_some, appL_some (by simp [FI]; omega), bind_some, sameOnce_true _ _ (by simp [FI]; omega) (by simp [FI]; omega) ?_ ?_, bind_some]
      · exact ((few_sibs h).nd (a : Int) (by simp)).map (f := Int.ofNat) fun a b hne e => hne (Int.ofNat.inj e)
      · intro u hu
        obtain ⟨c, hc, rfl⟩ := List.mem_map.1 hu
        rw [Int.toNat_natCast] at hc
        rw [List.nil_append, List.mem_append]
        rcases s2 c hc with h | h
        · exact .inl (List.mem_map.2 ⟨c, by rwa [Int.toNat_natCast], rfl⟩)
        · exact .inr (List.mem_map.2 ⟨c, by rwa [Int.toNat_natCast], rfl⟩)
theorem fn_childrenOrder (t : List Node) (v : Int) : m_laws_FnChildrenOrder (t, v) = some true := by
  simp only [m_laws_FnChildrenOrder, zz1, bind_some, not_cond, cond_dec]
  cases hf : fits1 t
  · rfl
  · rw [if_pos rfl]
    obtain ⟨b, e, g⟩ := rising_ex t [v] hf (by simp)
    rw [e, bind_some]
    cases b
    · rfl
    · have h := g rfl
      obtain ⟨b1, b2, b3⟩ := h.el v (by simp)
      obtain ⟨a, rfl⟩ := Int.eq_ofNat_of_zero_le b1
      have hal : a < t.length := by omega
      have hkl := kids_len h.rt hal
      have hfl := List.length_filter_le (okN t 0) (kidsN t a)
      have hF1 : FI (kidsN t) (a : Int) = (kidsN t a).map Int.ofNat := by unfold FI; rw [Int.toNat_natCast]
      have hF2 : FI (fun a => (kidsN t a).filter (okN t 0)) (a : Int) = ((kidsN t a).filter (okN t 0)).map Int.ofNat := by unfold FI; rw [Int.toNat_natCast]
      simp only [if_true]
      rw [children_eq hf h, bind_some, contents_eq hf h, bind_some, one_eq (few_children h), one_eq (few_contents h)]
      simp only
      rw [hF1, child_loop h.rt _ (fun c hc => kids_lt h.rt hal hc) (by omega), bind_some, selim_l]
      simp only [cond_true]
      rw [← hF1, order_true (kids_asc h.rt hal) (by rw [hF1, List.length_map]; omega), bind_some, hF2]
      simp only [cond_true]
      rw [sameList_refl _ (by rw [List.length_map]; omega), bind_some]
end Go.Proofs.Ytlgabeiaheoniaa.V
