/-
  The relatives of one node in the reference; what the steps select. Plain facts.
-/
import Derived.Test.YtlgabeiaheoniaaPRelN
import Derived.Test.YtlgabeiaheoniaaLwRel
namespace Go.Proofs.Ytlgabeiaheoniaa.V
open Go

section
variable {t : List Node}
theorem beside_t (E : List Nat) (a : Nat) (hE : E.length ≤ 100000) : loopO m_spec_BesideOf_0 ((a : Int), true, [], E.map Int.ofNat, (0 : Int)) = some ((E.filter fun c => decide (a < c)).map Int.ofNat) := by
  have key : ∀ C A, E = A ++ C → loopO m_spec_BesideOf_0 ((a : Int), true, (A.filter fun c => decide (a < c)).map Int.ofNat, E.map Int.ofNat, (A.length : Int)) = some ((E.filter fun c => decide (a < c)).map Int.ofNat) := by
    intro C
    induction C with
    | nil =>
      intro A hA
      refine loopO_out ?_
      simp only [m_spec_BesideOf_0, cond_dec]
      rw [hA, List.append_nil, if_neg (by simp)]
    | cons c C ih =>
      intro A hA
      have hlen := congrArg List.length hA
      simp only [List.length_append, List.length_cons] at hlen
      have hc : (E.map Int.ofNat)[A.length]? = some (c : Int) := by rw [hA]; simp
      obtain ⟨u, hu⟩ := get_lt (l := E.map Int.ofNat) (k := E.length - 1 - A.length) (by rw [List.length_map]; omega)
      have hw : IntKind.wrap .i64 (IntKind.wrap .i64 (((E.map Int.ofNat).length : Int) - 1) - (A.length : Int)) = ((E.length - 1 - A.length : Nat) : Int) := by
        rw [List.length_map, w64 (n := (E.length : Int) - 1) (by omega) (by omega), w64 (by omega) (by omega)]
        omega
      have hfl := List.length_filter_le (fun c => decide (a < c)) A
      have step : m_spec_BesideOf_0 ((a : Int), true, (A.filter fun c => decide (a < c)).map Int.ofNat, E.map Int.ofNat, (A.length : Int)) = some (.nx ((a : Int), true, ((A ++ [c]).filter fun c => decide (a < c)).map Int.ofNat, E.map Int.ofNat, ((A ++ [c]).length : Int))) := by
        simp only [m_spec_BesideOf_0, cond_dec, cond_true, Bool.not_true, cond_false, atI_nat, Int.toNat_natCast, hw, hu, hc, bind_some]
        rw [if_pos (by rw [List.length_map]; omega), w64 (by omega) (by omega), List.filter_append]
        by_cases h : a < c
        · rw [if_pos (by omega), appL_some (by simp; omega), bind_some, List.filter_cons_of_pos (by simpa using h)]
          simp
        · rw [if_neg (by omega), List.filter_cons_of_neg (by simpa using h)]
          simp
      rw [loopO_nx step]
      exact ih (A ++ [c]) (by rw [hA]; simp)
  exact key E [] rfl
theorem beside_f (E : List Nat) (a : Nat) (hE : E.length ≤ 100000) : loopO m_spec_BesideOf_0 ((a : Int), false, [], E.map Int.ofNat, (0 : Int)) = some ((E.reverse.filter fun c => decide (c < a)).map Int.ofNat) := by
  have key : ∀ C A, E.reverse = A ++ C → loopO m_spec_BesideOf_0 ((a : Int), false, (A.filter fun c => decide (c < a)).map Int.ofNat, E.map Int.ofNat, (A.length : Int)) = some ((E.reverse.filter fun c => decide (c < a)).map Int.ofNat) := by
    intro C
    induction C with
    | nil =>
      intro A hA
      have hlen := congrArg List.length hA
      simp only [List.length_append, List.length_reverse, List.length_nil] at hlen
      refine loopO_out ?_
      simp only [m_spec_BesideOf_0, cond_dec]
      rw [hA, List.append_nil, if_neg (by rw [List.length_map]; omega)]
    | cons c C ih =>
      intro A hA
      have hlen := congrArg List.length hA
      simp only [List.length_append, List.length_cons, List.length_reverse] at hlen
      have hu : (E.map Int.ofNat)[E.length - 1 - A.length]? = some (c : Int) := by
        have h1 : E.reverse[A.length]? = some c := by rw [hA]; simp
        rw [List.getElem?_reverse (by omega)] at h1
        rw [List.getElem?_map, h1]
        rfl
      have hw : IntKind.wrap .i64 (IntKind.wrap .i64 (((E.map Int.ofNat).length : Int) - 1) - (A.length : Int)) = ((E.length - 1 - A.length : Nat) : Int) := by
        rw [List.length_map, w64 (n := (E.length : Int) - 1) (by omega) (by omega), w64 (by omega) (by omega)]
        omega
      have hfl := List.length_filter_le (fun c => decide (c < a)) A
      have step : m_spec_BesideOf_0 ((a : Int), false, (A.filter fun c => decide (c < a)).map Int.ofNat, E.map Int.ofNat, (A.length : Int)) = some (.nx ((a : Int), false, ((A ++ [c]).filter fun c => decide (c < a)).map Int.ofNat, E.map Int.ofNat, ((A ++ [c]).length : Int))) := by
        simp only [m_spec_BesideOf_0, cond_dec, cond_true, Bool.not_false, cond_false, atI_nat, Int.toNat_natCast, hw, hu, bind_some]
        rw [if_pos (by rw [List.length_map]; omega), w64 (by omega) (by omega), List.filter_append]
        by_cases h : c < a
        · rw [if_pos (by omega), appL_some (by simp; omega), bind_some, List.filter_cons_of_pos (by simpa using h)]
          simp
        · rw [if_neg (by omega), List.filter_cons_of_neg (by simpa using h)]
          simp
      rw [loopO_nx step]
      exact ih (A ++ [c]) (by rw [hA]; simp)
  exact key E.reverse [] rfl
theorem beside_eq (hR : RT t) (a : Nat) (ha : a < t.length) (b : Bool) : m_spec_BesideOf (t, (a : Int), b) = some ((if b then nextN t a else prevN t a).map Int.ofNat) := by
  have ht := hR.len
  simp only [m_spec_BesideOf, Parent_eq t (by omega) hR.lam ha (Nat.le_refl _), bind_some, cond_dec, parI]
  unfold nextN prevN sibsF
  cases hp : par t a with
  | none =>
    simp only
    rw [if_pos (by omega)]
    cases b <;> rfl
  | some p =>
    have hpa := (par_some hp).1
    have hl := kids_len hR (by omega : p < t.length)
    have hel : (elems t p).length ≤ 200 := Nat.le_trans (List.length_filter_le _ _) hl
    simp only
    rw [if_neg (by omega), Elements_eq t (by omega) hR.lam (Nat.zero_le _) (by omega : p < t.length) (Nat.le_refl _), bind_some]
    cases b
    · rw [beside_f _ _ (by omega), bind_some]
      simp only [Bool.false_eq_true, if_false]
      unfold elems
      rw [← List.filter_reverse, List.filter_filter]
    · rw [beside_t _ _ (by omega), bind_some]
      simp only [if_true]
      unfold elems
      rw [List.filter_filter]
theorem atMost_eq (l : List Int) (hl : l.length ≤ 1000000) : m_spec_atMost l = some (l.take 1) := by
  simp only [m_spec_atMost]
  unfold subL
  by_cases h : (1 : Int) < (l.length : Int)
  · rw [if_pos h, if_pos ⟨by omega, by omega, by omega⟩]
    rfl
  · rw [if_neg h, if_pos ⟨by omega, by omega, by omega⟩, bind_some, Int.toNat_natCast, Int.toNat_zero, List.drop_zero, List.take_of_length_le (Nat.le_refl _), List.take_of_length_le (by omega)]
theorem upTo_eq (l w : List Int) (hl : l.length ≤ 1000000) (hw : w.length ≤ 2147483647) : m_spec_upTo (l, w) = some (l.takeWhile fun v => !decide (v ∈ w)) := by
  simp only [m_spec_upTo]
  have key : ∀ C A, l = A ++ C → (∀ v ∈ A, v ∉ w) → ∃ y : List Int ⊕ List Int, loopO m_spec_upTo_0 (l, w, (A.length : Int)) = some y ∧ selim (fun (y : List Int) => some y) (fun (y : List Int) => some y) y = some (l.takeWhile fun v => !decide (v ∈ w)) := by
    intro C
    induction C with
    | nil =>
      intro A hA hn
      have hlen := congrArg List.length hA
      simp only [List.length_append, List.length_nil] at hlen
      refine ⟨.inl l, loopO_out ?_, ?_⟩
      · simp only [m_spec_upTo_0, cond_dec]
        rw [if_neg (by omega)]
      · show some l = _
        rw [hA, List.takeWhile_append_of_pos (fun v hv => by simp [hn v hv])]
        rfl
    | cons c C ih =>
      intro A hA hn
      have hlen := congrArg List.length hA
      simp only [List.length_append, List.length_cons] at hlen
      have hc : l[A.length]? = some c := by rw [hA]; simp
      by_cases hm : c ∈ w
      · refine ⟨.inr A, loopO_out ?_, ?_⟩
        · simp only [m_spec_upTo_0, cond_dec, atI_nat]
          rw [if_pos (by omega), hc, bind_some, in_eq _ _ hw, bind_some, decide_eq_true hm, cond_true]
          unfold subL
          rw [if_pos ⟨by omega, by omega, by omega⟩, bind_some, Int.toNat_natCast, Int.toNat_zero, List.drop_zero]
          have : l.take A.length = A := by rw [hA]; simp
          rw [this]
        · show some A = _
          rw [hA, List.takeWhile_append_of_pos (fun v hv => by simp [hn v hv]), List.takeWhile_cons_of_neg (by simp [hm]), List.append_nil]
      · obtain ⟨y, g1, g2⟩ := ih (A ++ [c]) (by rw [hA]; simp) (fun v hv => by
          rcases List.mem_append.1 hv with h | h
          · exact hn v h
          · simp at h; subst h; exact hm)
        refine ⟨y, ?_, g2⟩
        rw [← g1]
        refine loopO_nx ?_
        simp only [m_spec_upTo_0, cond_dec, atI_nat]
        rw [if_pos (by omega), hc, bind_some, in_eq _ _ hw, bind_some, decide_eq_false hm, cond_false, w64 (by omega) (by omega)]
        simp
  obtain ⟨y, g1, g2⟩ := key l [] rfl (by simp)
  rw [show loopO m_spec_upTo_0 (l, w, (0 : Int)) = some y from g1, bind_some, g2]
variable {tx : List UInt8} {w : List Int} {x y : Int}
theorem rel_contents (hR : RT t) (a : Nat) (ha : a < t.length) : m_spec_RelativesOf (t, (a : Int), (21 : Int), tx, w, x, y) = some (FI (kidsN t) (a : Int), true) := by
  have ht := hR.len
  simp only [m_spec_RelativesOf, cond_dec]
  rw [if_neg (by decide), if_pos trivial, if_pos trivial, Kids_eq t (by omega) hR.lam (Nat.zero_le _) ha (Nat.le_refl _), bind_some]
  rfl
theorem sibsF_len (hR : RT t) {a : Nat} (ha : a < t.length) (q : Nat → Bool) (up : Bool) : (sibsF t a q up).length ≤ 200 := by
  obtain ⟨p, ⟨hp, h | h⟩ | h⟩ := sibsF_sub hR ha q up
  · exact Nat.le_trans h.length_le (kids_len hR hp)
  · have := h.length_le
    rw [List.length_reverse] at this
    exact Nat.le_trans this (kids_len hR hp)
  · rw [h]; simp
theorem rel_next (hR : RT t) (a : Nat) (ha : a < t.length) : m_spec_RelativesOf (t, (a : Int), (25 : Int), tx, w, x, y) = some (FI (fun a => (nextN t a).take 1) (a : Int), true) := by
  have hl : (nextN t a).length ≤ 200 := sibsF_len hR ha _ _
  simp only [m_spec_RelativesOf, cond_dec]
  rw [if_neg (by decide), if_neg (by decide), if_neg (by decide), if_neg (by decide), if_neg (by decide), if_pos trivial]
  simp only [decide_true]
  rw [beside_eq hR a ha true, bind_some, atMost_eq _ (by simp; omega), bind_some]
  simp [FI, List.map_take]
theorem rel_prevAll (hR : RT t) (a : Nat) (ha : a < t.length) : m_spec_RelativesOf (t, (a : Int), (29 : Int), tx, w, x, y) = some (FI (prevN t) (a : Int), true) := by
  simp only [m_spec_RelativesOf, cond_dec]
  rw [if_neg (by decide), if_neg (by decide), if_neg (by decide), if_neg (by decide), if_neg (by decide), if_neg (by decide), if_neg (by decide), if_neg (by decide), if_pos trivial, show decide ((29 : Int) = 26) = false from rfl, beside_eq hR a ha false, bind_some]
  rfl
theorem rel_until (hR : RT t) (hw : w.length ≤ 2147483647) (hwb : ∀ v ∈ w, 0 ≤ v) (a : Nat) (ha : a < t.length) : m_spec_RelativesOf (t, (a : Int), (27 : Int), tx, w, x, y) = some (FI (fun a => (nextN t a).takeWhile fun c => !decide (some c ∈ pts w)) (a : Int), true) := by
  have hl : (nextN t a).length ≤ 200 := sibsF_len hR ha _ _
  simp only [m_spec_RelativesOf, cond_dec]
  rw [if_neg (by decide), if_neg (by decide), if_neg (by decide), if_neg (by decide), if_neg (by decide), if_neg (by decide), if_neg (by decide), if_neg (by decide), if_neg (by decide), if_pos trivial]
  simp only [decide_true]
  rw [beside_eq hR a ha true, bind_some, upTo_eq _ _ (by simp; omega) hw, bind_some]
  have e : ∀ c : Nat, decide (some c ∈ pts w) = decide ((c : Int) ∈ w) := fun c => by
    have := pts_in (l := w) (v := (c : Int)) hwb (by omega)
    rw [Int.toNat_natCast] at this
    exact decide_eq_decide.2 this
  simp only [if_true, FI, Int.toNat_natCast, List.takeWhile_map, e]
  rfl
/-! What goquery selects -/
variable {l : List Int}
theorem Ris.lb (h : Ris t l) : ∀ v ∈ l, 0 ≤ v ∧ v < t.length := fun v hv => ⟨(h.el v hv).1, (h.el v hv).2.1⟩
theorem Ris.len (h : Ris t l) : l.length ≤ 200 := Nat.le_trans h.asc.len h.rt.len
theorem few_contents (h : Ris t l) : Few t l (kidsN t) := few_sib h.rt h.lb fun a ha => ⟨a, .inl ⟨ha, .inl (List.Sublist.refl _)⟩⟩
theorem few_next (h : Ris t l) : Few t l (fun a => (nextN t a).take 1) := few_sib h.rt h.lb fun a ha => sub_more (List.take_sublist _ _) (sibsF_sub h.rt ha _ _)
theorem few_prevAll (h : Ris t l) : Few t l (prevN t) := few_sib h.rt h.lb fun a ha => sibsF_sub h.rt ha _ _
theorem few_nextAll (h : Ris t l) : Few t l (nextN t) := few_sib h.rt h.lb fun a ha => sibsF_sub h.rt ha _ _
theorem few_sibs (h : Ris t l) : Few t l (sibN t) := few_sib h.rt h.lb fun a ha => sibsF_sub h.rt ha _ _
theorem few_until (h : Ris t l) (w : List (Option Nat)) : Few t l (fun a => (nextN t a).takeWhile fun c => !decide (some c ∈ w)) := few_sib h.rt h.lb fun a ha => sub_more (List.takeWhile_sublist _) (sibsF_sub h.rt ha _ _)
theorem toN {v : Int} (h : 0 ≤ v ∧ v < t.length) : v.toNat < t.length := by omega
theorem okAll (t : List Node) (a : Nat) : (kidsN t a).filter (okN t 4) = kidsN t a := List.filter_eq_self.2 fun c _ => by simp [okN]
theorem places_few {f : Nat → List Nat} (h : Ris t l) (hF : Few t l f) : m_impl_placesOf (ptrs t, pts (addAll [] (l.flatMap (FI f)))) = some (addAll [] (l.flatMap (FI f))) := by
  have h1 := h.len
  have h2 := h.rt.len
  have h3 := hF.flen (by omega)
  have h4 := addAll_len (l.flatMap (FI f)) []
  simp only [List.length_nil, Nat.zero_add] at h4
  exact placesOf_eq t (by omega) _ (by omega) hF.bd
theorem contents_eq (hf : fits1 t = true) (h : Ris t l) : m_impl_ContentsOf_f (t, l) = some (addAll [] (l.flatMap (FI (kidsN t))), true) := by
  have h1 := h.len
  have h2 := h.rt.len
  have hF := few_contents h
  have hm := map_kids (4 : Int) (by omega) hF (by omega) (fun i v hv => by
    rw [clo_kids h.rt 4 (.inr rfl) i _ (toN (h.lb v hv))]
    simp only [gF, Option.getD_some, okAll])
  rw [show m_impl_ContentsOf_f (t, l) = (m_impl_ContentsOf (t, l, [])).map fun r => (r.1, r.2.1) from rfl]
  simp only [m_impl_ContentsOf, chosen_eq t l hf h.rt h.asc, bind_some, Bool.not_true, cond_false, m_goquery_Selection_Contents, m_goquery_getChildrenNodes, hm, m_goquery_pushStack, hF.pts, places_few h hF]
  rfl
theorem next_eq (hf : fits1 t = true) (h : Ris t l) : m_impl_NextOf_f (t, l) = some (addAll [] (l.flatMap (FI fun a => (nextN t a).take 1)), true) := by
  have h1 := h.len
  have h2 := h.rt.len
  have hF := few_next h
  have hm := map_sibn (1 : Int) (by omega) hF (by omega) (fun i v hv => clo_next h.rt i _ (toN (h.lb v hv)) (h.el v hv).2.2)
  rw [show m_impl_NextOf_f (t, l) = (m_impl_NextOf (t, l, [])).map fun r => (r.1, r.2.1) from rfl]
  simp only [m_impl_NextOf, chosen_eq t l hf h.rt h.asc, bind_some, Bool.not_true, cond_false, m_goquery_Selection_Next, m_goquery_getSiblingNodes_n, cond_dec]
  rw [if_neg (by decide), if_neg (by decide), hm]
  simp only [bind_some, m_goquery_pushStack, hF.pts, places_few h hF]
  rfl
theorem prevAll_eq (hf : fits1 t = true) (h : Ris t l) : m_impl_PrevAllOf_f (t, l) = some (addAll [] (l.flatMap (FI (prevN t))), true) := by
  have h1 := h.len
  have h2 := h.rt.len
  have hF := few_prevAll h
  have hm := map_sibn (-2 : Int) (by omega) hF (by omega) (fun i v hv => clo_prevAll h.rt i _ (toN (h.lb v hv)) (h.el v hv).2.2)
  rw [show m_impl_PrevAllOf_f (t, l) = (m_impl_PrevAllOf (t, l, [])).map fun r => (r.1, r.2.1) from rfl]
  simp only [m_impl_PrevAllOf, chosen_eq t l hf h.rt h.asc, bind_some, Bool.not_true, cond_false, m_goquery_Selection_PrevAll, m_goquery_getSiblingNodes_n, cond_dec]
  rw [if_neg (by decide), if_neg (by decide), hm]
  simp only [bind_some, m_goquery_pushStack, hF.pts, places_few h hF]
  rfl
theorem nextAll_eq (hf : fits1 t = true) (h : Ris t l) : m_impl_NextAllOf_f (t, l) = some (addAll [] (l.flatMap (FI (nextN t))), true) := by
  have h1 := h.len
  have h2 := h.rt.len
  have hF := few_nextAll h
  have hm := map_sibn (2 : Int) (by omega) hF (by omega) (fun i v hv => clo_nextAll h.rt i _ (toN (h.lb v hv)) (h.el v hv).2.2)
  rw [show m_impl_NextAllOf_f (t, l) = (m_impl_NextAllOf (t, l, [])).map fun r => (r.1, r.2.1) from rfl]
  simp only [m_impl_NextAllOf, chosen_eq t l hf h.rt h.asc, bind_some, Bool.not_true, cond_false, m_goquery_Selection_NextAll, m_goquery_getSiblingNodes_n, cond_dec]
  rw [if_neg (by decide), if_neg (by decide), hm]
  simp only [bind_some, m_goquery_pushStack, hF.pts, places_few h hF]
  rfl
theorem until_of {w : List Int} (hf : fits1 t = true) (h : Ris t l) (hw : Ris t w) : m_impl_NextUntilOf_f (t, l, w) = some (addAll [] (l.flatMap (FI fun a => (nextN t a).takeWhile fun c => !decide (some c ∈ pts w))), true) := by
  have h1 := h.len
  have h2 := h.rt.len
  have h3 := hw.len
  have hF := few_until h (pts w)
  have hth := these_eq t w (by omega) hw.asc.bd
  have hm := map_sibu (3 : Int) (pts w) (by omega) hF (by omega) (fun i v hv => clo_until h.rt i w (by omega) _ (toN (h.lb v hv)) (h.el v hv).2.2)
  rw [show m_impl_NextUntilOf_f (t, l, w) = (m_impl_NextUntilOf (t, l, w, [])).map fun r => (r.1, r.2.1) from rfl]
  simp only [m_impl_NextUntilOf, chosen_eq t l hf h.rt h.asc, bind_some, hth, Bool.not_true, cond_false, m_goquery_Selection_NextUntilNodes, m_goquery_getSiblingNodes_u, cond_dec]
  rw [if_pos trivial, hm]
  simp only [bind_some, m_goquery_pushStack, hF.pts, places_few h hF]
  rfl
theorem same_few {f : Nat → List Nat} (h : Ris t l) (hF : Few t l f) : m_spec_SameOnce (addAll [] (l.flatMap (FI f)), addAll [] (l.flatMap (FI f))) = some true := by
  have h1 := h.len
  have h3 := hF.flen (by omega)
  have h4 := addAll_len (l.flatMap (FI f)) []
  simp only [List.length_nil, Nat.zero_add] at h4
  exact sameOnce_true _ _ (by omega) rfl (addAll_nodup List.nodup_nil) fun v hv => hv
theorem rel_of {f : Nat → List Nat} (h : Ris t l) (hF : Few t l f) (op : Int) (hop : op < 32) (hr : ∀ a, a < t.length → m_spec_RelativesOf (t, (a : Int), op, tx, w, x, y) = some (FI f (a : Int), true)) : m_spec_Related (t, l, op, tx, w, x, y) = some (addAll [] (l.flatMap (FI f)), true) :=
  related_eq hF (Nat.le_trans h.len (by decide)) (fun v hv => (h.lb v hv).1) op tx w x y hop fun v hv => ⟨_, hr v (by
    rcases hv with hv | rfl
    · have := h.lb _ hv; omega
    · exact h.rt.pos), fun _ => rfl⟩
end
theorem fn_contentsOf (t : List Node) (l : List Int) : m_laws_FnContentsOf (t, l) = some true := by
  simp only [m_laws_FnContentsOf, zz1, bind_some, not_cond, cond_dec]
  cases hf : fits1 t
  · rfl
  · rw [if_pos rfl]
    split
    · rfl
    · obtain ⟨b, e, g⟩ := rising_ex t l hf (by omega)
      rw [e, bind_some]
      cases b
      · rfl
      · have h := g rfl
        simp only [if_true, m_laws_by7, bind_some]
        rw [rel_of h (few_contents h) 21 (by decide) fun a ha => rel_contents h.rt a ha, bind_some, contents_eq hf h, bind_some]
        simp only [cond_true]
        rw [same_few h (few_contents h), bind_some]
theorem fn_nextOf (t : List Node) (l : List Int) : m_laws_FnNextOf (t, l) = some true := by
  simp only [m_laws_FnNextOf, zz1, bind_some, not_cond, cond_dec]
  cases hf : fits1 t
  · rfl
  · rw [if_pos rfl]
    split
    · rfl
    · obtain ⟨b, e, g⟩ := rising_ex t l hf (by omega)
      rw [e, bind_some]
      cases b
      · rfl
      · have h := g rfl
        simp only [if_true, m_laws_by7, bind_some]
        rw [rel_of h (few_next h) 25 (by decide) fun a ha => rel_next h.rt a ha, bind_some, next_eq hf h, bind_some]
        simp only [cond_true]
        rw [same_few h (few_next h), bind_some]
theorem fn_prevAllOf (t : List Node) (l : List Int) : m_laws_FnPrevAllOf (t, l) = some true := by
  simp only [m_laws_FnPrevAllOf, zz1, bind_some, not_cond, cond_dec]
  cases hf : fits1 t
  · rfl
  · rw [if_pos rfl]
    split
    · rfl
    · obtain ⟨b, e, g⟩ := rising_ex t l hf (by omega)
      rw [e, bind_some]
      cases b
      · rfl
      · have h := g rfl
        simp only [if_true, m_laws_by7, bind_some]
        rw [rel_of h (few_prevAll h) 29 (by decide) fun a ha => rel_prevAll h.rt a ha, bind_some, prevAll_eq hf h, bind_some]
        simp only [cond_true]
        rw [same_few h (few_prevAll h), bind_some]
theorem fn_nextUntilOf (t : List Node) (l w : List Int) : m_laws_FnNextUntilOf (t, l, w) = some true := by
  simp only [m_laws_FnNextUntilOf, zz1, bind_some, not_cond, cond_dec]
  cases hf : fits1 t
  · rfl
  · rw [if_pos rfl]
    split
    · rfl
    · split
      · rfl
      · obtain ⟨b, e, g⟩ := rising_ex t l hf (by omega)
        obtain ⟨b2, e2, g2⟩ := rising_ex t w hf (by omega)
        rw [e, bind_some]
        cases b
        · rfl
        · rw [e2]
          simp only [if_true, bind_some]
          cases b2
          · rfl
          · have h := g rfl
            have hw := g2 rfl
            have h3 := hw.len
            simp only [if_true]
            rw [rel_of h (few_until h (pts w)) 27 (by decide) fun a ha => rel_until h.rt (by omega) (fun v hv => (hw.el v hv).1) a ha, bind_some, until_of hf h hw, bind_some]
            simp only [cond_true]
            rw [same_few h (few_until h (pts w)), bind_some]
end Go.Proofs.Ytlgabeiaheoniaa.V
