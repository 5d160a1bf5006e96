/-
  The relatives of one node, in goquery and in the reference. Plain facts.
-/
import Derived.Test.YtlgabeiaheoniaaPRel
namespace Go.Proofs.Ytlgabeiaheoniaa.V
open Go

theorem isPlace_eq (l : List Int) (v : Int) (hl : l.length ≤ 2147483647) : m_laws_isPlace (l, v) = some (decide (v ∈ l)) := by
  simp only [m_laws_isPlace]
  have h := loop_all (body := m_laws_isPlace_0) l (fun x => !decide (x = v)) (fun k => (l, v, (k : Int))) (.inl ()) (.inr true) (fun k u hu => by
    have hk := (List.getElem?_eq_some_iff.1 hu).1
    simp only [m_laws_isPlace_0, cond_dec, atI_nat]
    rw [if_pos (by omega), hu, bind_some, w64 (by omega) (by omega)]
    by_cases e : u = v
    · rw [if_pos e, decide_eq_true e]; rfl
    · rw [if_neg e, decide_eq_false e]; rfl) (by
    simp only [m_laws_isPlace_0, cond_dec]
    rw [if_neg (by omega)]) 0 (Nat.zero_le _)
  rw [show loopO m_laws_isPlace_0 (l, v, (0 : Int)) = _ from h, bind_some, List.drop_zero]
  have e : (l.all fun x => !decide (x = v)) = !decide (v ∈ l) := by
    rw [Bool.eq_iff_iff]
    simp only [List.all_eq_true, Bool.not_eq_true', decide_eq_false_iff_not]
    constructor
    · intro h hv; exact h v hv rfl
    · intro h x hx e; exact h (e ▸ hx)
  rw [e]
  cases decide (v ∈ l) <;> rfl
theorem elements_ex (t : List Node) (l : List Int) (hl : l.length ≤ 2147483647) (ht : t.length ≤ 2147483647) : ∃ b, m_laws_elements (t, l) = some b ∧ (b = true → ∀ v ∈ l, 0 ≤ v ∧ v < t.length ∧ kindN t v.toNat = 3) := by
  simp only [m_laws_elements]
  obtain ⟨y, h, q1, q2⟩ := loopO_rule (body := m_laws_elements_0) (fun x => ∃ k : Nat, x = (t, l, (k : Int)) ∧ k ≤ l.length ∧ ∀ (i : Nat) (v : Int), i < k → l[i]? = some v → 0 ≤ v ∧ v < t.length ∧ kindN t v.toNat = 3) (fun _ y => (y = .inl () → ∀ v ∈ l, 0 ≤ v ∧ v < t.length ∧ kindN t v.toNat = 3) ∧ ∀ b, y = .inr b → b = false) (fun x => ((l.length : Int) - x.2.2).toNat) (fun x hx => by
    obtain ⟨k, rfl, hk, h1⟩ := hx
    simp only [m_laws_elements_0, cond_dec, atI_nat]
    split
    · rename_i h3
      obtain ⟨v, hv⟩ := get_lt (l := l) (k := k) (by omega)
      rw [hv]
      simp only [bind_some]
      split
      · exact .inl ⟨_, rfl, (fun h => by cases h), fun b h => by cases h; rfl⟩
      · split
        · exact .inl ⟨_, rfl, (fun h => by cases h), fun b h => by cases h; rfl⟩
        · rename_i h4 h5
          obtain ⟨n, rfl⟩ := Int.eq_ofNat_of_zero_le (by omega : 0 ≤ v)
          obtain ⟨u, hu⟩ := get_lt (l := t) (k := n) (by omega)
          rw [atI_nat, hu]
          simp only [bind_some]
          split
          · exact .inl ⟨_, rfl, (fun h => by cases h), fun b h => by cases h; rfl⟩
          · rename_i h6
            have hs : subL l 0 (k : Int) = some (l.take k) := by
              unfold subL
              rw [if_pos ⟨by omega, by omega, by omega⟩]
              simp
            rw [hs, bind_some, isPlace_eq _ _ (by rw [List.length_take]; omega), bind_some, w64 (by omega) (by omega)]
            cases decide ((n : Int) ∈ l.take k) with
            | true => exact .inl ⟨_, rfl, (fun h => by cases h), fun b h => by cases h; rfl⟩
            | false =>
              refine .inr ⟨_, rfl, ⟨k + 1, by simp, by omega, fun i w hi hw => ?_⟩, by simp only; omega, fun _ h => h⟩
              by_cases e : i = k
              · subst e
                rw [hv] at hw
                cases hw
                refine ⟨by omega, by omega, ?_⟩
                rw [Int.toNat_natCast, kind_some hu]
                exact Decidable.byContradiction h6
              · exact h1 i w (by omega) hw
    · have : k = l.length := by omega
      subst this
      exact .inl ⟨_, rfl, (fun _ v hv => by
        obtain ⟨i, hi⟩ := List.mem_iff_getElem?.1 hv
        exact h1 i v (List.getElem?_eq_some_iff.1 hi).1 hi), fun b h => by cases h⟩) (t, l, (0 : Int)) ⟨0, rfl, Nat.zero_le _, fun i v hi => by omega⟩
  rw [h, bind_some]
  rcases y with u | b
  · exact ⟨_, rfl, fun _ => q1 rfl⟩
  · obtain rfl := q2 b rfl
    exact ⟨_, rfl, fun h => by cases h⟩
/-- Elements of a right tree, ascending. -/
structure Ris (t : List Node) (l : List Int) : Prop where
  rt : RT t
  asc : Asc t l
  el : ∀ v ∈ l, 0 ≤ v ∧ v < t.length ∧ kindN t v.toNat = 3
theorem rising_ex (t : List Node) (l : List Int) (hf : fits1 t = true) (hl : l.length ≤ 2147483647) : ∃ b, m_laws_rising (t, l) = some b ∧ (b = true → Ris t l) := by
  have ht : t.length ≤ 2147483647 := by
    simp only [fits1, Bool.and_eq_true, decide_eq_true_eq] at hf
    exact hf.1
  obtain ⟨b1, e1, g1⟩ := Right_ex t hf
  obtain ⟨b2, e2, g2⟩ := order_ex t l hl
  obtain ⟨b3, e3, g3⟩ := elements_ex t l hl ht
  simp only [m_laws_rising, e1, bind_some]
  cases b1
  · exact ⟨_, rfl, fun h => by cases h⟩
  · simp only [cond_true, e2, bind_some]
    cases b2
    · exact ⟨_, rfl, fun h => by cases h⟩
    · simp only [cond_true, e3, bind_some]
      exact ⟨_, rfl, fun h => ⟨g1 rfl, g2 rfl, g3 h⟩⟩
/-! Relatives -/
def sibsF (t : List Node) (a : Nat) (q : Nat → Bool) (up : Bool) : List Nat := match par t a with
  | none => []
  | some p => (if up then kidsN t p else (kidsN t p).reverse).filter fun c => q c && (kindN t c == 3)
/-- The elements behind a node; those ahead of it, the nearest one first. -/
def nextN (t : List Node) (a : Nat) : List Nat := sibsF t a (fun c => decide (a < c)) true
def prevN (t : List Node) (a : Nat) : List Nat := sibsF t a (fun c => decide (c < a)) false
section
variable {t : List Node}
theorem el_par (hR : RT t) {a : Nat} (ha : a < t.length) (h3 : kindN t a = 3) : ∃ p, par t a = some p ∧ p < a := by
  have h0 : a ≠ 0 := fun e => by
    obtain ⟨v, hv, h1⟩ := hR.k0
    subst e
    rw [kind_some hv, h1] at h3
    exact absurd h3 (by decide)
  have hL : Lam t 0 (0 + sz t 0) := by rw [hR.root, Nat.zero_add]; exact hR.lam
  obtain ⟨p, h1, _, h2⟩ := par_in hL (by omega : 0 < a) (by rw [hR.root]; omega)
  exact ⟨p, h1, h2⟩
theorem sib_split (hR : RT t) {a p : Nat} (ha : a < t.length) (hp : par t a = some p) : p < t.length ∧ ∃ A B, kidsN t p = A ++ a :: B ∧ (∀ c ∈ A, c < a) ∧ ∀ c ∈ B, a < c := by
  have hpa := (par_some hp).1
  have hpl : p < t.length := by omega
  obtain ⟨hL, he⟩ := hR.sub hpl
  obtain ⟨A, B, hk⟩ := kids_split hL hp
  refine ⟨hpl, A, B, hk, fun c hc => ?_, fun c hc => ?_⟩
  · have := kids_sorted hL
    rw [hk, List.pairwise_append] at this
    exact this.2.2 c hc a (by simp)
  · have := kids_sorted hL
    rw [hk, List.pairwise_append, List.pairwise_cons] at this
    exact this.2.1.1 c hc
theorem ok_ne {st : Int} (h : st ≠ 4) (c : Nat) : okN t st c = (kindN t c == 3) := by
  unfold okN
  rw [Bool.eq_iff_iff]
  simp [h]
theorem nextN_eq {a p : Nat} {A B : List Nat} (hp : par t a = some p) (hk : kidsN t p = A ++ a :: B) (h1 : ∀ c ∈ A, c < a) (h2 : ∀ c ∈ B, a < c) {st : Int} (h4 : st ≠ 4) : nextN t a = B.filter (okN t st) := by
  unfold nextN sibsF
  simp only [hp, if_true]
  rw [hk, List.filter_append, List.filter_cons_of_neg (by simp), List.filter_eq_nil_iff.2 fun c hc => by have := h1 c hc; simp; omega, List.nil_append]
  exact List.filter_congr fun c hc => by rw [ok_ne h4, decide_eq_true (h2 c hc), Bool.true_and]
theorem prevN_eq {a p : Nat} {A B : List Nat} (hp : par t a = some p) (hk : kidsN t p = A ++ a :: B) (h1 : ∀ c ∈ A, c < a) (h2 : ∀ c ∈ B, a < c) {st : Int} (h4 : st ≠ 4) : prevN t a = A.reverse.filter (okN t st) := by
  unfold prevN sibsF
  simp only [hp, Bool.false_eq_true, if_false]
  rw [hk, List.reverse_append, List.reverse_cons, List.append_assoc, List.filter_append, List.filter_append, List.filter_eq_nil_iff.2 fun c hc => by have := h2 c (List.mem_reverse.1 hc); simp; omega, List.nil_append, List.filter_eq_nil_iff.2 fun c hc => by simp at hc; simp [hc], List.nil_append]
  exact List.filter_congr fun c hc => by rw [ok_ne h4, decide_eq_true (h1 c (List.mem_reverse.1 hc)), Bool.true_and]
theorem kids_len (hR : RT t) {p : Nat} (hp : p < t.length) : (kidsN t p).length ≤ 200 := by
  have h1 : (kidsN t p).length ≤ sz t p := kidsF_len
  have := (hR.sub hp).2
  have := hR.len
  omega
/-! goquery -/
theorem clo_kids (hR : RT t) (st : Int) (hst : st = 0 ∨ st = 4) (i : Int) (a : Nat) (ha : a < t.length) : m_goquery_getChildrenNodes_1 (i, some a, st, store t) = some (gF (fun a => (kidsN t a).filter (okN t st)) (some a)) := by
  have h1 := kids_len hR ha
  have h2 := List.length_filter_le (okN t st) (kidsN t a)
  simp only [m_goquery_getChildrenNodes_1]
  rw [gc_all (by omega) (by rcases hst with h | h; exact .inl h; exact .inr (.inl h)) (way_kids hR st hst a ha), bind_some]
  rfl
theorem clo_sib {p a : Nat} (ha : a < t.length) (hp : par t a = some p) (i st : Int) : m_goquery_getSiblingNodes_2_n (i, some a, st, (), store t) = (m_goquery_getChildrenWithSiblingType_n (some p, st, some a, (), store t)).bind fun r => some (r, store t) := by
  simp only [m_goquery_getSiblingNodes_2_n, bind_some, store_get ha, rc_par, hp]
theorem clo_next (hR : RT t) (i : Int) (a : Nat) (ha : a < t.length) (h3 : kindN t a = 3) : m_goquery_getSiblingNodes_2_n (i, some a, (1 : Int), (), store t) = some (gF (fun a => (nextN t a).take 1) (some a), store t) := by
  obtain ⟨p, hp, _⟩ := el_par hR ha h3
  obtain ⟨hpl, A, B, hk, h1, h2⟩ := sib_split hR ha hp
  rw [clo_sib ha hp, gc_one (way_after hR 1 (.inl rfl) _ hpl hk), bind_some, gF, Option.getD_some, nextN_eq hp hk h1 h2 (st := 1) (by decide)]
theorem clo_prevAll (hR : RT t) (i : Int) (a : Nat) (ha : a < t.length) (h3 : kindN t a = 3) : m_goquery_getSiblingNodes_2_n (i, some a, (-2 : Int), (), store t) = some (gF (prevN t) (some a), store t) := by
  obtain ⟨p, hp, _⟩ := el_par hR ha h3
  obtain ⟨hpl, A, B, hk, h1, h2⟩ := sib_split hR ha hp
  have hl := kids_len hR hpl
  rw [hk] at hl
  simp only [List.length_append, List.length_cons] at hl
  have hl2 := List.length_filter_le (okN t (-2)) A.reverse
  rw [List.length_reverse] at hl2
  rw [clo_sib ha hp, gc_all (by omega) (.inr (.inr (.inl rfl))) (way_ahead hR _ hpl hk), bind_some, gF, Option.getD_some, prevN_eq hp hk h1 h2 (st := -2) (by decide)]
theorem clo_nextAll (hR : RT t) (i : Int) (a : Nat) (ha : a < t.length) (h3 : kindN t a = 3) : m_goquery_getSiblingNodes_2_n (i, some a, (2 : Int), (), store t) = some (gF (nextN t) (some a), store t) := by
  obtain ⟨p, hp, _⟩ := el_par hR ha h3
  obtain ⟨hpl, A, B, hk, h1, h2⟩ := sib_split hR ha hp
  have hl := kids_len hR hpl
  rw [hk] at hl
  simp only [List.length_append, List.length_cons] at hl
  have hl2 := List.length_filter_le (okN t 2) B
  rw [clo_sib ha hp, gc_all (by omega) (.inr (.inr (.inr rfl))) (way_after hR 2 (.inr (.inl rfl)) _ hpl hk), bind_some, gF, Option.getD_some, nextN_eq hp hk h1 h2 (st := 2) (by decide)]
/-- The elements beside a node. -/
def sibN (t : List Node) (a : Nat) : List Nat := sibsF t a (fun c => decide (c ≠ a)) true
theorem clo_all (hR : RT t) (i : Int) (a : Nat) (ha : a < t.length) (h3 : kindN t a = 3) : m_goquery_getSiblingNodes_2_n (i, some a, (0 : Int), (), store t) = some (gF (sibN t) (some a), store t) := by
  obtain ⟨p, hp, _⟩ := el_par hR ha h3
  obtain ⟨hpl, A, B, hk, h1, h2⟩ := sib_split hR ha hp
  have hl := kids_len hR hpl
  rw [hk] at hl
  simp only [List.length_append, List.length_cons] at hl
  have hl2 := List.length_filter_le (okN t 0) (A ++ B)
  rw [List.length_append] at hl2
  have e : sibN t a = (A ++ B).filter (okN t 0) := by
    unfold sibN sibsF
    simp only [hp, if_true]
    rw [hk, List.filter_append, List.filter_cons_of_neg (by simp), List.filter_append]
    congr 1
    · exact List.filter_congr fun c hc => by rw [ok_ne (by decide), decide_eq_true (by have := h1 c hc; omega), Bool.true_and]
    · exact List.filter_congr fun c hc => by rw [ok_ne (by decide), decide_eq_true (by have := h2 c hc; omega), Bool.true_and]
  rw [clo_sib ha hp, gc_all (by omega) (.inl rfl) (way_beside hR hpl hk), bind_some, gF, Option.getD_some, e]
theorem clo_until (hR : RT t) (i : Int) (w : List Int) (hw : w.length ≤ 2147483647) (a : Nat) (ha : a < t.length) (h3 : kindN t a = 3) : m_goquery_getSiblingNodes_2_u (i, some a, (3 : Int), pts w, store t) = some (gF (fun a => (nextN t a).takeWhile fun c => !decide (some c ∈ pts w)) (some a), store t) := by
  obtain ⟨p, hp, _⟩ := el_par hR ha h3
  obtain ⟨hpl, A, B, hk, h1, h2⟩ := sib_split hR ha hp
  have hl := kids_len hR hpl
  rw [hk] at hl
  simp only [List.length_append, List.length_cons] at hl
  have hl2 := List.length_filter_le (okN t 3) B
  simp only [m_goquery_getSiblingNodes_2_u, bind_some, store_get ha, rc_par, hp]
  rw [gc_until (by omega) w hw (way_after hR 3 (.inr (.inr rfl)) _ hpl hk), bind_some, gF, Option.getD_some, nextN_eq hp hk h1 h2 (st := 3) (by decide)]
/-! How many there are, and where -/
theorem few_sib (hR : RT t) {l : List Int} {f : Nat → List Nat} (hl : ∀ v ∈ l, 0 ≤ v ∧ v < t.length) (h : ∀ a < t.length, ∃ p, p < t.length ∧ ((f a).Sublist (kidsN t p) ∨ (f a).Sublist (kidsN t p).reverse) ∨ f a = []) : Few t l f := by
  have main : ∀ a < t.length, (f a).Nodup ∧ (∀ c ∈ f a, c < t.length) ∧ (f a).length ≤ 1000 := fun a ha => by
    obtain ⟨p, ⟨hp, hs | hs⟩ | hs⟩ := h a ha
    · have := kids_len hR hp
      have h2 := hs.length_le
      exact ⟨(kids_nodup (hR.sub hp).1).sublist hs, fun c hc => kids_lt hR hp (hs.subset hc), by omega⟩
    · have := kids_len hR hp
      have h2 := hs.length_le
      rw [List.length_reverse] at h2
      exact ⟨(show (kidsN t p).reverse.Nodup from List.pairwise_reverse.2 ((kids_nodup (hR.sub hp).1).imp fun h => Ne.symm h)).sublist hs, fun c hc => kids_lt hR hp (List.mem_reverse.1 (hs.subset hc)), by omega⟩
    · rw [hs]
      exact ⟨List.nodup_nil, by simp, by simp⟩
  have go : ∀ v ∈ l, v.toNat < t.length := fun v hv => by have := hl v hv; omega
  exact ⟨fun v hv => (main _ (go v hv)).1, fun v hv => (main _ (go v hv)).2.1, fun v hv => (main _ (go v hv)).2.2⟩
theorem sibsF_sub {a : Nat} (hR : RT t) (ha : a < t.length) (q : Nat → Bool) (up : Bool) : ∃ p, p < t.length ∧ ((sibsF t a q up).Sublist (kidsN t p) ∨ (sibsF t a q up).Sublist (kidsN t p).reverse) ∨ sibsF t a q up = [] := by
  unfold sibsF
  cases hp : par t a with
  | none => exact ⟨0, .inr rfl⟩
  | some p =>
    have := (par_some hp).1
    refine ⟨p, .inl ⟨by omega, ?_⟩⟩
    cases up
    · exact .inr List.filter_sublist
    · exact .inl List.filter_sublist
theorem sub_more {x y : List Nat} (hs : x.Sublist y) (h : ∃ p, p < t.length ∧ (y.Sublist (kidsN t p) ∨ y.Sublist (kidsN t p).reverse) ∨ y = []) : ∃ p, p < t.length ∧ (x.Sublist (kidsN t p) ∨ x.Sublist (kidsN t p).reverse) ∨ x = [] := by
  obtain ⟨p, ⟨hp, h1 | h1⟩ | h1⟩ := h
  · exact ⟨p, .inl ⟨hp, .inl (hs.trans h1)⟩⟩
  · exact ⟨p, .inl ⟨hp, .inr (hs.trans h1)⟩⟩
  · subst h1
    exact ⟨p, .inr (List.sublist_nil.1 hs)⟩
end
end Go.Proofs.Ytlgabeiaheoniaa.V
