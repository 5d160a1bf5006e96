/-
  Nodes of relatives, put together each once, in goquery and in the reference. Plain facts.
-/
import Derived.Test.YtlgabeiaheoniaaPSibs
import Derived.Test.YtlgabeiaheoniaaPMapN
import Derived.Test.YtlgabeiaheoniaaSpecB
namespace Go.Proofs.Ytlgabeiaheoniaa.V
open Go

/-- Places of all that is asked of some nodes. -/
def FI (f : Nat → List Nat) (v : Int) : List Int := (f v.toNat).map Int.ofNat
def gF (f : Nat → List Nat) (o : Option Nat) : List (Option Nat) := (f (o.getD 0)).map some
theorem flat_pts (f : Nat → List Nat) (l : List Int) : (pts l).flatMap (gF f) = pts (l.flatMap (FI f)) := by
  induction l with
  | nil => rfl
  | cons v l ih =>
    have e : pts (v :: l) = some v.toNat :: pts l := rfl
    rw [e, List.flatMap_cons, ih, List.flatMap_cons]
    simp only [pts, List.map_append, FI, gF, Option.getD_some, List.map_map]
    congr 1
theorem pts_in {l : List Int} {v : Int} (hl : ∀ u ∈ l, 0 ≤ u) (hv : 0 ≤ v) : some v.toNat ∈ pts l ↔ v ∈ l := by
  constructor
  · intro h
    obtain ⟨u, hu, e⟩ := List.mem_map.1 h
    have := hl u hu
    simp only [Option.some.injEq] at e
    have : u = v := by omega
    exact this ▸ hu
  · exact fun h => List.mem_map_of_mem h
theorem addAll_pts : ∀ {l acc : List Int}, (∀ v ∈ l, 0 ≤ v) → (∀ v ∈ acc, 0 ≤ v) → addAll (pts acc) (pts l) = pts (addAll acc l)
  | [], acc, _, _ => rfl
  | v :: l, acc, hl, ha => by
    have hv := hl v (by simp)
    have e : pts (v :: l) = some v.toNat :: pts l := rfl
    rw [e]
    by_cases hm : v ∈ acc
    · rw [addAll_in _ hm, addAll_in _ ((pts_in ha hv).2 hm)]
      exact addAll_pts (fun u hu => hl u (by simp [hu])) ha
    · rw [addAll_out _ hm, addAll_out _ (fun h => hm ((pts_in ha hv).1 h))]
      have e2 : pts acc ++ [some v.toNat] = pts (acc ++ [v]) := by simp [pts]
      rw [e2]
      exact addAll_pts (fun u hu => hl u (by simp [hu])) fun u hu => by
        rcases List.mem_append.1 hu with h | h
        · exact ha u h
        · simp at h; omega
/-- What is asked of nodes: each once, places of the tree, not too many. -/
structure Few (t : List Node) (l : List Int) (f : Nat → List Nat) : Prop where
  nd : ∀ v ∈ l, (f v.toNat).Nodup
  lt : ∀ v ∈ l, ∀ c ∈ f v.toNat, c < t.length
  len : ∀ v ∈ l, (f v.toNat).length ≤ 1000
theorem flat_len {α β : Type} {f : α → List β} {n : Nat} : ∀ {l : List α}, (∀ v ∈ l, (f v).length ≤ n) → (l.flatMap f).length ≤ l.length * n
  | [], _ => by simp
  | v :: l, h => by
    have h1 := h v (by simp)
    have h2 := flat_len (l := l) fun u hu => h u (by simp [hu])
    rw [List.flatMap_cons, List.length_append, List.length_cons, Nat.succ_mul]
    omega
section
variable {t : List Node} {l : List Int} {f : Nat → List Nat}
theorem Few.flen (h : Few t l f) (hl : l.length ≤ 400) : (l.flatMap (FI f)).length ≤ 400000 := by
  have := flat_len (f := FI f) (n := 1000) (l := l) fun v hv => by simpa [FI] using h.len v hv
  omega
theorem Few.glen (h : Few t l f) (hl : l.length ≤ 400) : ((pts l).flatMap (gF f)).length ≤ 400000 := by
  rw [flat_pts, pts_len]
  exact h.flen hl
theorem Few.bd (h : Few t l f) : ∀ v ∈ addAll [] (l.flatMap (FI f)), 0 ≤ v ∧ v < t.length := fun v hv => by
  rcases addAll_mem.1 hv with h1 | h1
  · cases h1
  · obtain ⟨u, hu, h2⟩ := List.mem_flatMap.1 h1
    obtain ⟨c, hc, rfl⟩ := List.mem_map.1 h2
    have := h.lt u hu c hc
    simp only [Int.ofNat_eq_natCast]
    omega
theorem Few.pts (h : Few t l f) : addAll [] ((pts l).flatMap (gF f)) = V.pts (addAll [] (l.flatMap (FI f))) := by
  rw [flat_pts]
  refine addAll_pts (acc := []) (fun v hv => ?_) (by simp)
  obtain ⟨u, hu, h2⟩ := List.mem_flatMap.1 hv
  obtain ⟨c, hc, rfl⟩ := List.mem_map.1 h2
  simp only [Int.ofNat_eq_natCast]
  omega
theorem gF_nodup {a : Nat} (h : (f a).Nodup) : (gF f (some a)).Nodup := by
  unfold gF
  exact h.map (f := some) fun _ _ hne e => hne (Option.some.inj e)
theorem map_kids (st : Int) (hR : t.length ≤ 1000000) (h : Few t l f) (hl : l.length ≤ 400) (hg : ∀ (i : Int), ∀ v ∈ l, m_goquery_getChildrenNodes_1 (i, some v.toNat, st, store t) = some (gF f (some v.toNat))) : m_goquery_mapNodes_kids (pts l, st, store t) = some (addAll [] ((pts l).flatMap (gF f))) := by
  have hget : ∀ (k : Nat) (o : Option Nat), (pts l)[k]? = some o → ∃ v ∈ l, o = some v.toNat := fun k o ho => by
    obtain ⟨v, hv, e⟩ := List.mem_map.1 (List.mem_of_getElem? ho)
    exact ⟨v, hv, e.symm⟩
  have hlen := h.glen hl
  simp only [m_goquery_mapNodes_kids, cond_dec]
  by_cases h0 : ((pts l).length : Int) = 0
  · rw [if_pos h0]
    have : l = [] := by rw [pts_len] at h0; exact List.eq_nil_of_length_eq_zero (by omega)
    subst this
    rfl
  · rw [if_neg h0]
    by_cases h01 : ((pts l).length : Int) = 1
    · rw [if_pos h01]
      obtain ⟨o, ho⟩ := get_lt (l := pts l) (k := 0) (by omega)
      obtain ⟨v, hv, rfl⟩ := hget 0 o ho
      rw [atI_zero, ho, bind_some, hg 0 v hv, bind_some]
      have e : pts l = [some v.toNat] := by
        match hp : pts l, h01, ho with
        | [x], _, ho => simp at ho; rw [ho]
      rw [e]
      simp only [List.flatMap_cons, List.flatMap_nil, List.append_nil]
      rw [addAll_once (gF_nodup (h.nd v hv))]
    · rw [if_neg h01]
      have := mapLoop (body := m_goquery_mapNodes_kids_0) (pts l) (gF f) (fun k acc s => (st, acc, s, pts l, ((pts l).length : Int), (k : Int), store t)) (fun acc => (acc, store t)) (by omega) (fun k o acc s ho ht hb => by
        have hk := (List.getElem?_eq_some_iff.1 ho).1
        obtain ⟨v, hv, rfl⟩ := hget k o ho
        rw [pts_len] at hk
        simp only [m_goquery_mapNodes_kids_0, cond_dec, atI_nat]
        rw [if_pos (by rw [pts_len]; omega), ho, bind_some, hg _ v hv, bind_some, w64 (by omega) (by omega)]
        by_cases hgt : (0 : Int) < ((gF f (some v.toNat)).length : Int)
        · rw [if_pos hgt]
          obtain ⟨s', e1, e2⟩ := awd_eq acc (gF f (some v.toNat)) s ht hb
          rw [e1, bind_some]
          exact ⟨s', rfl, e2⟩
        · rw [if_neg hgt]
          have : gF f (some v.toNat) = [] := List.eq_nil_of_length_eq_zero (by omega)
          rw [this, addAll_nil]
          exact ⟨s, rfl, ht⟩) (fun acc s => by
        simp only [m_goquery_mapNodes_kids_0, cond_dec]
        rw [if_neg (by omega)])
      rw [show loopO m_goquery_mapNodes_kids_0 (st, [], [], pts l, ((pts l).length : Int), (0 : Int), store t) = _ from this, bind_some]
theorem map_par (w : List (Option Nat)) (hR : t.length ≤ 1000000) (h : Few t l f) (hl : l.length ≤ 400) (hg : ∀ (i : Int), ∀ v ∈ l, m_goquery_getParentsNodes_1 (i, some v.toNat, (), w, store t) = some (gF f (some v.toNat))) : m_goquery_mapNodes_par (pts l, ((), w), store t) = some (addAll [] ((pts l).flatMap (gF f))) := by
  have hget : ∀ (k : Nat) (o : Option Nat), (pts l)[k]? = some o → ∃ v ∈ l, o = some v.toNat := fun k o ho => by
    obtain ⟨v, hv, e⟩ := List.mem_map.1 (List.mem_of_getElem? ho)
    exact ⟨v, hv, e.symm⟩
  have hlen := h.glen hl
  simp only [m_goquery_mapNodes_par, cond_dec]
  by_cases h0 : ((pts l).length : Int) = 0
  · rw [if_pos h0]
    have : l = [] := by rw [pts_len] at h0; exact List.eq_nil_of_length_eq_zero (by omega)
    subst this
    rfl
  · rw [if_neg h0]
    by_cases h01 : ((pts l).length : Int) = 1
    · rw [if_pos h01]
      obtain ⟨o, ho⟩ := get_lt (l := pts l) (k := 0) (by omega)
      obtain ⟨v, hv, rfl⟩ := hget 0 o ho
      rw [atI_zero, ho, bind_some, hg 0 v hv, bind_some]
      have e : pts l = [some v.toNat] := by
        match hp : pts l, h01, ho with
        | [x], _, ho => simp at ho; rw [ho]
      rw [e]
      simp only [List.flatMap_cons, List.flatMap_nil, List.append_nil]
      rw [addAll_once (gF_nodup (h.nd v hv))]
    · rw [if_neg h01]
      have := mapLoop (body := m_goquery_mapNodes_par_0) (pts l) (gF f) (fun k acc s => (((), w), acc, s, pts l, ((pts l).length : Int), (k : Int), store t)) (fun acc => (acc, store t)) (by omega) (fun k o acc s ho ht hb => by
        have hk := (List.getElem?_eq_some_iff.1 ho).1
        obtain ⟨v, hv, rfl⟩ := hget k o ho
        rw [pts_len] at hk
        simp only [m_goquery_mapNodes_par_0, cond_dec, atI_nat]
        rw [if_pos (by rw [pts_len]; omega), ho, bind_some, hg _ v hv, bind_some, w64 (by omega) (by omega)]
        by_cases hgt : (0 : Int) < ((gF f (some v.toNat)).length : Int)
        · rw [if_pos hgt]
          obtain ⟨s', e1, e2⟩ := awd_eq acc (gF f (some v.toNat)) s ht hb
          rw [e1, bind_some]
          exact ⟨s', rfl, e2⟩
        · rw [if_neg hgt]
          have : gF f (some v.toNat) = [] := List.eq_nil_of_length_eq_zero (by omega)
          rw [this, addAll_nil]
          exact ⟨s, rfl, ht⟩) (fun acc s => by
        simp only [m_goquery_mapNodes_par_0, cond_dec]
        rw [if_neg (by omega)])
      rw [show loopO m_goquery_mapNodes_par_0 (((), w), [], [], pts l, ((pts l).length : Int), (0 : Int), store t) = _ from this, bind_some]
theorem map_sibn (st : Int) (hR : t.length ≤ 1000000) (h : Few t l f) (hl : l.length ≤ 400) (hg : ∀ (i : Int), ∀ v ∈ l, m_goquery_getSiblingNodes_2_n (i, some v.toNat, st, (), store t) = some (gF f (some v.toNat), store t)) : m_goquery_mapNodes_sibn (pts l, (st, ()), store t) = some (addAll [] ((pts l).flatMap (gF f)), store t) := by
  have hget : ∀ (k : Nat) (o : Option Nat), (pts l)[k]? = some o → ∃ v ∈ l, o = some v.toNat := fun k o ho => by
    obtain ⟨v, hv, e⟩ := List.mem_map.1 (List.mem_of_getElem? ho)
    exact ⟨v, hv, e.symm⟩
  have hlen := h.glen hl
  simp only [m_goquery_mapNodes_sibn, cond_dec]
  by_cases h0 : ((pts l).length : Int) = 0
  · rw [if_pos h0]
    have : l = [] := by rw [pts_len] at h0; exact List.eq_nil_of_length_eq_zero (by omega)
    subst this
    rfl
  · rw [if_neg h0]
    by_cases h01 : ((pts l).length : Int) = 1
    · rw [if_pos h01]
      obtain ⟨o, ho⟩ := get_lt (l := pts l) (k := 0) (by omega)
      obtain ⟨v, hv, rfl⟩ := hget 0 o ho
      rw [atI_zero, ho, bind_some, hg 0 v hv, bind_some]
      have e : pts l = [some v.toNat] := by
        match hp : pts l, h01, ho with
        | [x], _, ho => simp at ho; rw [ho]
      rw [e]
      simp only [List.flatMap_cons, List.flatMap_nil, List.append_nil]
      rw [addAll_once (gF_nodup (h.nd v hv))]
    · rw [if_neg h01]
      have := mapLoop (body := m_goquery_mapNodes_sibn_0) (pts l) (gF f) (fun k acc s => ((st, ()), acc, s, pts l, ((pts l).length : Int), (k : Int), store t)) (fun acc => (acc, store t)) (by omega) (fun k o acc s ho ht hb => by
        have hk := (List.getElem?_eq_some_iff.1 ho).1
        obtain ⟨v, hv, rfl⟩ := hget k o ho
        rw [pts_len] at hk
        simp only [m_goquery_mapNodes_sibn_0, cond_dec, atI_nat]
        rw [if_pos (by rw [pts_len]; omega), ho, bind_some, hg _ v hv, bind_some, w64 (by omega) (by omega)]
        by_cases hgt : (0 : Int) < ((gF f (some v.toNat)).length : Int)
        · rw [if_pos hgt]
          obtain ⟨s', e1, e2⟩ := awd_eq acc (gF f (some v.toNat)) s ht hb
          rw [e1, bind_some]
          exact ⟨s', rfl, e2⟩
        · rw [if_neg hgt]
          have : gF f (some v.toNat) = [] := List.eq_nil_of_length_eq_zero (by omega)
          rw [this, addAll_nil]
          exact ⟨s, rfl, ht⟩) (fun acc s => by
        simp only [m_goquery_mapNodes_sibn_0, cond_dec]
        rw [if_neg (by omega)])
      rw [show loopO m_goquery_mapNodes_sibn_0 ((st, ()), [], [], pts l, ((pts l).length : Int), (0 : Int), store t) = _ from this, bind_some]
theorem map_sibu (st : Int) (w : List (Option Nat)) (hR : t.length ≤ 1000000) (h : Few t l f) (hl : l.length ≤ 400) (hg : ∀ (i : Int), ∀ v ∈ l, m_goquery_getSiblingNodes_2_u (i, some v.toNat, st, w, store t) = some (gF f (some v.toNat), store t)) : m_goquery_mapNodes_sibu (pts l, (st, w), store t) = some (addAll [] ((pts l).flatMap (gF f)), store t) := by
  have hget : ∀ (k : Nat) (o : Option Nat), (pts l)[k]? = some o → ∃ v ∈ l, o = some v.toNat := fun k o ho => by
    obtain ⟨v, hv, e⟩ := List.mem_map.1 (List.mem_of_getElem? ho)
    exact ⟨v, hv, e.symm⟩
  have hlen := h.glen hl
  simp only [m_goquery_mapNodes_sibu, cond_dec]
  by_cases h0 : ((pts l).length : Int) = 0
  · rw [if_pos h0]
    have : l = [] := by rw [pts_len] at h0; exact List.eq_nil_of_length_eq_zero (by omega)
    subst this
    rfl
  · rw [if_neg h0]
    by_cases h01 : ((pts l).length : Int) = 1
    · rw [if_pos h01]
      obtain ⟨o, ho⟩ := get_lt (l := pts l) (k := 0) (by omega)
      obtain ⟨v, hv, rfl⟩ := hget 0 o ho
      rw [atI_zero, ho, bind_some, hg 0 v hv, bind_some]
      have e : pts l = [some v.toNat] := by
        match hp : pts l, h01, ho with
        | [x], _, ho => simp at ho; rw [ho]
      rw [e]
      simp only [List.flatMap_cons, List.flatMap_nil, List.append_nil]
      rw [addAll_once (gF_nodup (h.nd v hv))]
    · rw [if_neg h01]
      have := mapLoop (body := m_goquery_mapNodes_sibu_0) (pts l) (gF f) (fun k acc s => ((st, w), acc, s, pts l, ((pts l).length : Int), (k : Int), store t)) (fun acc => (acc, store t)) (by omega) (fun k o acc s ho ht hb => by
        have hk := (List.getElem?_eq_some_iff.1 ho).1
        obtain ⟨v, hv, rfl⟩ := hget k o ho
        rw [pts_len] at hk
        simp only [m_goquery_mapNodes_sibu_0, cond_dec, atI_nat]
        rw [if_pos (by rw [pts_len]; omega), ho, bind_some, hg _ v hv, bind_some, w64 (by omega) (by omega)]
        by_cases hgt : (0 : Int) < ((gF f (some v.toNat)).length : Int)
        · rw [if_pos hgt]
          obtain ⟨s', e1, e2⟩ := awd_eq acc (gF f (some v.toNat)) s ht hb
          rw [e1, bind_some]
          exact ⟨s', rfl, e2⟩
        · rw [if_neg hgt]
          have : gF f (some v.toNat) = [] := List.eq_nil_of_length_eq_zero (by omega)
          rw [this, addAll_nil]
          exact ⟨s, rfl, ht⟩) (fun acc s => by
        simp only [m_goquery_mapNodes_sibu_0, cond_dec]
        rw [if_neg (by omega)])
      rw [show loopO m_goquery_mapNodes_sibu_0 ((st, w), [], [], pts l, ((pts l).length : Int), (0 : Int), store t) = _ from this, bind_some]
/-! The reference -/
theorem once_eq (l : List Int) (hl : l.length ≤ 1000000) : m_spec_once l = some (addAll [] l) := by
  simp only [m_spec_once]
  have key : ∀ C A, l = A ++ C → loopO m_spec_once_0 (l, addAll [] A, (A.length : Int)) = some (addAll [] l) := by
    intro C
    induction C with
    | nil =>
      intro A hA
      refine loopO_out ?_
      simp only [m_spec_once_0, cond_dec]
      rw [hA, List.append_nil, if_neg (by omega)]
    | cons c C ih =>
      intro A hA
      have hlen := congrArg List.length hA
      simp only [List.length_append, List.length_cons] at hlen
      have hc : l[A.length]? = some c := by rw [hA]; simp
      have hal := addAll_len A []
      simp only [List.length_nil, Nat.zero_add] at hal
      have ha : addAll [] (A ++ [c]) = addAll (addAll [] A) [c] := addAll_app _ _ _
      have step : m_spec_once_0 (l, addAll [] A, (A.length : Int)) = some (.nx (l, addAll [] (A ++ [c]), ((A ++ [c]).length : Int))) := by
        simp only [m_spec_once_0, cond_dec, atI_nat]
        rw [if_pos (by omega), hc, bind_some, in_eq _ _ (by omega), bind_some, w64 (by omega) (by omega), ha]
        by_cases hm : c ∈ addAll [] A
        · rw [decide_eq_true hm, addAll_in _ hm, addAll_nil]
          simp
        · rw [decide_eq_false hm, addAll_out _ hm, addAll_nil]
          simp only [Bool.not_false, cond_true, bind_some]
          rw [appL_some (by simp only [List.length_singleton]; omega), bind_some]
          simp
      rw [loopO_nx step]
      exact ih (A ++ [c]) (by rw [hA]; simp)
  rw [show loopO m_spec_once_0 (l, [], (0 : Int)) = some (addAll [] l) from key l [] rfl, bind_some]
theorem sameOnce_true (a b : List Int) (ha : a.length ≤ 1000000) (hb : b.length = a.length) (hn : a.Nodup) (h : ∀ v ∈ a, v ∈ b) : m_spec_SameOnce (a, b) = some true := by
  simp only [m_spec_SameOnce, cond_dec]
  rw [if_neg (by omega), once_eq a ha, bind_some, addAll_once hn, if_neg (by simp)]
  have hl := loop_all (body := m_spec_SameOnce_0) a (fun v => decide (v ∈ b)) (fun k => (a, b, (k : Int))) (.inl ()) (.inr false) (fun k u hu => by
    have hk := (List.getElem?_eq_some_iff.1 hu).1
    simp only [m_spec_SameOnce_0, cond_dec, atI_nat]
    rw [if_pos (by omega), hu, bind_some, in_eq _ _ (by omega), bind_some, w64 (by omega) (by omega)]
    cases decide (u ∈ b) <;> rfl) (by
    simp only [m_spec_SameOnce_0, cond_dec]
    rw [if_neg (by omega)]) 0 (Nat.zero_le _)
  rw [show loopO m_spec_SameOnce_0 (a, b, (0 : Int)) = _ from hl, bind_some, List.drop_zero]
  have e : (a.all fun v => decide (v ∈ b)) = true := List.all_eq_true.2 fun v hv => decide_eq_true (h v hv)
  rw [e]
  rfl
theorem related_eq (h : Few t l f) (hl : l.length ≤ 400) (hlb : ∀ v ∈ l, 0 ≤ v) (op : Int) (tx : List UInt8) (w : List Int) (a b : Int) (hop : op < 32) (hr : ∀ v : Nat, (v : Int) ∈ l ∨ v = 0 → ∃ r, m_spec_RelativesOf (t, (v : Int), op, tx, w, a, b) = some (r, true) ∧ ((v : Int) ∈ l → r = FI f v)) :
    m_spec_Related (t, l, op, tx, w, a, b) = some (addAll [] (l.flatMap (FI f)), true) := by
  have hfl := h.flen hl
  simp only [m_spec_Related, cond_dec]
  rw [if_neg (by omega), if_neg (by omega), if_neg (by omega), if_neg (by omega), if_neg (by omega), if_neg (by omega), if_neg (by omega), if_neg (by omega)]
  have key : ∀ C A, l = A ++ C → loopO m_spec_Related_1 (t, l, (op, tx, w, a, b), A.flatMap (FI f), (A.length : Int)) = some (.inl (t, (op, tx, w, a, b), l.flatMap (FI f))) := by
    intro C
    induction C with
    | nil =>
      intro A hA
      refine loopO_out ?_
      simp only [m_spec_Related_1, cond_dec]
      rw [hA, List.append_nil, if_neg (by omega)]
    | cons c C ih =>
      intro A hA
      have hlen := congrArg List.length hA
      simp only [List.length_append, List.length_cons] at hlen
      have hc : l[A.length]? = some c := by rw [hA]; simp
      have hm : c ∈ l := by rw [hA]; simp
      obtain ⟨v, rfl⟩ := Int.eq_ofNat_of_zero_le (hlb c hm)
      obtain ⟨r, h1, h2⟩ := hr v (.inl hm)
      have h3 := h2 hm
      subst h3
      have hsub : (A.flatMap (FI f)).length + (FI f v).length ≤ 400000 := by
        have := congrArg (fun m => (m.flatMap (FI f)).length) hA
        simp only [List.flatMap_append, List.flatMap_cons, List.length_append] at this
        omega
      have step : m_spec_Related_1 (t, l, (op, tx, w, a, b), A.flatMap (FI f), (A.length : Int)) = some (.nx (t, l, (op, tx, w, a, b), (A ++ [(v : Int)]).flatMap (FI f), ((A ++ [(v : Int)]).length : Int))) := by
        simp only [m_spec_Related_1, cond_dec, atI_nat]
        rw [if_pos (by omega), hc, bind_some, h1, bind_some, w64 (by omega) (by omega)]
        simp only [Bool.not_true, cond_false]
        rw [appL_some (by omega), bind_some]
        simp
      rw [loopO_nx step]
      exact ih (A ++ [(v : Int)]) (by rw [hA]; simp)
  rw [show loopO m_spec_Related_1 (t, l, (op, tx, w, a, b), [], (0 : Int)) = _ from key l [] rfl, bind_some, selim_l]
  obtain ⟨r, h1, _⟩ := hr 0 (.inr rfl)
  simp only
  rw [show m_spec_RelativesOf (t, (0 : Int), op, tx, w, a, b) = some (r, true) from h1, bind_some, once_eq _ (by omega), bind_some]
end
end Go.Proofs.Ytlgabeiaheoniaa.V
