/-
  Selections: places of nodes, ascending. Plain facts.
-/
import Derived.Test.YtpedmnlpccngiaaDoorPKind
import Derived.Test.YtpedmnlpccngiaaDoorPGrow
import Derived.Test.YtpedmnlpccngiaaDoorGoqA
set_option linter.unusedVariables false
set_option linter.unusedSimpArgs false
namespace Go.Proofs.YtpedmnlpccngiaaDoor.V
open Go

theorem loop_find {X B α : Type} {body : X → Option (Stp X B)} (l : List α) (p : α → Bool) (st : Nat → X) (no : B) (yes : Nat → B)
    (hs : ∀ k v, l[k]? = some v → body (st k) = some (if p v then .out (yes k) else .nx (st (k + 1)))) (he : body (st l.length) = some (.out no)) :
    loopO body (st 0) = some (match l.findIdx? p with | some i => yes i | none => no) := by
  have key : ∀ m k, l.length - k = m → k ≤ l.length → loopO body (st k) = some (match (l.drop k).findIdx? p with | some i => yes (k + i) | none => no) := by
    intro m
    induction m with
    | zero =>
      intro k hm hk
      have : k = l.length := by omega
      subst this
      rw [loopO_out he, List.drop_length]
      rfl
    | succ m ih =>
      intro k hm hk
      obtain ⟨v, hv⟩ := get_lt (l := l) (k := k) (by omega)
      have hd : l.drop k = v :: l.drop (k + 1) := by
        obtain ⟨h1, h2⟩ := List.getElem?_eq_some_iff.1 hv
        rw [← h2]
        exact List.drop_eq_getElem_cons h1
      have h := hs k v hv
      rw [hd, List.findIdx?_cons]
      cases hp : p v with
      | true =>
        rw [hp] at h
        rw [loopO_out h]
        simp
      | false =>
        rw [hp] at h
        rw [loopO_nx h, ih (k + 1) (by omega) (by omega)]
        simp only [Bool.false_eq_true, if_false]
        cases (l.drop (k + 1)).findIdx? p with
        | none => rfl
        | some i => simp only [Option.map_some]; rw [show k + 1 + i = k + (i + 1) by omega]
  have h := key l.length 0 (by omega) (Nat.zero_le _)
  rw [h, List.drop_zero]
  cases l.findIdx? p with
  | none => rfl
  | some i => simp
/-- Places of nodes, ascending. -/
structure Asc (t : List Node) (l : List Int) : Prop where
  bd : ∀ (i : Nat) (v : Int), l[i]? = some v → 0 ≤ v ∧ v < t.length
  up : ∀ (i : Nat) (v w : Int), l[i]? = some v → l[i + 1]? = some w → v < w
theorem order_ex (t : List Node) (l : List Int) (hl : l.length ≤ 2147483647) : ∃ b, m_spec_Order (t, l) = some b ∧ (b = true → Asc t l) := by
  simp only [m_spec_Order]
  obtain ⟨y, h, q1, q2⟩ := loopO_rule (body := m_spec_Order_0) (fun x => ∃ k : Nat, x = (t, l, (k : Int)) ∧ k ≤ l.length ∧ (∀ (i : Nat) (v : Int), i < k → l[i]? = some v → 0 ≤ v ∧ v < t.length) ∧ ∀ (i : Nat) (v w : Int), i + 1 < k → l[i]? = some v → l[i + 1]? = some w → v < w) (fun _ y => (y = .inl () → Asc t l) ∧ ∀ b, y = .inr b → b = false) (fun x => ((l.length : Int) - x.2.2).toNat) (fun x hx => by
    obtain ⟨k, rfl, hk, h1, h2⟩ := hx
    simp only [m_spec_Order_0, cond_dec, atI_nat]
    split
    · rename_i h3
      obtain ⟨v, hv⟩ := get_lt (l := l) (k := k) (by omega)
      rw [hv]
      simp only [bind_some]
      split
      · exact .inl ⟨_, rfl, (fun h => by cases h), fun b h => by cases h; rfl⟩
      · split
        · exact .inl ⟨_, rfl, (fun h => by cases h), fun b h => by cases h; rfl⟩
        · rename_i h4 h5
          have n1 : ∀ (i : Nat) (u : Int), i < k + 1 → l[i]? = some u → 0 ≤ u ∧ u < t.length := fun i u hi hu => by
            by_cases e : i = k
            · subst e; rw [hv] at hu; cases hu; omega
            · exact h1 i u (by omega) hu
          rw [w64 (n := (k : Int) + 1) (by omega) (by omega)]
          split
          · rename_i h6
            obtain ⟨j, rfl⟩ : ∃ j, k = j + 1 := ⟨k - 1, by omega⟩
            obtain ⟨u, hu⟩ := get_lt (l := l) (k := j) (by omega)
            have e : IntKind.wrap .i64 (((j + 1 : Nat) : Int) - 1) = (j : Int) := by rw [w64 (by omega) (by omega)]; omega
            rw [e, atI_nat, hu, bind_some]
            split
            · exact .inl ⟨_, rfl, (fun h => by cases h), fun b h => by cases h; rfl⟩
            · refine .inr ⟨_, rfl, ⟨j + 1 + 1, rfl, by omega, n1, fun i a b hi ha hb => ?_⟩, by simp only; omega, fun _ h => h⟩
              by_cases e : i = j
              · subst e; rw [hu] at ha; rw [hv] at hb; cases ha; cases hb; omega
              · exact h2 i a b (by omega) ha hb
          · have : k = 0 := by omega
            subst this
            exact .inr ⟨_, rfl, ⟨0 + 1, rfl, by omega, n1, fun i a b hi => by omega⟩, by simp only; omega, fun _ h => h⟩
    · have : k = l.length := by omega
      subst this
      exact .inl ⟨_, rfl, (fun _ => ⟨fun i v hv => h1 i v (List.getElem?_eq_some_iff.1 hv).1 hv, fun i v w hv hw => h2 i v w (List.getElem?_eq_some_iff.1 hw).1 hv hw⟩), fun b h => by cases h⟩) (t, l, (0 : Int)) ⟨0, rfl, Nat.zero_le _, fun i v hi => by omega, fun i v w hi => by omega⟩
  rw [h, bind_some]
  rcases y with u | b
  · exact ⟨_, rfl, fun _ => q1 rfl⟩
  · obtain rfl := q2 b rfl
    exact ⟨_, rfl, fun h => by cases h⟩
section
variable {t : List Node} {l : List Int}
theorem Asc.lt (h : Asc t l) : ∀ {j i : Nat} {v w : Int}, i < j → l[i]? = some v → l[j]? = some w → v < w := by
  intro j
  induction j with
  | zero => intro i v w hi; omega
  | succ j ih =>
    intro i v w hi hv hw
    have hj := (List.getElem?_eq_some_iff.1 hw).1
    obtain ⟨u, hu⟩ := get_lt (l := l) (k := j) (by omega)
    have h1 := h.up j u w hu hw
    by_cases e : i = j
    · subst e; rw [hv] at hu; cases hu; exact h1
    · have := ih (by omega) hv hu; omega
theorem Asc.ge (h : Asc t l) : ∀ {i : Nat} {v : Int}, l[i]? = some v → (i : Int) ≤ v := by
  intro i
  induction i with
  | zero => intro v hv; exact (h.bd 0 v hv).1
  | succ i ih =>
    intro v hv
    have hj := (List.getElem?_eq_some_iff.1 hv).1
    obtain ⟨u, hu⟩ := get_lt (l := l) (k := i) (by omega)
    have h1 := h.up i u v hu hv
    have := ih hu
    omega
theorem Asc.len (h : Asc t l) : l.length ≤ t.length := by
  rcases Nat.eq_zero_or_pos l.length with h0 | h0
  · omega
  · obtain ⟨v, hv⟩ := get_lt (l := l) (k := l.length - 1) (by omega)
    have h1 := h.ge hv
    have h2 := (h.bd _ _ hv).2
    omega
end
/-- Pointers to the nodes at some places. -/
def pts (l : List Int) : List (Option Nat) := l.map fun v => some v.toNat
theorem pts_get {l : List Int} {i : Nat} : (pts l)[i]? = (l[i]?).map fun v => some v.toNat := by simp [pts]
theorem pts_len (l : List Int) : (pts l).length = l.length := by simp [pts]
theorem these_eq (t : List Node) (l : List Int) (hl : l.length ≤ 2147483647) (h : ∀ (i : Nat) (v : Int), l[i]? = some v → 0 ≤ v ∧ v < t.length) : m_impl_these (ptrs t, l) = some (pts l, true) := by
  simp only [m_impl_these]
  have key : ∀ m k, l.length - k = m → k ≤ l.length → loopO m_impl_these_0 (ptrs t, pts (l.take k), l, (l.length : Int), (k : Int)) = some (.inl (pts l)) := by
    intro m
    induction m with
    | zero =>
      intro k hm hk
      refine loopO_out ?_
      simp only [m_impl_these_0, cond_dec]
      rw [if_neg (by omega), List.take_of_length_le (by omega)]
    | succ m ih =>
      intro k hm hk
      obtain ⟨v, hv⟩ := get_lt (l := l) (k := k) (by omega)
      obtain ⟨h1, h2⟩ := h k v hv
      obtain ⟨a, rfl⟩ := Int.eq_ofNat_of_zero_le h1
      have hlen : (pts (l.take k)).length = k := by rw [pts_len, List.length_take]; omega
      have step : m_impl_these_0 (ptrs t, pts (l.take k), l, (l.length : Int), (k : Int)) = some (.nx (ptrs t, pts (l.take (k + 1)), l, (l.length : Int), ((k + 1 : Nat) : Int))) := by
        simp only [m_impl_these_0, cond_dec, atI_nat]
        rw [if_pos (by omega), hv]
        simp only [bind_some, ptrs_len]
        rw [if_neg (by omega), if_neg (by omega), atI_nat, ptrs_get (by omega), bind_some, appL_some (by rw [hlen]; simp; omega), bind_some, w64 (by omega) (by omega), List.take_add_one, hv]
        simp [pts]
      rw [loopO_nx step]
      exact ih (k + 1) (by omega) (by omega)
  rw [show loopO m_impl_these_0 (ptrs t, [], l, (l.length : Int), (0 : Int)) = _ from key l.length 0 (by omega) (Nat.zero_le _), bind_some]
  rfl
/-- Where a pointer stands in a list. -/
def pos (l : List (Option Nat)) (v : Option Nat) : Int := match l.findIdx? (fun x => decide (x = v)) with
  | some i => (i : Int)
  | none => -1
theorem indexIn_eq (l : List (Option Nat)) (n : Nat) (hl : l.length ≤ 2147483647) : m_goquery_indexInSlice (l, some n) = some (pos l (some n)) := by
  simp only [m_goquery_indexInSlice, Option.isNone_some, Bool.not_false, cond_true]
  have h := loop_find (body := m_goquery_indexInSlice_0) l (fun x => decide (x = some n)) (fun k => (some n, l, (l.length : Int), (k : Int))) (.inl ()) (fun k => .inr (k : Int)) (fun k v hv => by
    have hk := (List.getElem?_eq_some_iff.1 hv).1
    simp only [m_goquery_indexInSlice_0, cond_dec, atI_nat]
    rw [if_pos (by omega), hv, bind_some, w64 (by omega) (by omega)]
    by_cases e : v = some n
    · rw [if_pos e]; simp [e]
    · rw [if_neg e]; simp [e]) (by
    simp only [m_goquery_indexInSlice_0, cond_dec]
    rw [if_neg (by omega)])
  rw [show loopO m_goquery_indexInSlice_0 (some n, l, (l.length : Int), (0 : Int)) = _ from h, bind_some]
  unfold pos
  cases l.findIdx? (fun x => decide (x = some n)) <;> rfl
theorem pos_some {l : List (Option Nat)} {v : Option Nat} {i : Nat} (h : l[i]? = some v) (hn : ∀ j, j < i → l[j]? ≠ some v) : pos l v = (i : Int) := by
  unfold pos
  obtain ⟨hi, he⟩ := List.getElem?_eq_some_iff.1 h
  have : l.findIdx? (fun x => decide (x = v)) = some i := by
    rw [List.findIdx?_eq_some_iff_getElem]
    refine ⟨hi, by simp [he], fun j hj => ?_⟩
    have := hn j hj
    rw [List.getElem?_eq_getElem (by omega)] at this
    simpa using this
  rw [this]
theorem pos_none {l : List (Option Nat)} {v : Option Nat} (h : v ∉ l) : pos l v = -1 := by
  unfold pos
  have : l.findIdx? (fun x => decide (x = v)) = none := by
    rw [List.findIdx?_eq_none_iff]
    intro x hx
    have : x ≠ v := fun e => h (e ▸ hx)
    simpa using this
  rw [this]
theorem pos_mem {l : List (Option Nat)} {v : Option Nat} : -1 < pos l v ↔ v ∈ l := by
  constructor
  · intro h
    apply Decidable.byContradiction
    intro hn
    rw [pos_none hn] at h
    omega
  · intro h
    unfold pos
    cases hf : l.findIdx? (fun x => decide (x = v)) with
    | none =>
      rw [List.findIdx?_eq_none_iff] at hf
      have := hf v h
      simp at this
    | some i => simp only; omega
theorem pos_ptrs {t : List Node} {a : Nat} (h : a < t.length) : pos (ptrs t) (some a) = (a : Int) := pos_some (ptrs_get h) fun j hj => by
  rw [ptrs_get (by omega)]
  simp
  omega
theorem isIn_eq (l : List (Option Nat)) (n : Nat) (hl : l.length ≤ 2147483647) : m_goquery_isInSlice (l, some n) = some (decide (some n ∈ l)) := by
  simp only [m_goquery_isInSlice, indexIn_eq l n hl, bind_some]
  congr 1
  rw [decide_eq_decide]
  exact pos_mem
theorem appSmall_eq (l : List Int) (hl : l.length < 1000) (hn : ∀ (i j : Nat) (v w : Int), i < j → l[i]? = some v → l[j]? = some w → v.toNat ≠ w.toNat) : m_goquery_appendWithoutDuplicates_small ([], pts l, ()) = some (pts l) := by
  simp only [m_goquery_appendWithoutDuplicates_small, cond_dec, List.length_nil, pts_len]
  rw [w64 (by omega) (by omega), if_pos (by omega)]
  have key : ∀ m k, l.length - k = m → k ≤ l.length → loopO m_goquery_appendWithoutDuplicates_small_0 (pts (l.take k), pts l, (l.length : Int), (k : Int)) = some (pts l) := by
    intro m
    induction m with
    | zero =>
      intro k hm hk
      refine loopO_out ?_
      simp only [m_goquery_appendWithoutDuplicates_small_0, cond_dec]
      rw [if_neg (by omega), List.take_of_length_le (by omega)]
    | succ m ih =>
      intro k hm hk
      obtain ⟨v, hv⟩ := get_lt (l := l) (k := k) (by omega)
      have hlen : (pts (l.take k)).length = k := by rw [pts_len, List.length_take]; omega
      have hnot : some v.toNat ∉ pts (l.take k) := fun hm => by
        obtain ⟨i, hi⟩ := List.mem_iff_getElem?.1 hm
        rw [pts_get] at hi
        cases hu : (l.take k)[i]? with
        | none => rw [hu] at hi; cases hi
        | some u =>
          rw [hu] at hi
          have hik : i < k := by
            have := (List.getElem?_eq_some_iff.1 hu).1
            rw [List.length_take] at this; omega
          rw [List.getElem?_take, if_pos hik] at hu
          have := hn i k u v hik hu hv
          simp at hi
          exact this hi
      have step : m_goquery_appendWithoutDuplicates_small_0 (pts (l.take k), pts l, (l.length : Int), (k : Int)) = some (.nx (pts (l.take (k + 1)), pts l, (l.length : Int), ((k + 1 : Nat) : Int))) := by
        simp only [m_goquery_appendWithoutDuplicates_small_0, cond_dec, atI_nat]
        rw [if_pos (by omega), pts_get, hv]
        simp only [Option.map_some, bind_some]
        rw [isIn_eq _ _ (by omega), bind_some, decide_eq_false hnot]
        simp only [Bool.not_false, cond_true]
        rw [appL_some (by rw [hlen]; simp; omega), bind_some, w64 (by omega) (by omega), List.take_add_one, hv]
        simp [pts]
      rw [loopO_nx step]
      exact ih (k + 1) (by omega) (by omega)
  rw [show loopO m_goquery_appendWithoutDuplicates_small_0 ([], pts l, (l.length : Int), (0 : Int)) = _ from key l.length 0 (by omega) (Nat.zero_le _), bind_some]
theorem chosen_eq (t : List Node) (l : List Int) (hf : fits1 t = true) (hR : RT t) (hO : Asc t l) : m_impl_chosen (t, l, []) = some (pts l, ptrs t, true, store t) := by
  have h1 := hR.pos
  have h2 := hR.len
  have h3 := hO.len
  have hn : ∀ (i j : Nat) (v w : Int), i < j → l[i]? = some v → l[j]? = some w → v.toNat ≠ w.toNat := fun i j v w hij hv hw => by
    have a := hO.lt hij hv hw
    have b := (hO.bd i v hv).1
    omega
  simp only [m_impl_chosen, grown_eq t hf hR, bind_some, m_impl_among, these_eq t l (by omega) hO.bd, Bool.not_true, cond_false, atI_zero, ptrs_get h1]
  simp only [m_goquery_NewDocumentFromNode, m_goquery_newDocument, m_goquery_newSingleSelection, bind_some, m_goquery_Selection_Eq_nil, cond_dec, List.length_singleton]
  rw [if_neg (by omega), if_pos (by omega)]
  simp only [m_goquery_newEmptySelection, bind_some, m_goquery_Selection_AddNodes_nil, appSmall_eq l (by omega) hn, m_goquery_pushStack]
end Go.Proofs.YtpedmnlpccngiaaDoor.V
