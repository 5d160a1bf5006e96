/-
  What it tells that a tree is right. Plain facts.
-/
import Derived.Test.YtpedmnlpccngiaaDoorPTree
set_option linter.unusedVariables false
set_option linter.unusedSimpArgs false
namespace Go.Proofs.YtpedmnlpccngiaaDoor.V
open Go

theorem fits_attr {l : List Attr} (h : fits3 l = true) {i : Nat} {a : Attr} (hi : l[i]? = some a) : a.key.length ≤ 2147483647 ∧ a.val.length ≤ 2147483647 := by
  simp only [fits3, Bool.and_eq_true, List.all_eq_true] at h
  have := h.2 a (List.mem_of_getElem? hi)
  simpa [fits4] using this
theorem fits_node {t : List Node} (h : fits1 t = true) {i : Nat} {v : Node} (hi : t[i]? = some v) : v.tag.length ≤ 2147483647 ∧ v.text.length ≤ 2147483647 ∧ fits3 v.attrs = true := by
  simp only [fits1, Bool.and_eq_true, List.all_eq_true] at h
  have := h.2 v (List.mem_of_getElem? hi)
  simp only [fits2, Bool.and_eq_true, decide_eq_true_eq] at this
  exact ⟨this.1.1, this.1.2, this.2⟩
/-- Attributes of an element: names, each once, and plain values. -/
structure UA (l : List Attr) : Prop where
  len : l.length ≤ 20
  nm : ∀ (i : Nat) (a : Attr), l[i]? = some a → m_spec_Name a.key = some true
  pl : ∀ (i : Nat) (a : Attr), l[i]? = some a → m_spec_Plain a.val = some true
  uq : ∀ (i j : Nat) (a b : Attr), j < i → l[i]? = some a → l[j]? = some b → b.key ≠ a.key
theorem rightAttrs_ex (l : List Attr) (hf : fits3 l = true) : ∃ b, m_spec_rightAttrs l = some b ∧ (b = true → UA l) := by
  simp only [m_spec_rightAttrs, cond_dec]
  split
  · exact ⟨_, rfl, fun h => by cases h⟩
  · rename_i hl
    obtain ⟨y, h, q1, q2⟩ := loopO_rule (body := m_spec_rightAttrs_0) (fun x => ∃ k : Nat, x = (l, (k : Int)) ∧ k ≤ l.length ∧ ∀ (i : Nat) (a : Attr), i < k → l[i]? = some a → m_spec_Name a.key = some true ∧ m_spec_Plain a.val = some true ∧ ∀ (j : Nat) (b : Attr), j < i → l[j]? = some b → b.key ≠ a.key) (fun _ y => (y = .inl () → UA l) ∧ ∀ b, y = .inr b → b = false) (fun x => ((l.length : Int) - x.2).toNat) (fun x hx => by
      obtain ⟨k, rfl, hk, hI⟩ := hx
      simp only [m_spec_rightAttrs_0, cond_dec, atI_nat]
      split
      · rename_i h1
        obtain ⟨v, hv⟩ := get_lt (l := l) (k := k) (by omega)
        obtain ⟨f1, f2⟩ := fits_attr hf hv
        obtain ⟨r, hr⟩ := name_ex v.key (by omega)
        obtain ⟨r', hr'⟩ := plain_ex v.val (by omega)
        rw [hv]
        simp only [bind_some]
        rw [hr, bind_some, not_cond]
        cases r
        · exact .inl ⟨_, rfl, (fun h => by cases h), fun b h => by cases h; rfl⟩
        · rw [if_pos rfl, hr', bind_some, not_cond]
          cases r'
          · exact .inl ⟨_, rfl, (fun h => by cases h), fun b h => by cases h; rfl⟩
          · rw [if_pos rfl]
            obtain ⟨z, hz, hq⟩ := loopO_rule (body := m_spec_rightAttrs_0_0) (fun x => ∃ j : Nat, x = (l, (k : Int), (j : Int)) ∧ j ≤ k ∧ ∀ (i : Nat) (b : Attr), i < j → l[i]? = some b → b.key ≠ v.key) (fun _ z => (z = .inl (l, (k : Int)) ∧ ∀ (i : Nat) (b : Attr), i < k → l[i]? = some b → b.key ≠ v.key) ∨ z = .inr false) (fun x => ((k : Int) - x.2.2).toNat) (fun x hx => by
              obtain ⟨j, rfl, hj, hJ⟩ := hx
              simp only [m_spec_rightAttrs_0_0, cond_dec, atI_nat]
              split
              · rename_i h2
                obtain ⟨u, hu⟩ := get_lt (l := l) (k := j) (by omega)
                rw [hu, hv]
                simp only [bind_some]
                split
                · exact .inl ⟨_, rfl, .inr rfl⟩
                · rename_i h3
                  refine .inr ⟨_, rfl, ⟨j + 1, by rw [w64 (by omega) (by omega)]; rfl, by omega, fun i b hi hb => ?_⟩, by simp only; rw [w64 (by omega) (by omega)]; omega, fun _ h => h⟩
                  by_cases e : i = j
                  · subst e; rw [hu] at hb; cases hb; exact h3
                  · exact hJ i b (by omega) hb
              · have : j = k := by omega
                subst this
                exact .inl ⟨_, rfl, .inl ⟨rfl, hJ⟩⟩) (l, (k : Int), (0 : Int)) ⟨0, rfl, Nat.zero_le _, fun i b hi => by omega⟩
            rw [show loopO m_spec_rightAttrs_0_0 (l, (k : Int), (0 : Int)) = some z from hz, bind_some]
            rcases hq with ⟨rfl, hz2⟩ | rfl
            · simp only [selim_l]
              rw [w64 (n := (k : Int) + 1) (by omega) (by omega)]
              refine .inr ⟨_, rfl, ⟨k + 1, rfl, by omega, fun i a hi ha => ?_⟩, by simp only; omega, fun _ h => h⟩
              by_cases e : i = k
              · subst e; rw [hv] at ha; cases ha; exact ⟨hr, hr', fun j b hj hb => hz2 j b hj hb⟩
              · exact hI i a (by omega) ha
            · exact .inl ⟨_, rfl, (fun h => by cases h), fun b h => by cases h; rfl⟩
      · have : k = l.length := by omega
        subst this
        exact .inl ⟨_, rfl, (fun _ => ⟨by omega, fun i a ha => (hI i a (List.getElem?_eq_some_iff.1 ha).1 ha).1, fun i a ha => (hI i a (List.getElem?_eq_some_iff.1 ha).1 ha).2.1, fun i j a b hj ha hb => (hI i a (List.getElem?_eq_some_iff.1 ha).1 ha).2.2 j b hj hb⟩), fun b h => by cases h⟩) (l, (0 : Int)) ⟨0, rfl, Nat.zero_le _, fun i a hi => by omega⟩
    rw [h, bind_some]
    rcases y with u | b
    · exact ⟨_, rfl, fun _ => q1 rfl⟩
    · obtain rfl := q2 b rfl
      exact ⟨_, rfl, fun h => by cases h⟩
theorem kidsF_mem {t : List Node} {lo hi c : Nat} (hL : Lam t lo hi) : ∀ {f k : Nat}, lo ≤ k → c ∈ kidsF t f k hi → k ≤ c ∧ c < hi
  | 0, _, _, h => by cases h
  | f + 1, k, hk, h => by
    simp only [kidsF] at h
    split at h
    · rcases List.mem_cons.1 h with rfl | h
      · exact ⟨Nat.le_refl _, by assumption⟩
      · obtain ⟨u, _, _, h1, h2⟩ := hL.ok k hk (by assumption)
        have := kidsF_mem hL (by omega) h
        omega
    · cases h
theorem kids_mem {t : List Node} {lo hi a c : Nat} (hL : Lam t lo hi) (h1 : lo ≤ a) (h2 : a < hi) (h : c ∈ kidsN t a) : a < c ∧ c < a + sz t a := by
  have hs := hL.sub h1 h2
  have := kidsF_mem (lo := a) hs (by omega) h
  omega
theorem kidsF_len {t : List Node} : ∀ {f k hi : Nat}, (kidsF t f k hi).length ≤ f
  | 0, _, _ => by simp [kidsF]
  | f + 1, k, hi => by
    simp only [kidsF]
    split
    · simp only [List.length_cons]; have := kidsF_len (t := t) (f := f) (k := k + sz t k) (hi := hi); omega
    · simp
theorem rightRoot_ex (t : List Node) (ht : t.length ≤ 1000000) (hL : Lam t 0 t.length) (h0 : 0 < t.length) : ∃ b, m_spec_rightRoot t = some b := by
  simp only [m_spec_rightRoot]
  rw [show m_spec_Kids (t, (0 : Int)) = _ from Kids_eq t ht (a := 0) hL (Nat.le_refl _) h0 (Nat.le_refl _), bind_some]
  have hlen : (kidsN t 0).length ≤ 1000000 := by
    have := kidsF_len (t := t) (f := sz t 0) (k := 0 + 1) (hi := 0 + sz t 0)
    obtain ⟨v, _, _, _, h⟩ := hL.ok 0 (Nat.le_refl _) h0
    unfold kidsN; omega
  obtain ⟨y, h, _⟩ := loopO_rule (body := m_spec_rightRoot_0) (fun x => ∃ (b : Bool) (k : Nat), x = (t, (kidsN t 0).map Int.ofNat, b, (k : Int)) ∧ k ≤ (kidsN t 0).length) (fun _ _ => True) (fun x => (((kidsN t 0).length : Int) - x.2.2.2).toNat) (fun x hx => by
    obtain ⟨b, k, rfl, hk⟩ := hx
    simp only [m_spec_rightRoot_0, cond_dec, atI_nat, Int.toNat_natCast]
    split
    · rename_i h1
      simp only [List.length_map] at h1
      obtain ⟨c, hc⟩ := get_lt (l := kidsN t 0) (k := k) (by omega)
      have hcm := kids_mem hL (Nat.le_refl _) h0 (List.mem_of_getElem? hc)
      obtain ⟨v, hv, _, _, h5⟩ := hL.ok 0 (Nat.le_refl _) h0
      have hcl : c < t.length := by omega
      obtain ⟨u, hu⟩ := get_lt (l := t) (k := c) hcl
      have e1 : ((kidsN t 0).map Int.ofNat)[k]? = some (c : Int) := by rw [List.getElem?_map, hc]; rfl
      have e2 : atI t (c : Int) = some u := by rw [atI_nat, hu]
      rw [e1]
      simp only [bind_some]
      rw [e2]
      simp only [bind_some]
      rw [w64 (n := (k : Int) + 1) (by omega) (by omega)]
      have nxt : ∀ b' : Bool, (∃ y, some (Stp.nx (B := SumT (x_spec_rightRoot_0.map (·.2))) (t, (kidsN t 0).map Int.ofNat, b', (k : Int) + 1)) = some (.nx y) ∧ (∃ (b : Bool) (k : Nat), y = (t, (kidsN t 0).map Int.ofNat, b, (k : Int)) ∧ k ≤ (kidsN t 0).length) ∧ (((kidsN t 0).length : Int) - y.2.2.2).toNat < (((kidsN t 0).length : Int) - (k : Int)).toNat ∧ ∀ b : SumT (x_spec_rightRoot_0.map (·.2)), True → True) := fun b' => ⟨_, rfl, ⟨b', k + 1, rfl, by omega⟩, by simp only; omega, fun _ h => h⟩
      cases b <;> simp only [cond_true, cond_false] <;> repeat' split
      all_goals first | exact .inl ⟨_, rfl, trivial⟩ | exact .inr (nxt _)
    · exact .inl ⟨_, rfl, trivial⟩) (t, (kidsN t 0).map Int.ofNat, false, (0 : Int)) ⟨false, 0, rfl, Nat.zero_le _⟩
  rw [h, bind_some]
  cases y <;> exact some_ex _
/-- What is known of a node of a right tree. -/
structure RN (t : List Node) (i : Nat) (v : Node) : Prop where
  kd : v.kind = 1 ∨ v.kind = 2 ∨ v.kind = 3 ∨ v.kind = 4 ∨ v.kind = 5
  k1 : v.kind = 1 → i = 0
  k2 : v.kind ≠ 3 → v.kind ≠ 1 → sz t i = 1
  k3 : v.kind = 3 → v.text = [] ∧ v.attrs.length ≤ 20 ∧ m_spec_Name v.tag = some true
  k4 : v.kind ≠ 3 → v.tag = [] ∧ v.attrs = []
  k5 : v.kind = 3 → UA v.attrs
  k6 : m_spec_Plain v.text = some true
  k7 : v.kind = 1 → v.text = []
def RNok (t : List Node) (i : Nat) (v : Node) (o : Option Bool) : Prop := ∃ b, o = some b ∧ (b = true → RN t i v)
theorem RNok.no {t : List Node} {i : Nat} {v : Node} : RNok t i v (some false) := ⟨_, rfl, fun h => by cases h⟩
theorem nil_bytes : Array.toList (ByteArray.data { data := #[] }) = [] := rfl
set_option maxHeartbeats 1000000 in
theorem rightNode_ex (t : List Node) (ht : t.length ≤ 1000000) (hf : fits1 t = true) (hL : Lam t 0 t.length) {i : Nat} {v : Node} (hv : t[i]? = some v) : RNok t i v (m_spec_rightNode (t, (i : Int))) := by
  have hi := (List.getElem?_eq_some_iff.1 hv).1
  obtain ⟨f1, f2, f3⟩ := fits_node hf hv
  obtain ⟨p, hp⟩ := plain_ex v.text (by omega)
  obtain ⟨rr, hrr⟩ := rightRoot_ex t ht hL (by omega)
  obtain ⟨nt, hnt⟩ := name_ex v.text (by omega)
  obtain ⟨nn, hnn⟩ := name_ex v.tag (by omega)
  obtain ⟨ra, hra, hra'⟩ := rightAttrs_ex v.attrs f3
  have hpar := Parent_eq t ht hL hi (Nat.le_refl _)
  obtain ⟨u, hu, hs, _, _⟩ := hL.ok i (Nat.zero_le _) hi
  have e : u = v := by rw [hv] at hu; cases hu; rfl
  subst e
  simp only [m_spec_rightNode, cond_dec, atI_nat, hv, bind_some, hp, hrr, hnt, hnn, hra, hpar, nil_bytes]
  have tail : (u.kind ≠ 3 → u.tag = [] ∧ u.attrs = []) → RNok t i u (bif !p then some false else if u.kind = 1 then if (i : Int) = 0 then if u.text = [] then some rr else some false else some false else if u.kind = 2 then if u.size = 1 then bif nt then some (decide (parI t i = 0)) else some false else some false else if u.kind = 4 then some (decide (u.size = 1)) else if u.kind = 5 then some (decide (u.size = 1)) else if u.kind = 3 then if u.text = [] then bif nn then some ra else some false else some false else some false) := fun hk => by
    rw [not_cond]
    refine ite_ok (P := RNok t i u) (fun hpl => ?_) (fun _ => .no)
    have hp6 : m_spec_Plain u.text = some true := by rw [hp, hpl]
    refine ite_ok (P := RNok t i u) (fun h1 => ?_) (fun h1 => ?_)
    · refine ite_ok (P := RNok t i u) (fun h2 => ?_) (fun _ => .no)
      refine ite_ok (P := RNok t i u) (fun h3 => ?_) (fun _ => .no)
      exact ⟨_, rfl, fun _ => ⟨.inl h1, fun _ => by omega, fun _ h => absurd h1 h, fun h => by omega, hk, fun h => by omega, hp6, fun _ => h3⟩⟩
    refine ite_ok (P := RNok t i u) (fun h2 => ?_) (fun h2 => ?_)
    · refine ite_ok (P := RNok t i u) (fun h3 => ?_) (fun _ => .no)
      cases nt
      · exact .no
      · exact ⟨_, rfl, fun _ => ⟨.inr (.inl h2), fun h => absurd h h1, fun _ _ => by omega, fun h => by omega, hk, fun h => by omega, hp6, fun h => absurd h h1⟩⟩
    refine ite_ok (P := RNok t i u) (fun h4 => ?_) (fun h4 => ?_)
    · exact ⟨_, rfl, fun hd => ⟨.inr (.inr (.inr (.inl h4))), fun h => absurd h h1, fun _ _ => by have := of_decide_eq_true hd; omega, fun h => by omega, hk, fun h => by omega, hp6, fun h => absurd h h1⟩⟩
    refine ite_ok (P := RNok t i u) (fun h5 => ?_) (fun h5 => ?_)
    · exact ⟨_, rfl, fun hd => ⟨.inr (.inr (.inr (.inr h5))), fun h => absurd h h1, fun _ _ => by have := of_decide_eq_true hd; omega, fun h => by omega, hk, fun h => by omega, hp6, fun h => absurd h h1⟩⟩
    refine ite_ok (P := RNok t i u) (fun h3 => ?_) (fun h3 => .no)
    refine ite_ok (P := RNok t i u) (fun h6 => ?_) (fun _ => .no)
    cases nn
    · exact .no
    · refine ⟨_, rfl, fun hd => ⟨.inr (.inr (.inl h3)), fun h => absurd h h1, fun h => absurd h3 h, fun _ => ⟨h6, (hra' hd).len, hnn⟩, hk, fun _ => hra' hd, hp6, fun h => absurd h h1⟩⟩
  refine ite_ok (P := RNok t i u) (fun h3 => ?_) (fun h3 => ?_)
  · refine ite_ok (P := RNok t i u) (fun _ => .no) (fun h4 => ?_)
    refine ite_ok (P := RNok t i u) (fun _ => .no) (fun h5 => ?_)
    refine tail fun _ => ⟨by simpa using h4, List.eq_nil_of_length_eq_zero (by omega)⟩
  · exact tail fun h => absurd h h3
/-- The tree is right. -/
structure RT (t : List Node) : Prop where
  pos : 0 < t.length
  len : t.length ≤ 200
  root : sz t 0 = t.length
  lam : Lam t 0 t.length
  k0 : ∃ v, t[0]? = some v ∧ v.kind = 1
  node : ∀ i v, t[i]? = some v → RN t i v
  txt : ∀ (i : Nat) (v : Node), t[i]? = some v → v.text.length ≤ 4000 ∧ ∀ (j : Nat) (a : Attr), v.attrs[j]? = some a → a.val.length ≤ 4000
theorem Right_ex (t : List Node) (hf : fits1 t = true) : ∃ b, m_spec_Right t = some b ∧ (b = true → RT t) := by
  simp only [m_spec_Right, cond_dec, atI_zero]
  by_cases h0 : (t.length : Int) = 0
  · rw [if_pos h0]; exact ⟨_, rfl, fun h => by cases h⟩
  · rw [if_neg h0]
    by_cases h200 : (200 : Int) < t.length
    · rw [if_pos h200]; exact ⟨_, rfl, fun h => by cases h⟩
    · rw [if_neg h200]
      obtain ⟨v, hv⟩ := get_lt (l := t) (k := 0) (by omega)
      rw [hv]
      simp only [bind_some]
      by_cases h1 : v.size ≠ t.length
      · rw [if_pos h1]; exact ⟨_, rfl, fun h => by cases h⟩
      · rw [if_neg h1]
        by_cases h2 : v.kind ≠ 1
        · rw [if_pos h2]; exact ⟨_, rfl, fun h => by cases h⟩
        · rw [if_neg h2]
          obtain ⟨b, hb, hb'⟩ := sized_ok t (by omega) 40 big 0 t.length (by unfold big; omega) (by omega) (by omega) (Nat.le_refl _)
          rw [show m_spec_sized big (t, (0 : Int), (t.length : Int), (40 : Int)) = some b from hb, bind_some, not_cond]
          cases b
          · exact ⟨_, rfl, fun h => by cases h⟩
          · rw [if_pos rfl]
            obtain ⟨v', g1, g2, g3, g4, g5⟩ := hb' rfl
            rw [hv] at g1
            cases g1
            have hsz : sz t 0 = t.length := by omega
            rw [hsz, Nat.zero_add] at g5
            obtain ⟨y, hy, q1, q2⟩ := loopO_rule (body := m_spec_Right_0) (fun x => ∃ (b : Int) (k : Nat), x = (t, b, (k : Int)) ∧ k ≤ t.length ∧ 0 ≤ b ∧ b ≤ 4000 ∧ ∀ j u, j < k → t[j]? = some u → RN t j u ∧ u.text.length ≤ 4000 ∧ ∀ (j : Nat) (a : Attr), u.attrs[j]? = some a → a.val.length ≤ 4000) (fun _ y => (y = .inl () → ∀ j u, t[j]? = some u → RN t j u ∧ u.text.length ≤ 4000 ∧ ∀ (j : Nat) (a : Attr), u.attrs[j]? = some a → a.val.length ≤ 4000) ∧ ∀ b, y = .inr b → b = false) (fun x => ((t.length : Int) - x.2.2).toNat) (fun x hx => by
              obtain ⟨by_, k, rfl, hk, hb1, hb2, hrn⟩ := hx
              simp only [m_spec_Right_0, cond_dec, atI_nat]
              split
              · rename_i h3
                obtain ⟨u, hu⟩ := get_lt (l := t) (k := k) (by omega)
                rw [hu, bind_some]
                have hb0 : ∃ b0 : Int, IntKind.wrap .i64 (by_ + if (4001 : Int) < (u.text.length : Int) then (4001 : Int) else (u.text.length : Int)) = b0 ∧ 0 ≤ b0 ∧ b0 ≤ 8001 ∧ (b0 ≤ 4000 → u.text.length ≤ 4000) := by
                  split
                  · exact ⟨_, rfl, by rw [w64 (by omega) (by omega)]; omega, by rw [w64 (by omega) (by omega)]; omega, by rw [w64 (by omega) (by omega)]; omega⟩
                  · exact ⟨_, rfl, by rw [w64 (by omega) (by omega)]; omega, by rw [w64 (by omega) (by omega)]; omega, by rw [w64 (by omega) (by omega)]; omega⟩
                obtain ⟨b0, hb0, c1, c2, c3⟩ := hb0
                rw [hb0]
                obtain ⟨_, _, f3⟩ := fits_node hf hu
                have hal : u.attrs.length ≤ 2147483647 := by simp only [fits3, Bool.and_eq_true, decide_eq_true_eq] at f3; exact f3.1
                obtain ⟨z, hz, ⟨b1, hz1, d1, d2, d3⟩⟩ := loopO_rule (body := m_spec_Right_0_0) (fun x => ∃ (b : Int) (j : Nat), x = (t, b, (k : Int), (j : Int)) ∧ j ≤ u.attrs.length ∧ 0 ≤ b ∧ b ≤ 8001 ∧ (b ≤ 4000 → u.text.length ≤ 4000 ∧ ∀ (i : Nat) (a : Attr), i < j → u.attrs[i]? = some a → a.val.length ≤ 4000)) (fun _ y => ∃ b : Int, y = (t, b, (k : Int)) ∧ 0 ≤ b ∧ b ≤ 8001 ∧ (b ≤ 4000 → u.text.length ≤ 4000 ∧ ∀ (i : Nat) (a : Attr), u.attrs[i]? = some a → a.val.length ≤ 4000)) (fun x => ((u.attrs.length : Int) - x.2.2.2).toNat) (fun x hx => by
                  obtain ⟨b2, j, rfl, hj, e1, e2, e3⟩ := hx
                  simp only [m_spec_Right_0_0, cond_dec, atI_nat, hu, bind_some]
                  split
                  · split
                    · rename_i h5 h6
                      obtain ⟨a, ha⟩ := get_lt (l := u.attrs) (k := j) (by omega)
                      rw [ha, bind_some, w64 (n := (j : Int) + 1) (by omega) (by omega)]
                      have nx : ∀ m : Int, 0 ≤ m → m ≤ 4001 → (m ≤ 4000 → a.val.length ≤ 4000) → (b2 + m ≤ 4000 → u.text.length ≤ 4000 ∧ ∀ (i : Nat) (a : Attr), i < j + 1 → u.attrs[i]? = some a → a.val.length ≤ 4000) := fun m m1 m2 m3 hm => by
                        obtain ⟨g1, g2⟩ := e3 (by omega)
                        refine ⟨g1, fun i a' hi ha' => ?_⟩
                        by_cases e : i = j
                        · subst e; rw [ha] at ha'; cases ha'; exact m3 (by omega)
                        · exact g2 i a' (by omega) ha'
                      split
                      · rw [w64 (by omega) (by omega)]
                        exact .inr ⟨_, rfl, ⟨_, j + 1, rfl, by omega, by omega, by omega, nx 4001 (by omega) (by omega) (by omega)⟩, by simp only; omega, fun _ h => h⟩
                      · rw [w64 (by omega) (by omega)]
                        exact .inr ⟨_, rfl, ⟨_, j + 1, rfl, by omega, by omega, by omega, nx _ (by omega) (by omega) (by omega)⟩, by simp only; omega, fun _ h => h⟩
                    · exact .inl ⟨_, rfl, _, rfl, e1, e2, fun h => by omega⟩
                  · have : j = u.attrs.length := by omega
                    subst this
                    exact .inl ⟨_, rfl, _, rfl, e1, e2, fun h => ⟨(e3 h).1, fun i a ha => (e3 h).2 i a (List.getElem?_eq_some_iff.1 ha).1 ha⟩⟩) (t, b0, (k : Int), (0 : Int)) ⟨b0, 0, rfl, Nat.zero_le _, c1, c2, fun h => ⟨c3 h, fun i a hi => by omega⟩⟩
                rw [hz, bind_some, hz1]
                simp only
                split
                · exact .inl ⟨_, rfl, (fun h => by cases h), fun b h => by cases h; rfl⟩
                · rename_i h4
                  obtain ⟨r, hr, hr'⟩ := rightNode_ex t (by omega) hf g5 hu
                  rw [hr, bind_some, not_cond, w64 (n := (k : Int) + 1) (by omega) (by omega)]
                  cases r
                  · exact .inl ⟨_, rfl, (fun h => by cases h), fun b h => by cases h; rfl⟩
                  · refine .inr ⟨_, rfl, ⟨b1, k + 1, rfl, by omega, by omega, by omega, fun j u' hj hu' => ?_⟩, by simp only; omega, fun _ h => h⟩
                    by_cases e : j = k
                    · subst e; rw [hu] at hu'; cases hu'; exact ⟨hr' rfl, d3 (by omega)⟩
                    · exact hrn j u' (by omega) hu'
              · rename_i h3
                refine .inl ⟨_, rfl, (fun _ j u hu => hrn j u ?_ hu), fun b h => by cases h⟩
                have := (List.getElem?_eq_some_iff.1 hu).1
                omega) (t, (0 : Int), (0 : Int)) ⟨0, 0, rfl, Nat.zero_le _, by omega, by omega, fun j u hj => by omega⟩
            rw [hy, bind_some]
            rcases y with w | b
            · exact ⟨_, rfl, fun _ => ⟨by omega, by omega, hsz, g5, ⟨v, hv, by omega⟩, fun j u hu => (q1 rfl j u hu).1, fun j u hu => (q1 rfl j u hu).2⟩⟩
            · obtain rfl := q2 b rfl
              exact ⟨_, rfl, fun h => by cases h⟩
end Go.Proofs.YtpedmnlpccngiaaDoor.V
