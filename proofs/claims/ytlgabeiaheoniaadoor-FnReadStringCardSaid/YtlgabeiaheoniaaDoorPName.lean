/-
  FnReadName. Plain facts.
-/
import Derived.Test.YtlgabeiaheoniaaDoorPEsc
set_option linter.unusedVariables false
set_option linter.unusedSimpArgs false
namespace Go.Proofs.YtlgabeiaheoniaaDoor.V
open Go

theorem readable_ex {s : List UInt8} (hs : s.length ≤ 1000) : ∃ b, m_spec_readable s = some b := by
  simp only [m_spec_readable]
  obtain ⟨y, h, _⟩ := loopO_rule (body := m_spec_readable_0) (fun x => ∃ k : Nat, x = (s, (k : Int)) ∧ k ≤ s.length) (fun _ _ => True) (fun x => ((s.length : Int) - x.2).toNat) (fun x hx => by
    obtain ⟨k, rfl, hk⟩ := hx
    simp only [m_spec_readable_0, cond_dec]
    split
    · obtain ⟨c, hc⟩ := get_lt (l := s) (k := k) (by omega)
      obtain ⟨v, n, h1, h2, h3, h4⟩ := point_ex hs hc
      rw [h1, bind_some]
      simp only
      split
      · exact .inl ⟨_, rfl, trivial⟩
      · split
        · exact .inl ⟨_, rfl, trivial⟩
        · split
          · exact .inl ⟨_, rfl, trivial⟩
          · refine .inr ⟨_, rfl, ⟨k + n, by rw [w64 (by omega) (by omega)]; rfl, h2⟩, ?_, fun _ _ => trivial⟩
            simp only
            rw [w64 (by omega) (by omega)]
            omega
    · exact .inl ⟨_, rfl, trivial⟩) (s, (0 : Int)) ⟨0, rfl, Nat.zero_le _⟩
  rw [h, bind_some]
  cases y <;> exact ⟨_, rfl⟩
/-- What a step of reading takes: where it goes on, and what is read. -/
def estep (s : List UInt8) (i : Nat) : Option (Nat × List UInt8) :=
  if ef s i then
    match s[i + 1]? with
    | some d => if hexN d.toNat then some (sp s (hexs s 6 (i + 1) 0).1, enc8 ((hexs s 6 (i + 1) 0).2 : Int)) else if 128 ≤ d.toNat then some (i + 1, []) else some (i + 2, [d])
    | none => none
  else none
def nstep (s : List UInt8) (i : Nat) : Option (Nat × List UInt8) :=
  match s[i]? with
  | none => none
  | some c => if nameN c.toNat then some (i + 1, [c]) else estep s i
inductive Rdg (f : Nat → Option (Nat × List UInt8)) : Nat → List UInt8 → Nat → List UInt8 → Prop
  | refl {i : Nat} {o : List UInt8} : Rdg f i o i o
  | step {i j k : Nat} {o p q : List UInt8} (h : f i = some (j, p)) (t : Rdg f j (o ++ p) k q) : Rdg f i o k q
section
variable {f : Nat → Option (Nat × List UInt8)} {i j k : Nat} {o p q : List UInt8}
theorem Rdg.trans (h : Rdg f i o j p) : ∀ {k : Nat} {q : List UInt8}, Rdg f j p k q → Rdg f i o k q := by
  induction h with
  | refl => intro k q h; exact h
  | step h t ih => intro k q h2; exact .step h (ih h2)
theorem Rdg.one (h : f i = some (j, p)) : Rdg f i o j (o ++ p) := .step h .refl
theorem Rdg.det (h : Rdg f i o j p) : ∀ {k : Nat} {q : List UInt8}, f j = none → Rdg f i o k q → f k = none → j = k ∧ p = q := by
  induction h with
  | refl =>
    intro k q hj h2 hk
    cases h2 with
    | refl => exact ⟨rfl, rfl⟩
    | step h _ => rw [hj] at h; cases h
  | step h t ih =>
    intro k q hj h2 hk
    cases h2 with
    | refl => rw [hk] at h; cases h
    | step h' t' =>
      rw [h] at h'
      cases h'
      exact ih hj t' hk
end
section
variable {s : List UInt8}
theorem ef_lt {i : Nat} (h : ef s i = true) : i + 1 < s.length := by
  unfold ef at h
  simp at h
  exact h.2.1
theorem estep_hex {i : Nat} {d : UInt8} (h : ef s i = true) (hd : s[i + 1]? = some d) (hh : hexN d.toNat = true) : estep s i = some (sp s (hexs s 6 (i + 1) 0).1, enc8 ((hexs s 6 (i + 1) 0).2 : Int)) := by
  simp only [estep, h, hd, hh, if_true]
theorem estep_high {i : Nat} {d : UInt8} (h : ef s i = true) (hd : s[i + 1]? = some d) (hh : hexN d.toNat = false) (hi : 128 ≤ d.toNat) : estep s i = some (i + 1, []) := by
  simp [estep, h, hd, hh, hi]
theorem estep_low {i : Nat} {d : UInt8} (h : ef s i = true) (hd : s[i + 1]? = some d) (hh : hexN d.toNat = false) (hi : ¬ 128 ≤ d.toNat) : estep s i = some (i + 2, [d]) := by
  simp [estep, h, hd, hh, hi]
theorem estep_none {i : Nat} (h : ef s i = false) : estep s i = none := by simp [estep, h]
theorem sp_gt {i : Nat} (hi : i + 1 < s.length) : i < sp s (hexs s 6 (i + 1) 0).1 ∧ sp s (hexs s 6 (i + 1) 0).1 ≤ s.length := by
  have h1 := hexs_le s 6 (i + 1) 0 (by omega)
  have h2 := sp_le s (hexs s 6 (i + 1) 0).1 h1.2.1
  omega
theorem hexs_gt {i : Nat} {d : UInt8} (hd : s[i + 1]? = some d) (hh : hexN d.toNat = true) : i + 2 ≤ (hexs s 6 (i + 1) 0).1 := by
  have hi := (List.getElem?_eq_some_iff.1 hd).1
  rw [show (6 : Nat) = 5 + 1 from rfl, hexs, hd]
  simp only [hh, if_true]
  have := hexs_le s 5 (i + 1 + 1) (16 * 0 + hexV d.toNat) (by omega)
  omega
/-- Bytes beyond ASCII are read one by one. -/
theorem high_run {f : Nat → Option (Nat × List UInt8)} (hf : ∀ (i : Nat) (c : UInt8), s[i]? = some c → 128 ≤ c.toNat → f i = some (i + 1, [c])) : ∀ (k i : Nat) (o : List UInt8), i + k ≤ s.length → (∀ j, j < k → ∃ c, s[i + j]? = some c ∧ 128 ≤ c.toNat) → Rdg f i o (i + k) (o ++ (s.take (i + k)).drop i)
  | 0, i, o, hi, h => by
    rw [Nat.add_zero, List.drop_of_length_le (by rw [List.length_take]; omega), List.append_nil]
    exact .refl
  | k + 1, i, o, hi, h => by
    obtain ⟨c, hc, hh⟩ := h 0 (by omega)
    rw [Nat.add_zero] at hc
    have ih := high_run hf k (i + 1) (o ++ [c]) (by omega) fun j hj => by
      obtain ⟨c', h1, h2⟩ := h (j + 1) (by omega)
      exact ⟨c', by rw [← h1]; congr 1; omega, h2⟩
    have e : o ++ (s.take (i + (k + 1))).drop i = (o ++ [c]) ++ (s.take (i + 1 + k)).drop (i + 1) := by
      rw [List.append_assoc, show i + (k + 1) = i + 1 + k by omega]
      congr 1
      have hl : i < (s.take (i + 1 + k)).length := by rw [List.length_take]; omega
      rw [List.drop_eq_getElem_cons hl]
      have : (s.take (i + 1 + k))[i] = c := by
        have h1 : (s.take (i + 1 + k))[i]? = some c := by rw [List.getElem?_take, if_pos (by omega)]; exact hc
        exact (List.getElem?_eq_some_iff.1 h1).2
      rw [this]
      rfl
    rw [e, show i + (k + 1) = i + 1 + k by omega]
    exact .step (hf i c hc hh) ih
/-- The specification's escape is read as a step, or some. -/
theorem esc_Rdg {f : Nat → Option (Nat × List UInt8)} (hs : s.length ≤ 1000) (hf : ∀ (i : Nat) (c : UInt8), s[i]? = some c → 128 ≤ c.toNat → f i = some (i + 1, [c])) {i : Nat} (h : ef s i = true) (he : f i = estep s i) (b u p : Bool) (o : List UInt8) :
    ∃ (out : List UInt8) (j : Nat) (u' : Bool), m_spec_reader_escape (s, (i : Int), b, u, p) = some (out, s, (j : Int), b, u', p) ∧ (u' = false → u = false ∧ Rdg f i o j (o ++ out)) ∧ i < j ∧ j ≤ s.length ∧ out.length ≤ 4 * (j - i) := by
  obtain ⟨c, d, hc, q1, hd, q2, q3, q4⟩ := ef_true h
  have hi := (List.getElem?_eq_some_iff.1 hd).1
  cases hh : hexN d.toNat with
  | true =>
    obtain ⟨out, u', h1, h2, h3⟩ := spec_hex (b := b) (u := u) (p := p) hs hd hh
    have h4 := sp_gt hi
    have hst := he.trans (estep_hex h hd hh)
    generalize sp s (hexs s 6 (i + 1) 0).1 = j at h1 h4 hst
    generalize enc8 ((hexs s 6 (i + 1) 0).2 : Int) = w at h2 hst
    refine ⟨out, j, u', h1, fun e => ?_, h4.1, h4.2, by omega⟩
    obtain ⟨g1, g2⟩ := h2 e
    subst g2
    exact ⟨g1, .one hst⟩
  | false =>
    obtain ⟨k, h1, h2, h3, h4⟩ := spec_other (b := b) (u := u) (p := p) hs hd hh
    refine ⟨_, _, u, h1, fun e => ⟨e, ?_⟩, by omega, h2, by rw [List.length_drop, List.length_take]; omega⟩
    by_cases hhi : 128 ≤ d.toNat
    · refine .step (he.trans (estep_high h hd hh hhi)) ?_
      rw [List.append_nil]
      exact high_run hf k (i + 1) o h2 (h4 hhi)
    · have hk := h3 (by omega)
      subst hk
      have e2 : (s.take (i + 1 + 1)).drop (i + 1) = [d] := by
        rw [List.take_add_one, hd, List.drop_append_of_le_length (by rw [List.length_take]; omega), List.drop_of_length_le (by rw [List.length_take]; omega)]
        rfl
      rw [e2]
      exact .one (he.trans (estep_low h hd hh hhi))
/-- The implementation's escape. -/
theorem iesc_Rdg {f : Nat → Option (Nat × List UInt8)} (hs : s.length ≤ 1000) (hf : ∀ (i : Nat) (c : UInt8), s[i]? = some c → 128 ≤ c.toNat → f i = some (i + 1, [c])) {i : Nat} (h : ef s i = true) (he : f i = estep s i) (dp : Int) (ac : Bool) (o : List UInt8) :
    ∃ (out : List UInt8) (j : Nat), m_cascadia_parser_parseEscape (s, (i : Int), dp, ac) = some (out, false, s, (j : Int), dp, ac) ∧ Rdg f i o j (o ++ out) ∧ i < j ∧ j ≤ s.length ∧ out.length ≤ 4 * (j - i) := by
  obtain ⟨c, d, hc, q1, hd, q2, q3, q4⟩ := ef_true h
  have hi := (List.getElem?_eq_some_iff.1 hd).1
  cases hh : hexN d.toNat with
  | true =>
    have h4 := sp_gt hi
    have h5 := enc8_len ((hexs s 6 (i + 1) 0).2 : Int)
    have hst := he.trans (estep_hex h hd hh)
    have h1 := impl_hex (dp := dp) (ac := ac) hs h hd hh
    generalize sp s (hexs s 6 (i + 1) 0).1 = j at h1 h4 hst
    generalize enc8 ((hexs s 6 (i + 1) 0).2 : Int) = w at h1 h5 hst
    exact ⟨w, j, h1, .one hst, h4.1, h4.2, by omega⟩
  | false =>
    refine ⟨_, _, impl_other hs h hd hh, ?_, by omega, by omega, by simp⟩
    by_cases hhi : 128 ≤ d.toNat
    · refine .step (he.trans (estep_high h hd hh hhi)) ?_
      rw [List.append_nil]
      exact .one (hf (i + 1) d hd hhi)
    · exact .one (he.trans (estep_low h hd hh hhi))
/-! Names -/
theorem nstep_name {i : Nat} {c : UInt8} (hc : s[i]? = some c) (h : nameN c.toNat = true) : nstep s i = some (i + 1, [c]) := by simp [nstep, hc, h]
theorem nstep_hi (i : Nat) (c : UInt8) (hc : s[i]? = some c) (h : 128 ≤ c.toNat) : nstep s i = some (i + 1, [c]) := nstep_name hc (high c h).1
theorem nstep_esc {i : Nat} {c : UInt8} (hc : s[i]? = some c) (h : nameN c.toNat = false) : nstep s i = estep s i := by simp [nstep, hc, h]
theorem nstep_end {i : Nat} (h : s.length ≤ i) : nstep s i = none := by rw [nstep, List.getElem?_eq_none h]
theorem nstep_none {i : Nat} {c : UInt8} (hc : s[i]? = some c) (h : nameN c.toNat = false) (he : ef s i = false) : nstep s i = none := by rw [nstep_esc hc h, estep_none he]
/-- Whatever is taken is read. -/
theorem Rdg.grow {i k : Nat} {o q : List UInt8} (h : Rdg (nstep s) i o k q) : o.length ≤ q.length ∧ i ≤ k ∧ (nstep s k = none → i < k → o.length < q.length) := by
  induction h with
  | refl => exact ⟨Nat.le_refl _, Nat.le_refl _, fun _ h => by omega⟩
  | @step i j k o p q h t ih =>
    obtain ⟨g1, g2, g3⟩ := ih
    rw [List.length_append] at g1 g3
    -- what a step reads
    have key : i < j ∧ (p ≠ [] ∨ nstep s j ≠ none) := by
      cases hc : s[i]? with
      | none => rw [nstep, hc] at h; cases h
      | some c =>
        cases hn : nameN c.toNat with
        | true =>
          rw [nstep_name hc hn] at h
          cases h
          exact ⟨by omega, .inl (by simp)⟩
        | false =>
          rw [nstep_esc hc hn] at h
          cases he : ef s i with
          | false => rw [estep_none he] at h; cases h
          | true =>
            obtain ⟨c', d, hc', q1, hd, q2, q3, q4⟩ := ef_true he
            have hi := (List.getElem?_eq_some_iff.1 hd).1
            cases hh : hexN d.toNat with
            | true =>
              rw [estep_hex he hd hh] at h
              cases h
              exact ⟨(sp_gt hi).1, .inl (enc8_ne _)⟩
            | false =>
              by_cases hhi : 128 ≤ d.toNat
              · rw [estep_high he hd hh hhi] at h
                cases h
                exact ⟨by omega, .inr (by rw [nstep_hi _ d hd hhi]; simp)⟩
              · rw [estep_low he hd hh hhi] at h
                cases h
                exact ⟨by omega, .inl (by simp)⟩
    refine ⟨by omega, by omega, fun hk hik => ?_⟩
    rcases key.2 with hp | hp
    · have : 0 < p.length := List.length_pos_iff.2 hp
      omega
    · by_cases e : j = k
      · subst e; exact absurd hk hp
      · have := g3 hk (by omega)
        omega
theorem rest_eq (hs : s.length ≤ 1000) : ∃ (out : List UInt8) (k : Nat) (u : Bool), m_spec_reader_rest (s, 0, false, false, false) = some (out, s, (k : Int), false, u, false) ∧ (u = false → Rdg (nstep s) 0 [] k out ∧ nstep s k = none) := by
  simp only [m_spec_reader_rest]
  obtain ⟨y, h, q⟩ := loopO_rule (body := m_spec_reader_rest_0) (fun x => ∃ (k : Nat) (u : Bool) (o : List UInt8), x = ((s, (k : Int), false, u, false), o) ∧ k ≤ s.length ∧ o.length ≤ 4 * k ∧ (u = false → Rdg (nstep s) 0 [] k o)) (fun _ y => ∃ (out : List UInt8) (k : Nat) (u : Bool), (y = .inl ((s, (k : Int), false, u, false), out) ∨ y = .inr ((s, (k : Int), false, u, false), out)) ∧ (u = false → Rdg (nstep s) 0 [] k out ∧ nstep s k = none)) (fun x => ((s.length : Int) - x.1.2.1).toNat) (fun x hx => by
    obtain ⟨k, u, o, rfl, hk, ho, hN⟩ := hx
    simp only [m_spec_reader_rest_0, cond_dec]
    split
    · rename_i h1
      obtain ⟨c, hc⟩ := get_lt (l := s) (k := k) (by omega)
      simp only [Bool.not_false, cond_true, next_eq hs, bind_some, nx_some hc, nameByte_eq]
      have e1 : IntKind.wrap .i64 ((k : Int) + 1) = (k : Int) + 1 := w64 (by omega) (by omega)
      cases hn : nameN c.toNat with
      | true =>
        simp only [cond_true, e1]
        rw [sub_one hc, bind_some, catS_some (by simp; omega), bind_some]
        exact .inr ⟨_, rfl, ⟨k + 1, u, o ++ [c], rfl, by omega, by simp; omega, fun hu => (hN hu).trans (.one (nstep_name hc hn))⟩, by simp only; omega, fun _ h => h⟩
      | false =>
        simp only [cond_false]
        rw [ef_eq hs k _ hk, bind_some]
        cases he : ef s k with
        | true =>
          obtain ⟨out, j, u', g1, g2, g3, g4, g5⟩ := esc_Rdg hs nstep_hi he (nstep_esc hc hn) false u false o
          simp only [cond_true]
          rw [g1, bind_some]
          simp only
          rw [catS_some (by omega), bind_some]
          exact .inr ⟨_, rfl, ⟨j, u', o ++ out, rfl, g4, by rw [List.length_append]; omega, fun hu => (hN (g2 hu).1).trans (g2 hu).2⟩, by simp only; omega, fun _ h => h⟩
        | false => exact .inl ⟨_, rfl, o, k, u, .inr rfl, fun hu => ⟨hN hu, nstep_none hc hn he⟩⟩
    · exact .inl ⟨_, rfl, o, k, u, .inl rfl, fun hu => ⟨hN hu, nstep_end (by omega)⟩⟩) ((s, (0 : Int), false, false, false), []) ⟨0, false, [], rfl, Nat.zero_le _, Nat.le_refl _, fun _ => .refl⟩
  obtain ⟨out, k, u, hy, hq⟩ := q
  refine ⟨out, k, u, ?_, hq⟩
  rw [h, bind_some]
  rcases hy with rfl | rfl <;> rfl
theorem chunk_eq (hs : s.length ≤ 1000) (pi dp : Int) (ac : Bool) (o : List UInt8) (st : Nat) : ∃ j : Nat, loopO m_cascadia_parser_parseName_0_0 ((s, pi, dp, ac), o, (st : Int), (st : Int)) = some ((s, pi, dp, ac), o, (j : Int), (st : Int)) ∧ st ≤ j ∧ (st ≤ s.length → j ≤ s.length) ∧ (∀ c, s[st]? = some c → nameN c.toNat = true → st < j) ∧ (st ≤ s.length → ∀ o', Rdg (nstep s) st o' j (o' ++ (s.take j).drop st)) := by
  obtain ⟨y, h, q⟩ := loopO_rule (body := m_cascadia_parser_parseName_0_0) (fun x => ∃ j : Nat, x = ((s, pi, dp, ac), o, (j : Int), (st : Int)) ∧ st ≤ j ∧ (st ≤ s.length → j ≤ s.length) ∧ (st ≤ s.length → ∀ o', Rdg (nstep s) st o' j (o' ++ (s.take j).drop st))) (fun x y => ∃ j : Nat, y = ((s, pi, dp, ac), o, (j : Int), (st : Int)) ∧ st ≤ j ∧ (st ≤ s.length → j ≤ s.length) ∧ (x.2.2.1 ≤ (j : Int)) ∧ (∀ c, x.2.2.1 = (st : Int) → s[st]? = some c → nameN c.toNat = true → st < j) ∧ (st ≤ s.length → ∀ o', Rdg (nstep s) st o' j (o' ++ (s.take j).drop st))) (fun x => ((s.length : Int) - x.2.2.1).toNat) (fun x hx => by
    obtain ⟨j, rfl, h1, h2, h3⟩ := hx
    simp only [m_cascadia_parser_parseName_0_0, cond_dec]
    split
    · rename_i h4
      obtain ⟨c, hc⟩ := get_lt (l := s) (k := j) (by omega)
      simp only [atI_nat, hc, bind_some, nameChar_eq]
      cases hn : nameN c.toNat with
      | true =>
        simp only [cond_true]
        refine .inr ⟨_, rfl, ⟨j + 1, by rw [w64 (by omega) (by omega)]; rfl, by omega, fun h => by omega, fun hst o' => ?_⟩, by rw [w64 (by omega) (by omega)]; show ((s.length : Int) - ((j : Int) + 1)).toNat < ((s.length : Int) - (j : Int)).toNat; omega, fun y hy => ?_⟩
        · refine (h3 hst o').trans ?_
          have e : o' ++ (s.take (j + 1)).drop st = (o' ++ (s.take j).drop st) ++ [c] := by
            rw [List.take_add_one, hc, List.drop_append_of_le_length (by rw [List.length_take]; omega), List.append_assoc]
            rfl
          rw [e]
          exact .one (nstep_name hc hn)
        · obtain ⟨j', q1, q2, q3, q4, q5, q6⟩ := hy
          have q4 : IntKind.wrap .i64 ((j : Int) + 1) ≤ (j' : Int) := q4
          rw [w64 (by omega) (by omega)] at q4
          exact ⟨j', q1, q2, q3, by show (j : Int) ≤ (j' : Int); omega, fun c' e _ _ => by have e : (j : Int) = (st : Int) := e; omega, q6⟩
      | false =>
        simp only [cond_false]
        refine .inl ⟨_, rfl, j, rfl, h1, h2, Int.le_refl _, fun c' e hc' hn' => ?_, h3⟩
        have e : (j : Int) = (st : Int) := e
        have : j = st := by omega
        subst this
        rw [hc] at hc'
        cases hc'
        rw [hn] at hn'
        cases hn'
    · refine .inl ⟨_, rfl, j, rfl, h1, h2, Int.le_refl _, fun c' e hc' hn' => ?_, h3⟩
      have := (List.getElem?_eq_some_iff.1 hc').1
      have e : (j : Int) = (st : Int) := e
      omega) ((s, pi, dp, ac), o, (st : Int), (st : Int)) ⟨st, rfl, Nat.le_refl _, fun h => h, fun _ o' => by
        rw [List.drop_of_length_le (by rw [List.length_take]; omega), List.append_nil]
        exact .refl⟩
  obtain ⟨j, rfl, q2, q3, q4, q5, q6⟩ := q
  exact ⟨j, h, q2, q3, fun c hc hn => q5 c rfl hc hn, q6⟩
theorem name_eq (hs : s.length ≤ 1000) : ∃ (out : List UInt8) (k : Nat), Rdg (nstep s) 0 [] k out ∧ nstep s k = none ∧ m_impl_ReadName s = some (if out = [] ∨ nx s k = 92 then ([], 0, false) else (out, (k : Int), true)) := by
  obtain ⟨y, h, q⟩ := loopO_rule (body := m_cascadia_parser_parseName_0) (fun x => ∃ (k : Nat) (pi : Int) (o : List UInt8), x = ((s, pi, 0, false), o, (k : Int)) ∧ k ≤ s.length ∧ o.length ≤ 4 * k ∧ Rdg (nstep s) 0 [] k o) (fun _ y => ∃ (out : List UInt8) (k : Nat), Rdg (nstep s) 0 [] k out ∧ nstep s k = none ∧ ((∃ pi, y = .inl ((s, pi, 0, false), out, (k : Int)) ∧ nx s k ≠ 92) ∨ (∃ pi, y = .inr ((s, pi, 0, false), [], true) ∧ nx s k = 92))) (fun x => ((s.length : Int) - x.2.2).toNat) (fun x hx => by
    obtain ⟨k, pi, o, rfl, hk, ho, hN⟩ := hx
    simp only [m_cascadia_parser_parseName_0, cond_dec]
    split
    · rename_i h1
      obtain ⟨c, hc⟩ := get_lt (l := s) (k := k) (by omega)
      simp only [atI_nat, hc, bind_some, nameChar_eq]
      cases hn : nameN c.toNat with
      | true =>
        simp only [cond_true]
        obtain ⟨j, g1, g2, g3, g4, g5⟩ := chunk_eq hs pi 0 false o k
        have g4 := g4 c hc hn
        have g3 := g3 hk
        rw [g1, bind_some]
        simp only
        rw [sub_nat s g2 g3, bind_some, catS_some (by rw [List.length_drop, List.length_take]; omega), bind_some]
        exact .inr ⟨_, rfl, ⟨j, pi, _, rfl, g3, by rw [List.length_append, List.length_drop, List.length_take]; omega, hN.trans (g5 hk o)⟩, by simp only; omega, fun _ h => h⟩
      | false =>
        simp only [cond_false]
        by_cases h92 : c.toNat = 92
        · rw [if_pos (by omega)]
          cases he : ef s k with
          | true =>
            obtain ⟨out, j, g1, g2, g3, g4, g5⟩ := iesc_Rdg hs nstep_hi he (nstep_esc hc hn) 0 false o
            rw [g1, bind_some]
            simp only [Bool.not_false, Bool.not_true, cond_false]
            rw [catS_some (by omega), bind_some]
            exact .inr ⟨_, rfl, ⟨j, (j : Int), o ++ out, rfl, g4, by rw [List.length_append]; omega, hN.trans g2⟩, by simp only; omega, fun _ h => h⟩
          | false =>
            rw [impl_none hs (by omega) he, bind_some]
            exact .inl ⟨_, rfl, o, k, hN, nstep_none hc hn he, .inr ⟨(k : Int), rfl, by rw [nx_some hc]; exact h92⟩⟩
        · rw [if_neg (by omega)]
          have he : ef s k = false := by
            unfold ef
            rw [nx_some hc]
            simp [h92]
          exact .inl ⟨_, rfl, o, k, hN, nstep_none hc hn he, .inl ⟨pi, rfl, by rw [nx_some hc]; exact h92⟩⟩
    · have : nx s k = 0 := by rw [nx, List.getElem?_eq_none (by omega)]
      exact .inl ⟨_, rfl, o, k, hN, nstep_end (by omega), .inl ⟨pi, rfl, by rw [this]; decide⟩⟩) ((s, (0 : Int), 0, false), [], (0 : Int)) ⟨0, 0, [], rfl, Nat.zero_le _, Nat.le_refl _, .refl⟩
  obtain ⟨out, k, h1, h2, h3⟩ := q
  refine ⟨out, k, h1, h2, ?_⟩
  simp only [m_impl_ReadName, m_cascadia_ReadName, m_cascadia_parser_parseName, m_errors_New, h, bind_some, cond_dec]
  rcases h3 with ⟨pi, rfl, h4⟩ | ⟨pi, rfl, h4⟩
  · rw [selim_l]
    simp only
    by_cases ho : out = []
    · subst ho
      rfl
    · rw [if_neg (by intro e; exact ho (by rw [e])), if_neg (by intro e; rcases e with e | e; exact ho e; exact h4 e), bind_some, bind_some]
      rfl
  · rw [selim_r, if_pos (.inr h4)]
    rfl
end
theorem fn_readName (s : List UInt8) : m_laws_FnReadName s = some true := by
  simp only [m_laws_FnReadName, cond_dec, not_cond]
  split
  · rfl
  · split
    · rfl
    · rename_i h1 h2
      have hs : s.length ≤ 1000 := by omega
      obtain ⟨o1, k1, u, r1, r2⟩ := rest_eq hs
      obtain ⟨b, hb⟩ := readable_ex hs
      simp only [m_spec_ReadName, r1, bind_some, cond_dec, next_eq hs, hb, not_cond]
      cases u with
      | true =>
        simp only [if_true]
        split <;> rfl
      | false =>
        simp only [Bool.false_eq_true, if_false]
        obtain ⟨g1, g2⟩ := r2 rfl
        obtain ⟨o2, k2, g3, g4, g5⟩ := name_eq hs
        obtain ⟨rfl, rfl⟩ := g1.det g2 g3 g4
        have hg := g1.grow
        cases b with
        | false => split <;> rfl
        | true =>
          rw [g5]
          by_cases h0 : 0 < k1
          · have ho : o1 ≠ [] := fun e => by
              have := hg.2.2 g2 h0
              rw [e] at this
              simp at this
            rw [if_pos (by omega)]
            simp only [bind_some, if_true]
            by_cases h92 : nx s k1 = 92
            · rw [if_pos (.inr h92)]
              have e : decide ((nx s k1 : Int) ≠ 92) = false := decide_eq_false (by omega)
              rw [e]
              rfl
            · rw [if_neg (by intro e; rcases e with e | e; exact ho e; exact h92 e)]
              have e : decide ((nx s k1 : Int) ≠ 92) = true := decide_eq_true (by omega)
              rw [e]
              simp
          · have : k1 = 0 := by omega
            subst this
            have ho : o1 = [] := by
              cases g1 with
              | refl => rfl
              | step h t =>
                rename_i j p
                have h3 := t.grow.2.1
                have : Rdg (nstep s) 0 [] j ([] ++ p) := .one h
                have h5 : 0 < j := by
                  cases hc : s[0]? with
                  | none => rw [nstep, hc] at h; cases h
                  | some c =>
                    rw [h] at g2
                    cases g2
                omega
            subst ho
            rw [if_neg (by omega), if_pos (.inl rfl)]
            rfl
end Go.Proofs.YtlgabeiaheoniaaDoor.V
