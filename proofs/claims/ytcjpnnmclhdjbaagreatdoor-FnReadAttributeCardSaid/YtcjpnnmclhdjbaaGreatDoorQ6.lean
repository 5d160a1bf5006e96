/-
  Plain facts and an evaluator for what a law needs.
-/
import Derived.Test.YtcjpnnmclhdjbaaGreatDoorQ5
set_option linter.unusedVariables false
set_option linter.unusedSimpArgs false
namespace Go.Proofs.YtcjpnnmclhdjbaaGreatDoor.V
open Go
def begN (n : Nat) : Bool := (97 ≤ n && n ≤ 122) || (65 ≤ n && n ≤ 90) || n == 95 || 128 ≤ n
theorem nameStart_all : ∀ n : Fin 256, m_cascadia_nameStart (n.val : Int) = some (begN n.val) := by decide +kernel
theorem beginByte_all : ∀ n : Fin 256, m_spec_beginByte (n.val : Int) = some (begN n.val) := by decide +kernel
theorem beg_name : ∀ n : Fin 256, begN n.val = true → nameN n.val = true := by decide +kernel
theorem nameStart_eq (c : UInt8) : m_cascadia_nameStart (c.toNat : Int) = some (begN c.toNat) := nameStart_all (fin c)
theorem beginByte_eq (c : UInt8) : m_spec_beginByte (c.toNat : Int) = some (begN c.toNat) := beginByte_all (fin c)
section
variable {f : Nat → Option (Nat × List UInt8)}
theorem Rdg.app {i k : Nat} {o q : List UInt8} (h : Rdg f i o k q) : ∀ o', Rdg f i (o' ++ o) k (o' ++ q) := by
  induction h with
  | refl => exact fun o' => .refl
  | step h t ih =>
    intro o'
    refine .step h ?_
    have := ih o'
    rwa [← List.append_assoc] at this
theorem Rdg.stuck {i k : Nat} {o q : List UInt8} (h : Rdg f i o k q) (hf : f i = none) : k = i ∧ q = o := by
  cases h with
  | refl => exact ⟨rfl, rfl⟩
  | step h t => rw [hf] at h; cases h
end
section
variable {s : List UInt8}
theorem ef_end {i : Nat} (h : s.length ≤ i + 1) : ef s i = false := by
  cases he : ef s i with
  | false => rfl
  | true => have := ef_lt he; omega
def idAt (s : List UInt8) (a : Nat) : Nat := if nx s a = 45 then a + 1 else a
def idS (s : List UInt8) (a : Nat) : Bool := begN (nx s (idAt s a)) || ef s (idAt s a)
def dbl (s : List UInt8) (a : Nat) : Bool := decide (nx s a = 45 ∧ nx s (a + 1) = 45)
theorem begN_zero : begN 0 = false := by decide
theorem follow_at (hs : s.length ≤ 1000) {i : Nat} (hi : i ≤ s.length) {d : UInt8} (hd : s[i]? = some d) (st : Int) (b u p : Bool) {R : Type} (K : Bool → Option R) :
    (Option.bind (m_spec_beginByte (d.toNat : Int)) fun r => cond r (K true) (Option.bind (m_spec_reader_escapeFollows ((s, st, b, u, p), (i : Int))) fun r => K r)) = K (begN (nx s i) || ef s i) := by
  rw [beginByte_eq, bind_some, nx_some hd]
  cases begN d.toNat with
  | true => rfl
  | false => rw [ef_eq hs i _ hi, bind_some]; rfl
theorem follow_end (hs : s.length ≤ 1000) {i : Nat} (hi : i ≤ s.length) (hd : ¬ i < s.length) (st : Int) (b u p : Bool) {R : Type} (K : Bool → Option R) :
    (Option.bind (m_spec_reader_escapeFollows ((s, st, b, u, p), (i : Int))) fun r => K r) = K (begN (nx s i) || ef s i) := by
  rw [ef_eq hs i _ hi, bind_some, nx_end (s := s) (i := i) (by omega), begN_zero]
  rfl
theorem nameFollows_eq (hs : s.length ≤ 1000) {a : Nat} (ha : a ≤ s.length) (b u p : Bool) : m_spec_reader_nameFollows (s, (a : Int), b, u, p) = some (idS s a, s, (a : Int), b, u || dbl s a, p) := by
  have e1 : IntKind.wrap .i64 ((a : Int) + 1) = ((a + 1 : Nat) : Int) := by rw [w64 (by omega) (by omega)]; rfl
  simp only [m_spec_reader_nameFollows, cond_dec, e1]
  by_cases h : a < s.length
  · have hA : (a : Int) < (s.length : Int) := by omega
    obtain ⟨c, hc, g1⟩ := nx_get h
    simp only [if_pos hA, atI_nat, hc, bind_some]
    by_cases h1 : c.toNat = 45
    · have h1' : (c.toNat : Int) = 45 := by omega
      have hid : idAt s a = a + 1 := by rw [idAt, if_pos (by omega)]
      simp only [if_pos h1']
      by_cases h2 : a + 1 < s.length
      · have hB : ((a + 1 : Nat) : Int) < (s.length : Int) := by omega
        obtain ⟨d, hd, g2⟩ := nx_get h2
        simp only [if_pos hB, hd, bind_some]
        by_cases h3 : d.toNat = 45
        · have h3' : (d.toNat : Int) = 45 := by omega
          have hdb : dbl s a = true := by rw [dbl]; simp; omega
          simp only [if_pos h3']
          rw [idS, hid, hdb, Bool.or_true]
          exact follow_at hs (Nat.le_of_lt h2) hd (a : Int) b true p (fun r => some (r, s, (a : Int), b, true, p))
        · have h3' : ¬ (d.toNat : Int) = 45 := by omega
          have hdb : dbl s a = false := by rw [dbl]; simp; omega
          simp only [if_neg h3']
          rw [idS, hid, hdb, Bool.or_false]
          exact follow_at hs (Nat.le_of_lt h2) hd (a : Int) b u p (fun r => some (r, s, (a : Int), b, u, p))
      · have hB : ¬ ((a + 1 : Nat) : Int) < (s.length : Int) := by omega
        have hdb : dbl s a = false := by
          have := nx_end (s := s) (i := a + 1) (by omega)
          rw [dbl]; simp; omega
        simp only [if_neg hB]
        rw [idS, hid, hdb, Bool.or_false]
        exact follow_end hs (i := a + 1) (by omega) h2 (a : Int) b u p (fun r => some (r, s, (a : Int), b, u, p))
    · have h1' : ¬ (c.toNat : Int) = 45 := by omega
      have hid : idAt s a = a := by rw [idAt, if_neg (by omega)]
      have hdb : dbl s a = false := by rw [dbl]; simp; omega
      simp only [if_neg h1']
      rw [idS, hid, hdb, Bool.or_false]
      exact follow_at hs ha hc (a : Int) b u p (fun r => some (r, s, (a : Int), b, u, p))
  · have hA : ¬ (a : Int) < (s.length : Int) := by omega
    have hz := nx_end (s := s) (i := a) (by omega)
    have hid : idAt s a = a := by rw [idAt, if_neg (by omega)]
    have hdb : dbl s a = false := by rw [dbl]; simp; omega
    simp only [if_neg hA]
    rw [idS, hid, hdb, Bool.or_false]
    exact follow_end hs ha h (a : Int) b u p (fun r => some (r, s, (a : Int), b, u, p))
theorem rest_bad (a : Nat) (u p : Bool) : m_spec_reader_rest (s, (a : Int), true, u, p) = some ([], s, (a : Int), true, u, p) := by
  simp only [m_spec_reader_rest]
  have h : ∃ y, loopO m_spec_reader_rest_0 ((s, (a : Int), true, u, p), []) = some y ∧ (y = .inl ((s, (a : Int), true, u, p), []) ∨ y = .inr ((s, (a : Int), true, u, p), [])) := by
    by_cases h : (a : Int) < (s.length : Int)
    · refine ⟨_, loopO_out ?_, .inl rfl⟩
      simp only [m_spec_reader_rest_0, cond_dec]
      rw [if_pos h]
      rfl
    · refine ⟨_, loopO_out ?_, .inl rfl⟩
      simp only [m_spec_reader_rest_0, cond_dec]
      rw [if_neg h]
  obtain ⟨y, h, rfl | rfl⟩ := h
  · rw [h, bind_some, selim_l]
  · rw [h, bind_some, selim_r]
theorem name_bad (hs : s.length ≤ 1000) {a : Nat} (ha : a ≤ s.length) (u0 p : Bool) : ∃ u, m_spec_reader_name (s, (a : Int), true, u0, p) = some ([], s, (a : Int), true, u, p) ∧ (u = false → u0 = false) := by
  simp only [m_spec_reader_name]
  rw [nameFollows_eq hs ha, bind_some]
  refine ⟨u0 || dbl s a, ?_, fun h => by simp at h; exact h.1⟩
  cases idS s a with
  | true =>
    simp only [Bool.not_true, cond_false]
    rw [rest_bad, bind_some]
  | false => rfl
theorem name_eq (hs : s.length ≤ 1000) {a : Nat} (ha : a ≤ s.length) (u0 p : Bool) : ∃ (out : List UInt8) (k : Nat) (b u : Bool), m_spec_reader_name (s, (a : Int), false, u0, p) = some (out, s, (k : Int), b, u, p) ∧ k ≤ s.length ∧ out.length ≤ 4 * k ∧
    (u = false → u0 = false ∧ dbl s a = false ∧ ((b = true ∧ k = a ∧ idS s a = false) ∨ (b = false ∧ idS s a = true ∧ Rdg (nstep s) a [] k out ∧ nstep s k = none))) := by
  simp only [m_spec_reader_name]
  rw [nameFollows_eq hs ha, bind_some]
  cases hid : idS s a with
  | true =>
    rw [Bool.not_true, cond_false]
    obtain ⟨out, k, u, h1, h2, h3, h4⟩ := rest_at hs ha (u0 || dbl s a) p
    rw [h1, bind_some]
    refine ⟨out, k, false, u, rfl, h2, h3, fun h => ?_⟩
    obtain ⟨g1, g2, g3⟩ := h4 h
    simp at g1
    exact ⟨g1.1, g1.2, .inr ⟨rfl, rfl, g2, g3⟩⟩
  | false =>
    refine ⟨[], a, true, _, rfl, ha, Nat.zero_le _, fun h => ?_⟩
    simp at h
    exact ⟨h.1, h.2, .inl ⟨rfl, rfl, rfl⟩⟩
theorem hyphens_eq (hs : s.length ≤ 1000) {a : Nat} (ha : a ≤ s.length) (dp : Int) (ac : Bool) : ∃ n : Nat, loopO m_cascadia_parser_parseIdentifier_0 ((s, (a : Int), dp, ac), 0) = some ((s, ((a + n : Nat) : Int), dp, ac), (n : Int)) ∧ a + n ≤ s.length ∧ (∀ j, j < n → nx s (a + j) = 45) ∧ nx s (a + n) ≠ 45 := by
  obtain ⟨y, h, n, rfl, h1, h2, h3⟩ := loopO_rule (body := m_cascadia_parser_parseIdentifier_0) (fun x => ∃ n : Nat, x = ((s, ((a + n : Nat) : Int), dp, ac), (n : Int)) ∧ a + n ≤ s.length ∧ ∀ j, j < n → nx s (a + j) = 45)
    (fun _ y => ∃ n : Nat, y = ((s, ((a + n : Nat) : Int), dp, ac), (n : Int)) ∧ a + n ≤ s.length ∧ (∀ j, j < n → nx s (a + j) = 45) ∧ nx s (a + n) ≠ 45) (fun x => ((s.length : Int) - x.1.2.1).toNat) (fun x hx => by
    obtain ⟨n, rfl, h1, h2⟩ := hx
    have e1 : IntKind.wrap .i64 (((a + n : Nat) : Int) + 1) = ((a + (n + 1) : Nat) : Int) := by rw [w64 (by omega) (by omega)]; rfl
    have e2 : IntKind.wrap .i64 ((n : Int) + 1) = ((n + 1 : Nat) : Int) := by rw [w64 (by omega) (by omega)]; rfl
    simp only [m_cascadia_parser_parseIdentifier_0, cond_dec, e1, e2]
    by_cases h : a + n < s.length
    · rw [if_pos (by omega)]
      obtain ⟨c, hc, g1⟩ := nx_get h
      rw [atI_nat, hc, bind_some]
      by_cases h45 : c.toNat = 45
      · rw [if_pos (by omega)]
        refine .inr ⟨_, rfl, ⟨n + 1, rfl, by omega, fun j hj => ?_⟩, by simp only; omega, fun _ h => h⟩
        by_cases hjn : j < n
        · exact h2 j hjn
        · have : j = n := by omega
          subst this
          omega
      · rw [if_neg (by omega)]
        exact .inl ⟨_, rfl, n, rfl, h1, h2, by omega⟩
    · rw [if_neg (by omega)]
      exact .inl ⟨_, rfl, n, rfl, h1, h2, by rw [nx_end (s := s) (i := a + n) (by omega)]; decide⟩) ((s, (a : Int), dp, ac), 0) ⟨0, rfl, ha, fun j hj => by omega⟩
  exact ⟨n, h, h1, h2, h3⟩
theorem repeat_len (n : Nat) : (Lib.repeatL [(45 : UInt8)] n).length = n := by rw [Lib.repeatL_length]; simp
theorem hyphened {n k : Nat} {pi dp : Int} {ac : Bool} {out : List UInt8} (hn : n ≤ 1000) (hk : k ≤ 1000) (hl : out.length ≤ 4 * k) (r : List UInt8 × Bool × List UInt8 × Int × Int × Bool)
    (hr : r = if out = [] ∨ nx s k = 92 then ([], true, s, pi, dp, ac) else (out, false, s, (k : Int), dp, ac)) :
    (if 0 < (n : Int) then cond (!r.2.1) (Option.bind (m_strings_Repeat ([45], (n : Int))) fun r_1 => Option.bind (catS r_1 r.1) fun r_2 => some (r_2, r.2.1, r.2.2.1, r.2.2.2.1, r.2.2.2.2.1, r.2.2.2.2.2)) (some (r.1, r.2.1, r.2.2.1, r.2.2.2.1, r.2.2.2.2.1, r.2.2.2.2.2)) else some (r.1, r.2.1, r.2.2.1, r.2.2.2.1, r.2.2.2.2.1, r.2.2.2.2.2)) =
    some (if out = [] ∨ nx s k = 92 then ([], true, s, pi, dp, ac) else (Lib.repeatL [45] n ++ out, false, s, (k : Int), dp, ac)) := by
  by_cases hc : out = [] ∨ nx s k = 92
  · rw [if_pos hc] at hr ⊢
    subst hr
    simp
  · rw [if_neg hc] at hr ⊢
    subst hr
    by_cases h0 : 0 < n
    · rw [if_pos (by omega)]
      have hrep : m_strings_Repeat ([45], (n : Int)) = some (Lib.repeatL [45] n) := by
        simp only [m_strings_Repeat, cond_dec]
        rw [if_pos ⟨by omega, by omega, by simp⟩, Int.toNat_natCast]
      simp only [Bool.not_false, cond_true]
      rw [hrep, bind_some, catS_some (by rw [repeat_len]; omega), bind_some]
    · have : n = 0 := by omega
      subst this
      rw [if_neg (by omega)]
      rfl
theorem ident_eq (hs : s.length ≤ 1000) {a : Nat} (ha : a ≤ s.length) (dp : Int) (ac : Bool) : ∃ (o : List UInt8) (e : Bool) (k : Int), m_cascadia_parser_parseIdentifier (s, (a : Int), dp, ac) = some (o, e, s, k, dp, ac) ∧ (e = false → o.length ≤ 5000 ∧ ∃ m : Nat, k = (m : Int) ∧ a < m ∧ m ≤ s.length) ∧
    (dbl s a = false → (idS s a = false ∧ e = true) ∨ (idS s a = true ∧ ∃ (m : Nat) (out : List UInt8), Rdg (nstep s) a [] m out ∧ nstep s m = none ∧ ((nx s m = 92 ∧ e = true) ∨ (nx s m ≠ 92 ∧ e = false ∧ o = out ∧ k = (m : Int))))) := by
  obtain ⟨n, hl, h1, h2, h3⟩ := hyphens_eq hs ha dp ac
  simp only [m_cascadia_parser_parseIdentifier, m_errors_New]
  rw [hl, bind_some]
  simp only [cond_dec, bind_some]
  have hn : dbl s a = false → idAt s a = a + n ∧ n ≤ 1 ∧ (n = 1 → nx s a = 45) := fun hd => by
    by_cases c1 : nx s a = 45
    · have : nx s (a + 1) ≠ 45 := fun h => by rw [dbl] at hd; simp [c1, h] at hd
      have : n = 1 := by
        match n, h2, h3 with
        | 0, _, h3 => exact absurd c1 h3
        | 1, _, _ => rfl
        | n + 2, h2, _ => exact absurd (h2 1 (by omega)) this
      exact ⟨by rw [idAt, if_pos c1, this], by omega, fun _ => c1⟩
    · have : n = 0 := by
        match n, h2 with
        | 0, _ => rfl
        | n + 1, h2 => exact absurd (h2 0 (by omega)) c1
      exact ⟨by rw [idAt, if_neg c1, this]; rfl, by omega, fun h => by omega⟩
  by_cases hend : s.length ≤ a + n
  · rw [if_pos (by omega)]
    refine ⟨_, _, _, rfl, fun h => (by cases h), fun hd => .inl ⟨?_, rfl⟩⟩
    rw [idS, (hn hd).1, nx_end hend, begN_zero, ef_end (by omega)]
    rfl
  rw [if_neg (by omega)]
  obtain ⟨c, hc, g1⟩ := nx_get (s := s) (i := a + n) (by omega)
  rw [atI_nat, hc, bind_some, nameStart_eq, bind_some]
  obtain ⟨out, k, pi, p1, p2, p3, p4, p5⟩ := pname_at hs (a := a + n) (by omega) dp ac
  have fin : (begN c.toNat = true ∨ c.toNat = 92) → ∃ (o : List UInt8) (e : Bool) (k' : Int), (some (if out = [] ∨ nx s k = 92 then ([], true, s, pi, dp, ac) else (Lib.repeatL [45] n ++ out, false, s, (k : Int), dp, ac)) : Option (List UInt8 × Bool × List UInt8 × Int × Int × Bool)) = some (o, e, s, k', dp, ac) ∧ (e = false → o.length ≤ 5000 ∧ ∃ m : Nat, k' = (m : Int) ∧ a < m ∧ m ≤ s.length) ∧
    (dbl s a = false → (idS s a = false ∧ e = true) ∨ (idS s a = true ∧ ∃ (m : Nat) (out : List UInt8), Rdg (nstep s) a [] m out ∧ nstep s m = none ∧ ((nx s m = 92 ∧ e = true) ∨ (nx s m ≠ 92 ∧ e = false ∧ o = out ∧ k' = (m : Int))))) := by
    intro hbn
    have whole : dbl s a = false → Rdg (nstep s) a [] k (Lib.repeatL [45] n ++ out) := fun hd => by
      obtain ⟨q1, q2, q3⟩ := hn hd
      match n, q2, q3, p1 with
      | 0, _, _, p1 => exact p1
      | 1, _, q3, p1 =>
        obtain ⟨x, hx, e1⟩ := nx_get (s := s) (i := a) (nx_ne (by rw [q3 rfl]; decide))
        have hx45 : x.toNat = 45 := by rw [← e1]; exact q3 rfl
        have hxx : x = 45 := UInt8.toNat_inj.1 hx45
        refine .step (nstep_name hx (by rw [hx45]; decide)) ?_
        have := p1.app [x]
        rw [List.append_nil] at this
        rw [hxx] at this ⊢
        exact this
    by_cases ho : out = []
    · rw [if_pos (.inl ho)]
      refine ⟨_, _, _, rfl, fun h => (by cases h), fun hd => .inl ⟨?_, rfl⟩⟩
      have hka : k = a + n := by
        subst ho
        obtain ⟨w1, w2, w3⟩ := p1.grow
        apply Decidable.byContradiction
        intro hne
        have := w3 p2 (by omega)
        simp at this
      have hst : nstep s (a + n) = none := by rw [← hka]; exact p2
      rw [idS, (hn hd).1, g1]
      cases hb : begN c.toNat with
      | true =>
        rw [nstep_name hc (beg_name (Go.Proofs.YtcjpnnmclhdjbaaGreatDoor.V.fin c) hb)] at hst
        cases hst
      | false =>
        cases he : ef s (a + n) with
        | false => rfl
        | true =>
          have : Rdg (nstep s) (a + n) [] (a + n) [] := .refl
          cases hnm : nameN c.toNat with
          | true => rw [nstep_name hc hnm] at hst; cases hst
          | false =>
            rw [nstep_esc hc hnm] at hst
            obtain ⟨c', d, q0, q1, hd', q2, q3, q4⟩ := ef_true he
            cases hh : hexN d.toNat with
            | true => rw [estep_hex he hd' hh] at hst; cases hst
            | false =>
              by_cases hhi : 128 ≤ d.toNat
              · rw [estep_high he hd' hh hhi] at hst; cases hst
              · rw [estep_low he hd' hh hhi] at hst; cases hst
    · have hne : nstep s (a + n) ≠ none := fun h => ho (p1.stuck h).2
      have hgt : a < k := by
        have hg := p1.grow.2.1
        apply Decidable.byContradiction
        intro hn
        have : k = a + n := by omega
        rw [this] at p2
        exact hne p2
      have hid : dbl s a = false → idS s a = true := fun hd => by
        rw [idS, (hn hd).1, g1]
        cases hb : begN c.toNat with
        | true => rfl
        | false =>
          cases he : ef s (a + n) with
          | true => rfl
          | false =>
            have h92 : c.toNat = 92 := by
              rcases hbn with h | h
              · rw [hb] at h; cases h
              · exact h
            exact absurd (nstep_none hc (by rw [h92]; decide) he) hne
      by_cases h92 : nx s k = 92
      · rw [if_pos (.inr h92)]
        exact ⟨_, _, _, rfl, fun h => (by cases h), fun hd => .inr ⟨hid hd, k, _, whole hd, p2, .inl ⟨h92, rfl⟩⟩⟩
      · rw [if_neg (fun h => h.elim ho h92)]
        refine ⟨_, _, _, rfl, fun _ => ⟨by rw [List.length_append, repeat_len]; omega, k, rfl, hgt, p3⟩, fun hd => .inr ⟨hid hd, k, _, whole hd, p2, .inr ⟨h92, rfl, rfl, rfl⟩⟩⟩
  cases hb : begN c.toNat with
  | true =>
    obtain ⟨o, e, k', q1, q2⟩ := fin (.inl hb)
    have hh := hyphened (s := s) (n := n) (k := k) (pi := pi) (dp := dp) (ac := ac) (by omega) (by omega) p4 _ rfl
    simp only [cond_true]
    rw [p5, bind_some]
    exact ⟨o, e, k', hh.trans q1, q2⟩
  | false =>
    simp only [cond_false]
    by_cases h92 : c.toNat = 92
    · obtain ⟨o, e, k', q1, q2⟩ := fin (.inr h92)
      have hh := hyphened (s := s) (n := n) (k := k) (pi := pi) (dp := dp) (ac := ac) (by omega) (by omega) p4 _ rfl
      rw [decide_eq_true (show (c.toNat : Int) = 92 by omega), Bool.not_true, cond_false, p5, bind_some]
      exact ⟨o, e, k', hh.trans q1, q2⟩
    · rw [decide_eq_false (show ¬ (c.toNat : Int) = 92 by omega), Bool.not_false, cond_true]
      refine ⟨_, _, _, rfl, fun h => (by cases h), fun hd => .inl ⟨?_, rfl⟩⟩
      have he : ef s (a + n) = false := by
        unfold ef
        rw [g1]
        simp [h92]
      rw [idS, (hn hd).1, g1, hb, he]
      rfl
end
end Go.Proofs.YtcjpnnmclhdjbaaGreatDoor.V
set_option linter.unusedVariables false
set_option linter.unusedSimpArgs false
namespace Go.Proofs.YtcjpnnmclhdjbaaGreatDoor.V
open Go
abbrev PT := List UInt8 × Int × Int × Bool
abbrev AR := (List UInt8 × List UInt8 × List UInt8 × Bool) × Bool × List UInt8 × Int × Int × Bool
def bad (r : PT) : Option AR := some (([], [], [], false), true, r.1, r.2.1, r.2.2.1, r.2.2.2)
noncomputable def eEnd (F : Bool → PT → Option AR) (fl : Bool) (r : Bool × PT) : Option AR :=
  cond (decide ((r.2.1.length : Int) ≤ r.2.2.1)) (bad r.2) (Option.bind (atI r.2.1 r.2.2.1) fun c => cond (decide ((c.toNat : Int) ≠ 93)) (bad r.2) (F fl r.2))
noncomputable def eFlag (F : Bool → PT → Option AR) (r : Bool × PT) : Option AR :=
  cond (decide ((r.2.1.length : Int) ≤ r.2.2.1)) (bad r.2) (Option.bind (atI r.2.1 r.2.2.1) fun c =>
    cond (decide ((c.toNat : Int) = 105)) (Option.bind (m_cascadia_parser_skipWhitespace (r.2.1, IntKind.wrap .i64 (r.2.2.1 + 1), r.2.2.2.1, r.2.2.2.2)) fun r => eEnd F true r)
    (Option.bind (atI r.2.1 r.2.2.1) fun c => cond (decide ((c.toNat : Int) = 73)) (Option.bind (m_cascadia_parser_skipWhitespace (r.2.1, IntKind.wrap .i64 (r.2.2.1 + 1), r.2.2.2.1, r.2.2.2.2)) fun r => eEnd F true r)
    (Option.bind (m_cascadia_parser_skipWhitespace (r.2.1, r.2.2.1, r.2.2.2.1, r.2.2.2.2)) fun r => eEnd F false r)))
noncomputable def eMid (F : List UInt8 → Bool → PT → Option AR) (r : List UInt8 × Bool × PT) : Option AR :=
  cond (!!r.2.1) (some (([], [], [], false), r.2.1, r.2.2.1, r.2.2.2.1, r.2.2.2.2.1, r.2.2.2.2.2)) (Option.bind (m_cascadia_parser_skipWhitespace (r.2.2.1, r.2.2.2.1, r.2.2.2.2.1, r.2.2.2.2.2)) fun r2 => eFlag (F r.1) r2)
noncomputable def eVal (F : List UInt8 → Bool → PT → Option AR) (r : Bool × PT) : Option AR :=
  cond (decide ((r.2.1.length : Int) ≤ r.2.2.1)) (bad r.2) (Option.bind (atI r.2.1 r.2.2.1) fun c =>
    cond (decide ((c.toNat : Int) = 39)) (Option.bind (m_cascadia_parser_parseString (r.2.1, r.2.2.1, r.2.2.2.1, r.2.2.2.2)) fun r => eMid F r)
    (cond (decide ((c.toNat : Int) = 34)) (Option.bind (m_cascadia_parser_parseString (r.2.1, r.2.2.1, r.2.2.2.1, r.2.2.2.2)) fun r => eMid F r)
    (Option.bind (m_cascadia_parser_parseIdentifier (r.2.1, r.2.2.1, r.2.2.2.1, r.2.2.2.2)) fun r => eMid F r)))
def fine (key m v : List UInt8) (fl : Bool) (r : PT) : Option AR := some ((key, v, m, fl), false, r.1, IntKind.wrap .i64 (r.2.1 + 1), r.2.2.1, r.2.2.2)
noncomputable def sign (key m v : List UInt8) (fl : Bool) (r : PT) : Option AR :=
  cond (decide (m = [61])) (fine key m v fl r) (cond (decide (m = [33, 61])) (fine key m v fl r) (cond (decide (m = [126, 61])) (fine key m v fl r) (cond (decide (m = [124, 61])) (fine key m v fl r) (cond (decide (m = [94, 61])) (fine key m v fl r) (cond (decide (m = [36, 61])) (fine key m v fl r) (cond (decide (m = [42, 61])) (fine key m v fl r)
    (some (([], [], [], false), true, r.1, IntKind.wrap .i64 (r.2.1 + 1), r.2.2.1, r.2.2.2))))))))
noncomputable def eOp (key : List UInt8) (r : Bool × PT) : Option AR :=
  cond (decide ((r.2.1.length : Int) ≤ r.2.2.1)) (bad r.2) (Option.bind (atI r.2.1 r.2.2.1) fun c =>
    cond (decide ((c.toNat : Int) = 93)) (some ((key, [], [], false), false, r.2.1, IntKind.wrap .i64 (r.2.2.1 + 1), r.2.2.2.1, r.2.2.2.2))
    (cond (decide ((r.2.1.length : Int) ≤ IntKind.wrap .i64 (r.2.2.1 + 2))) (bad r.2) (Option.bind (subL r.2.1 r.2.2.1 (IntKind.wrap .i64 (r.2.2.1 + 2))) fun m => Option.bind (atI m 0) fun c =>
      cond (decide ((c.toNat : Int) = 61)) (Option.bind (m_cascadia_parser_skipWhitespace (r.2.1, IntKind.wrap .i64 (r.2.2.1 + 1), r.2.2.2.1, r.2.2.2.2)) fun r => eVal (fun v => fine key [61] v) r)
      (Option.bind (atI m 1) fun c => cond (decide ((c.toNat : Int) ≠ 61)) (bad r.2) (Option.bind (m_cascadia_parser_skipWhitespace (r.2.1, IntKind.wrap .i64 (r.2.2.1 + (m.length : Int)), r.2.2.2.1, r.2.2.2.2)) fun r => eVal (fun v => sign key m v) r)))))
theorem pas_eq (s : List UInt8) (a dp : Int) (ac : Bool) : m_cascadia_parser_parseAttributeSelector (s, a, dp, ac) =
    cond (decide ((s.length : Int) ≤ a)) (bad (s, a, dp, ac)) (Option.bind (atI s a) fun c => cond (decide ((c.toNat : Int) ≠ 91)) (bad (s, a, dp, ac)) (Option.bind (m_cascadia_parser_skipWhitespace (s, IntKind.wrap .i64 (a + 1), dp, ac)) fun r =>
      Option.bind (m_cascadia_parser_parseIdentifier (r.2.1, r.2.2.1, r.2.2.2.1, r.2.2.2.2)) fun r => cond (!!r.2.1) (some (([], [], [], false), r.2.1, r.2.2.1, r.2.2.2.1, r.2.2.2.2.1, r.2.2.2.2.2)) (Option.bind (m_cascadia_toLowerASCII r.1) fun key =>
        Option.bind (m_cascadia_parser_skipWhitespace (r.2.2.1, r.2.2.2.1, r.2.2.2.2.1, r.2.2.2.2.2)) fun r => eOp key r))) := by kernel_rfl
abbrev ST := List UInt8 × Int × Bool × Bool × Bool
abbrev SRes := List Sel × List UInt8 × Int × Bool × Bool × Bool
def sBad (t : ST) : Option SRes := some ([⟨1, 0, [], [], 0, 0, 0, 1⟩], t.1, t.2.1, true, t.2.2.2.1, t.2.2.2.2)
noncomputable def sTake (x : Sel) (t : ST) : Option SRes := Option.bind (m_spec_reader_taken ((t.1, t.2.1, t.2.2.1, t.2.2.2.1, t.2.2.2.2), [93])) fun r =>
  cond (!r.1) (sBad r.2) (Option.bind (m_spec_SelMade ({ kind := x.kind, op := x.op, key := x.key, val := x.val, a := x.a, b := x.b, flag := x.flag, size := x.size }, [])) fun l => some (l, r.2.1, r.2.2.1, r.2.2.2.1, r.2.2.2.2.1, r.2.2.2.2.2))
noncomputable def sFlag (x : Sel) (t : ST) : Option SRes := Option.bind (m_spec_reader_next (t.1, t.2.1, t.2.2.1, t.2.2.2.1, t.2.2.2.2)) fun c =>
  cond (!t.2.2.1)
    (cond (decide (c = 105)) (Option.bind (m_spec_reader_spaces (t.1, IntKind.wrap .i64 (t.2.1 + 1), t.2.2.1, t.2.2.2.1, t.2.2.2.2)) fun r => sTake ⟨x.kind, x.op, x.key, x.val, x.a, x.b, 1, x.size⟩ r.2)
    (cond (decide (c = 73)) (Option.bind (m_spec_reader_spaces (t.1, IntKind.wrap .i64 (t.2.1 + 1), t.2.2.1, t.2.2.2.1, t.2.2.2.2)) fun r => sTake ⟨x.kind, x.op, x.key, x.val, x.a, x.b, 1, x.size⟩ r.2)
    (cond (decide (c = 115)) (sTake x (t.1, t.2.1, t.2.2.1, true, t.2.2.2.2)) (cond (decide (c = 83)) (sTake x (t.1, t.2.1, t.2.2.1, true, t.2.2.2.2)) (sTake x t)))))
    (cond (decide (c = 115)) (sTake x (t.1, t.2.1, t.2.2.1, true, t.2.2.2.2)) (cond (decide (c = 83)) (sTake x (t.1, t.2.1, t.2.2.1, true, t.2.2.2.2)) (sTake x t)))
noncomputable def sVal (x : Sel) (t : ST) : Option SRes := Option.bind (m_spec_reader_spaces (t.1, t.2.1, t.2.2.1, t.2.2.2.1, t.2.2.2.2)) fun r =>
  Option.bind (m_spec_reader_value (r.2.1, r.2.2.1, r.2.2.2.1, r.2.2.2.2.1, r.2.2.2.2.2)) fun v =>
  Option.bind (m_spec_reader_spaces (v.2.1, v.2.2.1, v.2.2.2.1, v.2.2.2.2.1, v.2.2.2.2.2)) fun r => sFlag ⟨x.kind, x.op, x.key, v.1, x.a, x.b, x.flag, x.size⟩ r.2
noncomputable def sNone (t : ST) : Option SRes :=
  cond t.2.2.2.1 (sBad (t.1, t.2.1, t.2.2.1, true, t.2.2.2.2)) (Option.bind (m_spec_reader_next (t.1, t.2.1, t.2.2.1, t.2.2.2.1, t.2.2.2.2)) fun c => cond (decide (c = 124)) (sBad (t.1, t.2.1, t.2.2.1, true, t.2.2.2.2))
    (Option.bind (m_spec_reader_next (t.1, t.2.1, t.2.2.1, t.2.2.2.1, t.2.2.2.2)) fun c => sBad (t.1, t.2.1, t.2.2.1, decide (c = 35), t.2.2.2.2)))
def signs : List (List UInt8) := [[], [], [61], [33, 61], [126, 61], [124, 61], [94, 61], [36, 61], [42, 61]]
noncomputable def sOp (key : List UInt8) (r : Bool × ST) : Option SRes :=
  cond r.2.2.2.1 (sBad r.2) (Option.bind (m_spec_reader_taken ((r.2.1, r.2.2.1, r.2.2.2.1, r.2.2.2.2.1, r.2.2.2.2.2), [93])) fun r =>
    cond r.1 (Option.bind (m_spec_SelMade (⟨5, 1, key, [], 0, 0, 0, 0⟩, [])) fun l => some (l, r.2.1, r.2.2.1, r.2.2.2.1, r.2.2.2.2.1, r.2.2.2.2.2))
    (Option.bind (loopO m_spec_reader_attribute_0 ((r.2.1, r.2.2.1, r.2.2.2.1, r.2.2.2.2.1, r.2.2.2.2.2), ⟨5, 1, key, [], 0, 0, 0, 0⟩, signs, 2)) fun y => cond (decide (y.2.op = 1)) (sNone y.1) (sVal y.2 y.1)))
theorem att_eq (s : List UInt8) (a : Int) (b u p : Bool) : m_spec_reader_attribute (s, a, b, u, p) = Option.bind (m_spec_reader_spaces (s, a, b, u, p)) fun r =>
    Option.bind (m_spec_reader_name (r.2.1, r.2.2.1, r.2.2.2.1, r.2.2.2.2.1, r.2.2.2.2.2)) fun r => Option.bind (m_spec_Lower r.1) fun key => Option.bind (m_spec_reader_spaces (r.2.1, r.2.2.1, r.2.2.2.1, r.2.2.2.2.1, r.2.2.2.2.2)) fun r => sOp key r := by kernel_rfl
end Go.Proofs.YtcjpnnmclhdjbaaGreatDoor.V
set_option linter.unusedVariables false
set_option linter.unusedSimpArgs false
namespace Go.Proofs.YtcjpnnmclhdjbaaGreatDoor.V
open Go
theorem selMade_eq (x : Sel) : m_spec_SelMade (x, []) = some [⟨x.kind, x.op, x.key, x.val, x.a, x.b, x.flag, 1⟩] := by
  have h : loopO m_spec_SelMade_0 ([], [⟨x.kind, x.op, x.key, x.val, x.a, x.b, x.flag, x.size⟩], 0) = some [⟨x.kind, x.op, x.key, x.val, x.a, x.b, x.flag, x.size⟩] := loopO_out rfl
  simp only [m_spec_SelMade]
  rw [h]
  rfl
section
variable {s : List UInt8}
theorem sTake_eq (hs : s.length ≤ 1000) {k : Nat} (hk : k ≤ 1001) (x : Sel) (b u p : Bool) : sTake x (s, (k : Int), b, u, p) = if nx s k = 93 then some ([⟨x.kind, x.op, x.key, x.val, x.a, x.b, x.flag, 1⟩], s, ((k + 1 : Nat) : Int), b, u, p) else some ([⟨1, 0, [], [], 0, 0, 0, 1⟩], s, (k : Int), true, u, p) := by
  simp only [sTake]
  rw [taken_one hs hk 93 (by decide), bind_some]
  by_cases h : nx s k = 93
  · have h' : nx s k = UInt8.toNat 93 := h
    rw [if_pos h', if_pos h]
    simp only [Bool.not_true, cond_false]
    rw [selMade_eq, bind_some]
  · have h' : ¬ nx s k = UInt8.toNat 93 := h
    rw [if_neg h', if_neg h]
    rfl
theorem eEnd_eq {k : Nat} (F : Bool → PT → Option AR) (fl r : Bool) (dp : Int) (ac : Bool) : eEnd F fl (r, s, (k : Int), dp, ac) = if nx s k = 93 then F fl (s, (k : Int), dp, ac) else bad (s, (k : Int), dp, ac) := by
  simp only [eEnd, cond_dec]
  by_cases h : k < s.length
  · obtain ⟨c, hc, g⟩ := nx_get h
    rw [if_neg (by omega), atI_nat, hc, bind_some]
    by_cases h9 : nx s k = 93
    · rw [if_neg (by omega), if_pos h9]
    · rw [if_pos (by omega), if_neg h9]
  · rw [if_pos (by omega), nx_end (s := s) (i := k) (by omega)]
    rfl
def Both (s : List UInt8) (k0 : Nat) (F : Bool → PT → Option AR) (x : Sel) (u p : Bool) (dp : Int) (ac : Bool) (spec : Option SRes) (impl : Option AR) (R : Option (Bool × Nat)) : Prop :=
  (R = none → ∃ n : Int, impl = bad (s, n, dp, ac)) ∧ (∀ fl (n : Nat), R = some (fl, n) → (k0 ≤ n ∧ n < s.length) ∧ impl = F fl (s, (n : Int), dp, ac)) ∧
  ∃ (l : List Sel) (k2 : Nat) (b2 u2 : Bool), spec = some (l, s, (k2 : Int), b2, u2, p) ∧ (u2 = false → u = false ∧ (R = none → b2 = true) ∧ ∀ fl (n : Nat), R = some (fl, n) → b2 = false ∧ k2 = n + 1 ∧ l = [⟨x.kind, x.op, x.key, x.val, x.a, x.b, if fl then 1 else x.flag, 1⟩])
theorem sTake_total (hs : s.length ≤ 1000) {k : Nat} (hk : k ≤ 1001) (x : Sel) (b p : Bool) : ∃ (l : List Sel) (k2 : Nat) (b2 : Bool), sTake x (s, (k : Int), b, true, p) = some (l, s, (k2 : Int), b2, true, p) := by
  rw [sTake_eq hs hk]
  split
  · exact ⟨_, _, _, rfl⟩
  · exact ⟨_, _, _, rfl⟩
theorem both_end (hs : s.length ≤ 1000) {k0 k : Nat} (hk0 : k0 ≤ k) (hk : k ≤ s.length) (F : Bool → PT → Option AR) (x : Sel) (fl r u p : Bool) (dp : Int) (ac : Bool) : ∃ R, Both s k0 F x u p dp ac (sTake ⟨x.kind, x.op, x.key, x.val, x.a, x.b, if fl then 1 else x.flag, x.size⟩ (s, (k : Int), false, u, p)) (eEnd F fl (r, s, (k : Int), dp, ac)) R ∧ (R = if nx s k = 93 then some (fl, k) else none) := by
  rw [sTake_eq hs (by omega), eEnd_eq]
  by_cases h : nx s k = 93
  · rw [if_pos h, if_pos h]
    refine ⟨_, ⟨fun h => (by cases h), fun fl' n h' => ?_, _, _, _, _, rfl, fun h0 => ⟨h0, fun h => (by cases h), fun fl' n h' => ?_⟩⟩, (if_pos h).symm⟩
    · cases h'
      exact ⟨⟨hk0, nx_ne (by omega)⟩, rfl⟩
    · cases h'
      exact ⟨rfl, rfl, rfl⟩
  · rw [if_neg h, if_neg h]
    refine ⟨_, ⟨fun _ => ⟨_, rfl⟩, fun fl' n h' => (by cases h'), _, _, _, _, rfl, fun h0 => ⟨h0, fun _ => rfl, fun fl' n h' => (by cases h')⟩⟩, (if_neg h).symm⟩
theorem impl_end {k0 k : Nat} (hk0 : k0 ≤ k) (F : Bool → PT → Option AR) (fl r : Bool) (dp : Int) (ac : Bool) : ∃ R : Option (Bool × Nat), (R = none → ∃ n : Int, eEnd F fl (r, s, (k : Int), dp, ac) = bad (s, n, dp, ac)) ∧ ∀ fl' (n : Nat), R = some (fl', n) → (k0 ≤ n ∧ n < s.length) ∧ eEnd F fl (r, s, (k : Int), dp, ac) = F fl' (s, (n : Int), dp, ac) := by
  rw [eEnd_eq]
  by_cases h : nx s k = 93
  · rw [if_pos h]
    refine ⟨some (fl, k), fun h => (by cases h), fun fl' n h' => ?_⟩
    cases h'
    exact ⟨⟨hk0, nx_ne (by omega)⟩, rfl⟩
  · rw [if_neg h]
    exact ⟨none, fun _ => ⟨_, rfl⟩, fun fl' n h' => (by cases h')⟩
theorem flag_both (hs : s.length ≤ 1000) {k : Nat} (hk : k ≤ s.length) (F : Bool → PT → Option AR) (x : Sel) (u p : Bool) (dp : Int) (ac : Bool) :
    ∃ R, Both s k F x u p dp ac (Option.bind (m_spec_reader_spaces (s, (k : Int), false, u, p)) fun r => sFlag x r.2) (Option.bind (m_cascadia_parser_skipWhitespace (s, (k : Int), dp, ac)) fun r => eFlag F r) R := by
  obtain ⟨r1, k1, i1, i2, i3, i4, i5⟩ := skip_eq hs hk dp ac
  obtain ⟨r2, k2, b, u1, j1, j2, j3, j4, j5, j6⟩ := spaces_eq hs (a := k) (by omega) false u p
  have e1 : IntKind.wrap .i64 ((k1 : Int) + 1) = ((k1 + 1 : Nat) : Int) := by rw [w64 (by omega) (by omega)]; rfl
  have e2 : IntKind.wrap .i64 ((k2 : Int) + 1) = ((k2 + 1 : Nat) : Int) := by rw [w64 (by omega) (by omega)]; rfl
  rw [i1, bind_some, j1, bind_some]
  have alone : ∀ (spec : Option SRes), (∃ (l : List Sel) (k2 : Nat) (b2 : Bool), spec = some (l, s, (k2 : Int), b2, true, p)) → ∃ R, Both s k F x u p dp ac spec (eFlag F (r1, s, (k1 : Int), dp, ac)) R := by
    rintro spec ⟨l, k3, b3, rfl⟩
    have : ∃ R : Option (Bool × Nat), (R = none → ∃ n : Int, eFlag F (r1, s, (k1 : Int), dp, ac) = bad (s, n, dp, ac)) ∧ ∀ fl' (n : Nat), R = some (fl', n) → (k ≤ n ∧ n < s.length) ∧ eFlag F (r1, s, (k1 : Int), dp, ac) = F fl' (s, (n : Int), dp, ac) := by
      simp only [eFlag, cond_dec, e1]
      by_cases h : k1 < s.length
      · obtain ⟨c, hc, g⟩ := nx_get h
        rw [if_neg (by omega), atI_nat, hc, bind_some, bind_some]
        by_cases h1 : c.toNat = 105
        · rw [if_pos (by omega)]
          obtain ⟨r3, k3, q1, q2, q3, q4, q5⟩ := skip_eq hs (a := k1 + 1) (by omega) dp ac
          rw [q1, bind_some]
          exact impl_end (by omega) F true r3 dp ac
        · rw [if_neg (by omega)]
          by_cases h2 : c.toNat = 73
          · rw [if_pos (by omega)]
            obtain ⟨r3, k3, q1, q2, q3, q4, q5⟩ := skip_eq hs (a := k1 + 1) (by omega) dp ac
            rw [q1, bind_some]
            exact impl_end (by omega) F true r3 dp ac
          · rw [if_neg (by omega)]
            obtain ⟨r3, k3, q1, q2, q3, q4, q5⟩ := skip_eq hs (a := k1) (by omega) dp ac
            rw [q1, bind_some]
            exact impl_end (by omega) F false r3 dp ac
      · rw [if_pos (by omega)]
        exact ⟨none, fun _ => ⟨_, rfl⟩, fun fl' n h' => (by cases h')⟩
    obtain ⟨R, h1, h2⟩ := this
    exact ⟨R, h1, h2, _, _, _, _, rfl, fun h => (by cases h)⟩
  have hk2 := j3 hk
  simp only [sFlag]
  rw [next_eq hs, bind_some]
  rcases j6 rfl with ⟨rfl, rfl, j7⟩ | ⟨rfl, rfl, j7, j8⟩
  · rw [j7.1]
    refine alone _ ?_
    exact sTake_total hs (by omega) x true p
  · have hkk := i2.det i3 j7 j8
    subst hkk
    simp only [cond_dec, Bool.not_false, cond_true, e1]
    have flag : nx s k1 = 105 ∨ nx s k1 = 73 → ∃ R, Both s k F x u1 p dp ac (Option.bind (m_spec_reader_spaces (s, ((k1 + 1 : Nat) : Int), false, u1, p)) fun r => sTake ⟨x.kind, x.op, x.key, x.val, x.a, x.b, 1, x.size⟩ r.2) (eFlag F (r1, s, (k1 : Int), dp, ac)) R := fun hf => by
      have hlt : k1 < s.length := nx_ne (by omega)
      obtain ⟨r3, k3, q1, q2, q3, q4, q5⟩ := skip_eq hs (a := k1 + 1) (by omega) dp ac
      obtain ⟨r4, k4, b4, u4, w1, w2, w3, w4, w5, w6⟩ := spaces_eq hs (a := k1 + 1) (by omega) false u1 p
      rw [w1, bind_some]
      rcases w6 rfl with ⟨rfl, rfl, w7⟩ | ⟨rfl, rfl, w7, w8⟩
      · exact alone _ (sTake_total hs (by omega) _ true p)
      · have hkk := q2.det q3 w7 w8
        subst hkk
        have he : eFlag F (r1, s, (k1 : Int), dp, ac) = eEnd F true (r3, s, (k3 : Int), dp, ac) := by
          obtain ⟨c, hc, g⟩ := nx_get hlt
          simp only [eFlag, cond_dec, e1]
          rw [if_neg (by omega), atI_nat, hc, bind_some, bind_some]
          by_cases h1 : c.toNat = 105
          · rw [if_pos (by omega), q1, bind_some]
          · rw [if_neg (by omega), if_pos (by omega), q1, bind_some]
        rw [he]
        obtain ⟨R, hR, _⟩ := both_end hs (k0 := k) (by omega) q5 F x true r3 u4 p dp ac
        exact ⟨R, hR⟩
    by_cases h1 : nx s k1 = 105
    · rw [if_pos (show ((nx s k1 : Nat) : Int) = 105 by omega)]
      exact flag (.inl h1)
    rw [if_neg (show ¬ ((nx s k1 : Nat) : Int) = 105 by omega)]
    by_cases h2 : nx s k1 = 73
    · rw [if_pos (show ((nx s k1 : Nat) : Int) = 73 by omega)]
      exact flag (.inr h2)
    rw [if_neg (show ¬ ((nx s k1 : Nat) : Int) = 73 by omega)]
    by_cases h3 : nx s k1 = 115
    · rw [if_pos (show ((nx s k1 : Nat) : Int) = 115 by omega)]
      exact alone _ (sTake_total hs (by omega) x false p)
    rw [if_neg (show ¬ ((nx s k1 : Nat) : Int) = 115 by omega)]
    by_cases h4 : nx s k1 = 83
    · rw [if_pos (show ((nx s k1 : Nat) : Int) = 83 by omega)]
      exact alone _ (sTake_total hs (by omega) x false p)
    rw [if_neg (show ¬ ((nx s k1 : Nat) : Int) = 83 by omega)]
    obtain ⟨r3, k3, q1, q2, q3, q4, q5⟩ := skip_eq hs (a := k1) (by omega) dp ac
    have hst := q2.stop i3
    subst hst
    by_cases hlt : k3 < s.length
    · have he : eFlag F (r1, s, (k3 : Int), dp, ac) = eEnd F false (r3, s, (k3 : Int), dp, ac) := by
        obtain ⟨c, hc, g⟩ := nx_get hlt
        simp only [eFlag, cond_dec]
        rw [if_neg (by omega), atI_nat, hc, bind_some, bind_some, if_neg (by omega), if_neg (by omega), q1, bind_some]
      rw [he]
      obtain ⟨R, hR, _⟩ := both_end hs (k0 := k) (by omega) i5 F x false r3 u1 p dp ac
      exact ⟨R, hR⟩
    · have hz := nx_end (s := s) (i := k3) (by omega)
      have he : eFlag F (r1, s, (k3 : Int), dp, ac) = bad (s, (k3 : Int), dp, ac) := by
        simp only [eFlag, cond_dec]
        rw [if_pos (by omega)]
      rw [he, sTake_eq hs (by omega), if_neg (by omega)]
      exact ⟨none, fun _ => ⟨_, rfl⟩, fun fl' n h' => (by cases h'), _, _, _, _, rfl, fun h0 => ⟨h0, fun _ => rfl, fun fl' n h' => (by cases h')⟩⟩
theorem Rdg.mono {f : Nat → Option (Nat × List UInt8)} {i k : Nat} {o q : List UInt8} (h : Rdg f i o k q) (hf : ∀ i j p, f i = some (j, p) → i < j) : i ≤ k := by
  induction h with
  | refl => exact Nat.le_refl _
  | step h t ih => have := hf _ _ _ h; omega
theorem estep_gt {i j : Nat} {p : List UInt8} (h : estep s i = some (j, p)) : i < j := by
  cases he : ef s i with
  | false => rw [estep_none he] at h; cases h
  | true =>
    obtain ⟨c, d, hc, q1, hd, q2, q3, q4⟩ := ef_true he
    have hi := (List.getElem?_eq_some_iff.1 hd).1
    cases hh : hexN d.toNat with
    | true =>
      rw [estep_hex he hd hh] at h
      cases h
      exact (sp_gt hi).1
    | false =>
      by_cases hhi : 128 ≤ d.toNat
      · rw [estep_high he hd hh hhi] at h; cases h; omega
      · rw [estep_low he hd hh hhi] at h; cases h; omega
theorem qstep_gt (q : Nat) : ∀ i j p, qstep s q i = some (j, p) → i < j := fun i j p h => by
  unfold qstep at h
  cases hc : s[i]? with
  | none => rw [hc] at h; cases h
  | some c =>
    rw [hc] at h
    simp only at h
    split at h
    · split at h
      · exact estep_gt h
      · split at h
        · split at h
          · cases h; omega
          · cases h; omega
        · cases h
    · split at h
      · cases h
      · cases h; omega
theorem name_gt {a k : Nat} {out : List UInt8} (h0 : idS s a = true) (h1 : Rdg (nstep s) a [] k out) (h2 : nstep s k = none) : a < k := by
  have hg := h1.grow.2.1
  apply Decidable.byContradiction
  intro hn
  have : k = a := by omega
  subst this
  rw [idS] at h0
  unfold idAt at h0
  split at h0
  · rename_i h45
    obtain ⟨c, hc, g⟩ := nx_get (s := s) (i := k) (nx_ne (by omega))
    rw [nstep_name hc (by rw [← g, h45]; decide)] at h2
    cases h2
  · by_cases hl : k < s.length
    · obtain ⟨c, hc, g⟩ := nx_get hl
      rw [g] at h0
      cases hb : begN c.toNat with
      | true => rw [nstep_name hc (beg_name (Go.Proofs.YtcjpnnmclhdjbaaGreatDoor.V.fin c) hb)] at h2; cases h2
      | false =>
        rw [hb] at h0
        have he : ef s k = true := h0
        cases hnm : nameN c.toNat with
        | true => rw [nstep_name hc hnm] at h2; cases h2
        | false =>
          rw [nstep_esc hc hnm] at h2
          obtain ⟨c', d, hc', q1, hd, q2, q3, q4⟩ := ef_true he
          cases hh : hexN d.toNat with
          | true => rw [estep_hex he hd hh] at h2; cases h2
          | false =>
            by_cases hhi : 128 ≤ d.toNat
            · rw [estep_high he hd hh hhi] at h2; cases h2
            · rw [estep_low he hd hh hhi] at h2; cases h2
    · rw [nx_end (by omega), begN_zero, ef_end (by omega)] at h0
      cases h0
noncomputable def pv (s : List UInt8) (a : Nat) (dp : Int) (ac : Bool) : Option (List UInt8 × Bool × PT) := if nx s a = 39 ∨ nx s a = 34 then m_cascadia_parser_parseString (s, (a : Int), dp, ac) else m_cascadia_parser_parseIdentifier (s, (a : Int), dp, ac)
theorem val_both (hs : s.length ≤ 1000) {a : Nat} (ha : a < s.length) (u0 p : Bool) (dp : Int) (ac : Bool) : ∃ (out : List UInt8) (k : Nat) (b u : Bool) (o : List UInt8) (e : Bool) (k' : Int), m_spec_reader_value (s, (a : Int), false, u0, p) = some (out, s, (k : Int), b, u, p) ∧ pv s a dp ac = some (o, e, s, k', dp, ac) ∧ k ≤ s.length + 1 ∧ (e = false → ∃ n : Nat, k' = (n : Int) ∧ a < n ∧ n ≤ s.length) ∧
    (u = false → u0 = false ∧ ((b = true ∧ e = true) ∨ (b = false ∧ k ≤ s.length ∧ nx s k = 92 ∧ e = true) ∨ (b = false ∧ k ≤ s.length ∧ e = false ∧ o = out ∧ k' = (k : Int) ∧ a < k))) := by
  simp only [m_spec_reader_value, cond_dec, pv]
  rw [next_eq hs, bind_some]
  have str : ∀ q : Nat, q = 34 ∨ q = 39 → nx s a = q → ∃ (out : List UInt8) (k : Nat) (b u : Bool) (o : List UInt8) (e : Bool) (k' : Int), m_spec_reader_quoted (s, (a : Int), false, u0, p) = some (out, s, (k : Int), b, u, p) ∧ m_cascadia_parser_parseString (s, (a : Int), dp, ac) = some (o, e, s, k', dp, ac) ∧ k ≤ s.length + 1 ∧ (e = false → ∃ n : Nat, k' = (n : Int) ∧ a < n ∧ n ≤ s.length) ∧
    (u = false → u0 = false ∧ ((b = true ∧ e = true) ∨ (b = false ∧ k ≤ s.length ∧ nx s k = 92 ∧ e = true) ∨ (b = false ∧ k ≤ s.length ∧ e = false ∧ o = out ∧ k' = (k : Int) ∧ a < k))) := fun q hq hn => by
    obtain ⟨out, b, u, k, h1, h2, h3⟩ := quoted_at hs hn hq u0 p
    obtain ⟨c0, hc0, g0⟩ := nx_get ha
    obtain ⟨j, out', p1, p2, e, o, k', p3, p4⟩ := pstring_at hs hc0 (g0.symm.trans hn) hq dp ac
    refine ⟨out, k, b, u, o, e, k', h1, p3, h2, fun he => ?_, fun hu => ?_⟩
    · rcases p4 with ⟨_, _, _, rfl, hj⟩ | ⟨_, rfl⟩
      · have := p1.mono (qstep_gt q)
        exact ⟨j + 1, rfl, by omega, hj⟩
      · cases he
    · obtain ⟨w0, j2, out2, w1, w2, w3⟩ := h3 hu
      obtain ⟨rfl, rfl⟩ := w1.det w2 p1 p2
      refine ⟨w0, ?_⟩
      rcases w3 with ⟨w3, rfl, rfl, rfl⟩ | ⟨w3, rfl⟩
      · rcases p4 with ⟨_, rfl, rfl, rfl, hj⟩ | ⟨w4, _⟩
        · have := w1.mono (qstep_gt q)
          exact .inr (.inr ⟨rfl, hj, rfl, rfl, rfl, by omega⟩)
        · exact absurd w3 w4
      · rcases p4 with ⟨w4, _⟩ | ⟨_, rfl⟩
        · exact absurd w4 w3
        · exact .inl ⟨rfl, rfl⟩
  by_cases h34 : nx s a = 34
  · rw [if_pos (by omega), if_pos (.inr h34)]
    obtain ⟨out, k, b, u, o, e, k', h1, h2⟩ := str 34 (.inl rfl) h34
    rw [h1, bind_some]
    exact ⟨out, k, b, u, o, e, k', rfl, h2⟩
  rw [if_neg (by omega)]
  by_cases h39 : nx s a = 39
  · rw [if_pos (by omega), if_pos (.inl h39)]
    obtain ⟨out, k, b, u, o, e, k', h1, h2⟩ := str 39 (.inr rfl) h39
    rw [h1, bind_some]
    exact ⟨out, k, b, u, o, e, k', rfl, h2⟩
  rw [if_neg (by omega), if_neg (fun h => h.elim h39 h34), nameFollows_eq hs (Nat.le_of_lt ha), bind_some]
  have idn : ∀ u1 : Bool, (u1 = false → u0 = false) → ∃ (out : List UInt8) (k : Nat) (b u : Bool) (o : List UInt8) (e : Bool) (k' : Int), m_spec_reader_name (s, (a : Int), false, u1, p) = some (out, s, (k : Int), b, u, p) ∧ m_cascadia_parser_parseIdentifier (s, (a : Int), dp, ac) = some (o, e, s, k', dp, ac) ∧ k ≤ s.length + 1 ∧ (e = false → ∃ n : Nat, k' = (n : Int) ∧ a < n ∧ n ≤ s.length) ∧
    (u = false → u0 = false ∧ ((b = true ∧ e = true) ∨ (b = false ∧ k ≤ s.length ∧ nx s k = 92 ∧ e = true) ∨ (b = false ∧ k ≤ s.length ∧ e = false ∧ o = out ∧ k' = (k : Int) ∧ a < k))) := fun u1 hu1 => by
    obtain ⟨out, k, b, u, h1, h2, h3, h4⟩ := name_eq hs (Nat.le_of_lt ha) u1 p
    obtain ⟨o, e, k', p1, p2, p3⟩ := ident_eq hs (Nat.le_of_lt ha) dp ac
    refine ⟨out, k, b, u, o, e, k', h1, p1, by omega, fun he => ?_, fun hu => ?_⟩
    · obtain ⟨_, m, e1, e2, e3⟩ := p2 he
      exact ⟨m, e1, e2, e3⟩
    obtain ⟨w1, w2, w3⟩ := h4 hu
    refine ⟨hu1 w1, ?_⟩
    rcases w3 with ⟨rfl, rfl, w4⟩ | ⟨rfl, w4, w5, w6⟩
    · rcases p3 w2 with ⟨_, rfl⟩ | ⟨w7, _⟩
      · exact .inl ⟨rfl, rfl⟩
      · rw [w4] at w7; cases w7
    · rcases p3 w2 with ⟨w7, _⟩ | ⟨_, m, out2, w7, w8, w9⟩
      · rw [w4] at w7; cases w7
      · obtain ⟨rfl, rfl⟩ := w5.det w6 w7 w8
        rcases w9 with ⟨w9, rfl⟩ | ⟨_, rfl, rfl, rfl⟩
        · exact .inr (.inl ⟨rfl, h2, w9, rfl⟩)
        · exact .inr (.inr ⟨rfl, h2, rfl, rfl, rfl, name_gt w4 w5 w6⟩)
  have hor : ∀ {u : Bool}, (u || dbl s a) = false → u = false := fun {u} h => by cases u with | false => rfl | true => cases h
  cases hid : idS s a with
  | true =>
    simp only [Bool.not_true, cond_false]
    obtain ⟨out, k, b, u, o, e, k', h1, h2⟩ := idn (u0 || dbl s a) hor
    rw [h1, bind_some]
    exact ⟨out, k, b, u, o, e, k', rfl, h2⟩
  | false =>
    simp only [Bool.not_false, cond_true]
    obtain ⟨c0, hc0, g0⟩ := nx_get ha
    rw [g0, nameByte_eq, bind_some]
    cases nameN c0.toNat with
    | true =>
      obtain ⟨out, k, b, u, o, e, k', h1, h2⟩ := idn true (fun h => by cases h)
      rw [cond_true, h1, bind_some]
      exact ⟨out, k, b, u, o, e, k', rfl, h2⟩
    | false =>
      rw [cond_false]
      by_cases h128 : 128 ≤ c0.toNat
      · obtain ⟨out, k, b, u, o, e, k', h1, h2⟩ := idn true (fun h => by cases h)
        rw [if_pos (by omega), h1, bind_some]
        exact ⟨out, k, b, u, o, e, k', rfl, h2⟩
      · obtain ⟨out, k, b, u, o, e, k', h1, h2⟩ := idn (u0 || dbl s a) hor
        rw [if_neg (by omega), h1, bind_some]
        exact ⟨out, k, b, u, o, e, k', rfl, h2⟩
end
end Go.Proofs.YtcjpnnmclhdjbaaGreatDoor.V
set_option linter.unusedVariables false
set_option linter.unusedSimpArgs false
namespace Go.Proofs.YtcjpnnmclhdjbaaGreatDoor.V
open Go
section
variable {s : List UInt8}
theorem flag_total (hs : s.length ≤ 1000) {k : Nat} (hk : k ≤ s.length + 1) (x : Sel) (b u p : Bool) : ∃ (l : List Sel) (k2 : Nat) (b2 u2 : Bool), (Option.bind (m_spec_reader_spaces (s, (k : Int), b, u, p)) fun r => sFlag x r.2) = some (l, s, (k2 : Int), b2, u2, p) ∧ (u2 = false → u = false ∧ (b = true → b2 = true)) := by
  obtain ⟨r, k1, b1, u1, h1, h2, h3, h4, h5, h6⟩ := spaces_eq hs hk b u p
  rw [h1, bind_some]
  simp only [sFlag, cond_dec]
  rw [next_eq hs, bind_some]
  have take : ∀ (x : Sel) (k1 : Nat) (b1 u1 : Bool), k1 ≤ 1001 → (b = true → b1 = true) → (u1 = false → u = false) → ∃ (l : List Sel) (k2 : Nat) (b2 u2 : Bool), sTake x (s, (k1 : Int), b1, u1, p) = some (l, s, (k2 : Int), b2, u2, p) ∧ (u2 = false → u = false ∧ (b = true → b2 = true)) := fun x k1 b1 u1 hk1 hb hu => by
    rw [sTake_eq hs hk1]
    split
    · exact ⟨_, _, _, _, rfl, fun h => ⟨hu h, hb⟩⟩
    · exact ⟨_, _, _, _, rfl, fun h => ⟨hu h, fun _ => rfl⟩⟩
  have hbb : b = true → b1 = true := fun h => (h5 h).1
  have last : ∃ (l : List Sel) (k2 : Nat) (b2 u2 : Bool), (if ((nx s k1 : Nat) : Int) = 115 then sTake x (s, (k1 : Int), b1, true, p) else if ((nx s k1 : Nat) : Int) = 83 then sTake x (s, (k1 : Int), b1, true, p) else sTake x (s, (k1 : Int), b1, u1, p)) = some (l, s, (k2 : Int), b2, u2, p) ∧ (u2 = false → u = false ∧ (b = true → b2 = true)) := by
    split
    · exact take x k1 b1 true (by omega) hbb (fun h => by cases h)
    · split
      · exact take x k1 b1 true (by omega) hbb (fun h => by cases h)
      · exact take x k1 b1 u1 (by omega) hbb h4
  cases hb1 : b1 with
  | true =>
    rw [hb1] at last
    exact last
  | false =>
    rw [hb1] at last
    rw [Bool.not_false, cond_true]
    have hb0 : b = false := by
      cases hb : b with
      | false => rfl
      | true => have := hbb hb; rw [hb1] at this; cases this
    have flag : ((nx s k1 : Nat) : Int) = 105 ∨ ((nx s k1 : Nat) : Int) = 73 → ∃ (l : List Sel) (k2 : Nat) (b2 u2 : Bool), (Option.bind (m_spec_reader_spaces (s, IntKind.wrap .i64 ((k1 : Int) + 1), false, u1, p)) fun r => sTake ⟨x.kind, x.op, x.key, x.val, x.a, x.b, 1, x.size⟩ r.2) = some (l, s, (k2 : Int), b2, u2, p) ∧ (u2 = false → u = false ∧ (b = true → b2 = true)) := fun hf => by
      have hlt : k1 < s.length := nx_ne (by omega)
      have e1 : IntKind.wrap .i64 ((k1 : Int) + 1) = ((k1 + 1 : Nat) : Int) := by rw [w64 (by omega) (by omega)]; rfl
      obtain ⟨r4, k4, b4, u4, w1, w2, w3, w4, w5, w6⟩ := spaces_eq hs (a := k1 + 1) (by omega) false u1 p
      rw [e1, w1, bind_some]
      exact take _ k4 b4 u4 (by omega) (fun h => by rw [hb0] at h; cases h) (fun h => h4 (w4 h))
    split
    · rename_i h
      exact flag (.inl h)
    · split
      · rename_i h
        exact flag (.inr h)
      · exact last
theorem value_bad (hs : s.length ≤ 1000) {k : Nat} (hk : k ≤ s.length) (h47 : nx s k = 47) (u0 p : Bool) : ∃ u, m_spec_reader_value (s, (k : Int), true, u0, p) = some ([], s, (k : Int), true, u, p) ∧ (u = false → u0 = false) := by
  have hlt : k < s.length := nx_ne (by omega)
  obtain ⟨c, hc, g⟩ := nx_get hlt
  have hid : idS s k = false := by
    have : idAt s k = k := by rw [idAt, if_neg (by omega)]
    have he : ef s k = false := by unfold ef; rw [h47]; simp
    rw [idS, this, h47, he]
    decide
  simp only [m_spec_reader_value, cond_dec]
  rw [next_eq hs, bind_some, h47, if_neg (by decide), if_neg (by decide), nameFollows_eq hs hk, bind_some, hid]
  simp only [Bool.not_false, cond_true]
  have hnb : m_spec_nameByte ((47 : Nat) : Int) = some false := nameByte_all ⟨47, by decide⟩
  rw [hnb, bind_some]
  simp only [cond_false]
  rw [if_neg (by decide)]
  obtain ⟨u, h1, h2⟩ := name_bad hs hk (u0 || dbl s k) p
  rw [h1, bind_some]
  exact ⟨u, rfl, fun h => by have := h2 h; cases u0 with
    | false => rfl
    | true => cases this⟩
theorem value_end (hs : s.length ≤ 1000) (u0 p : Bool) : ∃ (out : List UInt8) (k : Nat) (b u : Bool), m_spec_reader_value (s, (s.length : Int), false, u0, p) = some (out, s, (k : Int), b, u, p) ∧ k ≤ s.length + 1 ∧ (u = false → u0 = false ∧ b = true) := by
  have hz := nx_end (s := s) (i := s.length) (Nat.le_refl _)
  have hid : idS s s.length = false := by
    have : idAt s s.length = s.length := by rw [idAt, if_neg (by omega)]
    rw [idS, this, hz, ef_end (by omega)]
    decide
  simp only [m_spec_reader_value, cond_dec]
  rw [next_eq hs, bind_some, hz, if_neg (by decide), if_neg (by decide), nameFollows_eq hs (Nat.le_refl _), bind_some, hid]
  simp only [Bool.not_false, cond_true]
  have hnb : m_spec_nameByte ((0 : Nat) : Int) = some false := nameByte_all ⟨0, by decide⟩
  rw [hnb, bind_some]
  simp only [cond_false]
  rw [if_neg (by decide)]
  obtain ⟨out, k, b, u, h1, h2, h3, h4⟩ := name_eq hs (Nat.le_refl s.length) (u0 || dbl s s.length) p
  rw [h1, bind_some]
  refine ⟨out, k, b, u, rfl, by omega, fun h => ?_⟩
  obtain ⟨w1, w2, w3⟩ := h4 h
  refine ⟨(by cases u0 with
    | false => rfl
    | true => cases w1), ?_⟩
  rcases w3 with ⟨w3, _⟩ | ⟨_, w3, _⟩
  · exact w3
  · rw [hid] at w3; cases w3
def Tail (s : List UInt8) (k0 : Nat) (F : List UInt8 → Bool → PT → Option AR) (dp : Int) (ac : Bool) (impl : Option AR) (R : Option (List UInt8 × Bool × Nat)) : Prop :=
  (R = none → ∃ n : Int, impl = bad (s, n, dp, ac)) ∧ ∀ v fl (n : Nat), R = some (v, fl, n) → (k0 < n ∧ n < s.length) ∧ impl = F v fl (s, (n : Int), dp, ac)
theorem eVal_pv {k : Nat} (hk : k < s.length) (F : List UInt8 → Bool → PT → Option AR) (r : Bool) (dp : Int) (ac : Bool) : eVal F (r, s, (k : Int), dp, ac) = Option.bind (pv s k dp ac) fun r => eMid F r := by
  obtain ⟨c, hc, g⟩ := nx_get hk
  simp only [eVal, cond_dec, pv]
  rw [if_neg (by omega), atI_nat, hc, bind_some]
  by_cases h1 : c.toNat = 39
  · rw [if_pos (show (c.toNat : Int) = 39 by omega), if_pos (show nx s k = 39 ∨ nx s k = 34 by omega)]
  · rw [if_neg (show ¬ (c.toNat : Int) = 39 by omega)]
    by_cases h2 : c.toNat = 34
    · rw [if_pos (show (c.toNat : Int) = 34 by omega), if_pos (show nx s k = 39 ∨ nx s k = 34 by omega)]
    · rw [if_neg (show ¬ (c.toNat : Int) = 34 by omega), if_neg (show ¬ (nx s k = 39 ∨ nx s k = 34) by omega)]
theorem eMid_bad (F : List UInt8 → Bool → PT → Option AR) (o : List UInt8) (k dp : Int) (ac : Bool) : eMid F (o, true, s, k, dp, ac) = bad (s, k, dp, ac) := rfl
theorem eMid_ok (F : List UInt8 → Bool → PT → Option AR) (o : List UInt8) (k dp : Int) (ac : Bool) : eMid F (o, false, s, k, dp, ac) = Option.bind (m_cascadia_parser_skipWhitespace (s, k, dp, ac)) fun r => eFlag (F o) r := rfl
theorem impl_val (hs : s.length ≤ 1000) {k0 k : Nat} (hk0 : k0 ≤ k) (hk : k ≤ s.length) (F : List UInt8 → Bool → PT → Option AR) (r : Bool) (dp : Int) (ac : Bool) : ∃ R, Tail s k0 F dp ac (eVal F (r, s, (k : Int), dp, ac)) R := by
  by_cases hlt : k < s.length
  · rw [eVal_pv hlt]
    obtain ⟨out, k1, b, u, o, e, k', h1, h2, h3, h4, h5⟩ := val_both hs hlt false false dp ac
    rw [h2, bind_some]
    cases e with
    | true =>
      rw [eMid_bad]
      exact ⟨none, fun _ => ⟨_, rfl⟩, fun v fl n h => by cases h⟩
    | false =>
      obtain ⟨n, rfl, q1, q2⟩ := h4 rfl
      rw [eMid_ok]
      obtain ⟨R, w1, w2, _⟩ := flag_both hs q2 (F o) ⟨0, 0, [], [], 0, 0, 0, 0⟩ false false dp ac
      cases R with
      | none => exact ⟨none, fun _ => w1 rfl, fun v fl n h => by cases h⟩
      | some z =>
        refine ⟨some (o, z.1, z.2), fun h => (by cases h), fun v fl n' h => ?_⟩
        cases h
        obtain ⟨g1, g2⟩ := w2 z.1 z.2 rfl
        exact ⟨⟨by omega, g1.2⟩, g2⟩
  · refine ⟨none, fun _ => ⟨(k : Int), ?_⟩, fun v fl n h => by cases h⟩
    simp only [eVal, cond_dec]
    rw [if_pos (by omega)]
theorem tail_both (hs : s.length ≤ 1000) {a : Nat} (ha : a ≤ s.length) (F : List UInt8 → Bool → PT → Option AR) (x : Sel) (u p : Bool) (dp : Int) (ac : Bool) :
    ∃ R, Tail s a F dp ac (Option.bind (m_cascadia_parser_skipWhitespace (s, (a : Int), dp, ac)) fun r => eVal F r) R ∧
      ∃ (l : List Sel) (k2 : Nat) (b2 u2 : Bool), sVal x (s, (a : Int), false, u, p) = some (l, s, (k2 : Int), b2, u2, p) ∧ (u2 = false → u = false ∧ (R = none → b2 = true) ∧ ∀ v fl (n : Nat), R = some (v, fl, n) → b2 = false ∧ k2 = n + 1 ∧ l = [⟨x.kind, x.op, x.key, v, x.a, x.b, if fl then 1 else x.flag, 1⟩]) := by
  obtain ⟨r1, k1, i1, i2, i3, i4, i5⟩ := skip_eq hs ha dp ac
  obtain ⟨r2, k2, b, u1, j1, j2, j3, j4, j5, j6⟩ := spaces_eq hs (a := a) (by omega) false u p
  rw [i1, bind_some]
  simp only [sVal]
  rw [j1, bind_some]
  have alone : ∀ (spec : Option SRes), (∃ (l : List Sel) (k2 : Nat) (b2 : Bool), spec = some (l, s, (k2 : Int), b2, true, p)) → ∃ R, Tail s a F dp ac (eVal F (r1, s, (k1 : Int), dp, ac)) R ∧
      ∃ (l : List Sel) (k2 : Nat) (b2 u2 : Bool), spec = some (l, s, (k2 : Int), b2, u2, p) ∧ (u2 = false → u = false ∧ (R = none → b2 = true) ∧ ∀ v fl (n : Nat), R = some (v, fl, n) → b2 = false ∧ k2 = n + 1 ∧ l = [⟨x.kind, x.op, x.key, v, x.a, x.b, if fl then 1 else x.flag, 1⟩]) := by
    rintro spec ⟨l, k3, b3, rfl⟩
    obtain ⟨R, hR⟩ := impl_val hs (k0 := a) i4 i5 F r1 dp ac
    exact ⟨R, hR, _, _, _, _, rfl, fun h => by cases h⟩
  have unsure : ∀ (out : List UInt8) (k : Nat) (b : Bool), k ≤ s.length + 1 → ∃ (l : List Sel) (k2 : Nat) (b2 : Bool), (Option.bind (m_spec_reader_spaces (s, (k : Int), b, true, p)) fun r => sFlag ⟨x.kind, x.op, x.key, out, x.a, x.b, x.flag, x.size⟩ r.2) = some (l, s, (k2 : Int), b2, true, p) := fun out k b hk => by
    obtain ⟨l, k2, b2, u2, q1, q2⟩ := flag_total hs hk ⟨x.kind, x.op, x.key, out, x.a, x.b, x.flag, x.size⟩ b true p
    cases u2 with
    | true => exact ⟨l, k2, b2, q1⟩
    | false => exact absurd (q2 rfl).1 (by decide)
  have hk2 := j3 ha
  rcases j6 rfl with ⟨rfl, rfl, j7⟩ | ⟨rfl, rfl, j7, j8⟩
  · obtain ⟨u3, q1, q2⟩ := value_bad hs hk2 j7.1 true p
    have hu3 : u3 = true := by
      cases u3 with
      | true => rfl
      | false => exact (q2 rfl).symm
    rw [q1, bind_some, hu3]
    exact alone _ (unsure [] k2 true (by omega))
  · have hkk := i2.det i3 j7 j8
    subst hkk
    by_cases hlt : k1 < s.length
    · rw [eVal_pv hlt]
      obtain ⟨out, k, b, u, o, e, k', h1, h2, h3, h4, h5⟩ := val_both hs hlt u1 p dp ac
      rw [h1, bind_some, h2, bind_some]
      cases u with
      | true =>
        have := alone _ (unsure out k b h3)
        rw [eVal_pv hlt, h2, bind_some] at this
        exact this
      | false =>
        obtain ⟨h6, h7⟩ := h5 rfl
        rcases h7 with ⟨rfl, rfl⟩ | ⟨rfl, h7, h8, rfl⟩ | ⟨rfl, h7, rfl, rfl, rfl, h8⟩
        · rw [eMid_bad]
          obtain ⟨l, k2, b2, u2, q1, q2⟩ := flag_total hs h3 ⟨x.kind, x.op, x.key, out, x.a, x.b, x.flag, x.size⟩ true false p
          refine ⟨none, ⟨fun _ => ⟨_, rfl⟩, fun v fl n h => by cases h⟩, l, k2, b2, u2, q1, fun h => ⟨h6, fun _ => (q2 h).2 rfl, fun v fl n h => by cases h⟩⟩
        ·
          rw [eMid_bad]
          have hst : Stop s k := ⟨by rw [h8]; decide, fun h => by omega⟩
          obtain ⟨r4, k4, b4, u4, w1, w2, w3, w4, w5, w6⟩ := spaces_eq hs (a := k) h3 false false p
          rw [w1, bind_some]
          have hk4 : k4 = k ∧ b4 = false ∧ u4 = false := by
            rcases w6 rfl with ⟨_, _, w7, w8⟩ | ⟨w9, w10, w7, _⟩
            · have := w8.stop hst
              subst this
              omega
            · exact ⟨w7.stop hst, w9, w10⟩
          obtain ⟨rfl, rfl, rfl⟩ := hk4
          simp only [sFlag, cond_dec]
          rw [next_eq hs, bind_some, h8, Bool.not_false, cond_true, if_neg (by decide), if_neg (by decide), if_neg (by decide), if_neg (by decide), sTake_eq hs (by omega), if_neg (by omega)]
          exact ⟨none, ⟨fun _ => ⟨_, rfl⟩, fun v fl n h => by cases h⟩, _, _, _, _, rfl, fun _ => ⟨h6, fun _ => rfl, fun v fl n h => by cases h⟩⟩
        · rw [eMid_ok]
          obtain ⟨R, w1, w2, l, k2, b2, u2, w3, w4⟩ := flag_both hs h7 (F o) ⟨x.kind, x.op, x.key, o, x.a, x.b, x.flag, x.size⟩ false p dp ac
          cases R with
          | none => exact ⟨none, ⟨fun _ => w1 rfl, fun v fl n h => by cases h⟩, l, k2, b2, u2, w3, fun h => ⟨h6, fun _ => (w4 h).2.1 rfl, fun v fl n h => by cases h⟩⟩
          | some z =>
            refine ⟨some (o, z.1, z.2), ⟨fun h => (by cases h), fun v fl n' h => ?_⟩, l, k2, b2, u2, w3, fun h => ⟨h6, fun h => (by cases h), fun v fl n h' => ?_⟩⟩
            · cases h
              obtain ⟨g1, g2⟩ := w2 z.1 z.2 rfl
              exact ⟨⟨by omega, g1.2⟩, g2⟩
            · cases h'
              exact (w4 h).2.2 z.1 z.2 rfl
    · have hk : k1 = s.length := by omega
      subst hk
      obtain ⟨out, k, b, u, q1, q2, q3⟩ := value_end hs u1 p
      rw [q1, bind_some]
      have he : eVal F (r1, s, (s.length : Int), dp, ac) = bad (s, (s.length : Int), dp, ac) := by
        simp only [eVal, cond_dec]
        rw [if_pos (by omega)]
      rw [he]
      obtain ⟨l, k2, b2, u2, w1, w2⟩ := flag_total hs q2 ⟨x.kind, x.op, x.key, out, x.a, x.b, x.flag, x.size⟩ b u p
      refine ⟨none, ⟨fun _ => ⟨_, rfl⟩, fun v fl n h => by cases h⟩, l, k2, b2, u2, w1, fun h => ?_⟩
      obtain ⟨w3, w4⟩ := w2 h
      obtain ⟨w5, w6⟩ := q3 w3
      exact ⟨w5, fun _ => w4 w6, fun v fl n h => by cases h⟩
end
end Go.Proofs.YtcjpnnmclhdjbaaGreatDoor.V
set_option linter.unusedVariables false
set_option linter.unusedSimpArgs false
namespace Go.Proofs.YtcjpnnmclhdjbaaGreatDoor.V
open Go
section
variable {s : List UInt8} {b u p : Bool}
theorem signs_two {i : Nat} (h1 : 3 ≤ i) (h2 : i ≤ 8) : ∃ c, signs[i]? = some [c, 61] := by
  have : i = 3 ∨ i = 4 ∨ i = 5 ∨ i = 6 ∨ i = 7 ∨ i = 8 := by omega
  rcases this with rfl | rfl | rfl | rfl | rfl | rfl <;> exact ⟨_, rfl⟩
theorem sg_done (t : ST) (x : Sel) (hx : x.op ≠ 1) : ∀ i : Nat, i ≤ 9 → loopO m_spec_reader_attribute_0 (t, x, signs, (i : Int)) = some (t, x) := by
  intro i hi
  obtain ⟨y, h, rfl⟩ := loopO_up (body := m_spec_reader_attribute_0) (st := fun k => (t, x, signs, (k : Int))) 9 (fun y => y = (t, x)) (fun k hk => by
    have hl : (signs.length : Int) = 9 := rfl
    simp only [m_spec_reader_attribute_0, cond_dec, hl]
    by_cases hk9 : k < 9
    · have e1 : IntKind.wrap .i64 ((k : Int) + 1) = ((k + 1 : Nat) : Int) := by rw [w64 (by omega) (by omega)]; rfl
      rw [if_pos (by omega), if_neg hx, e1]
      exact .inr ⟨hk9, rfl⟩
    · rw [if_neg (by omega)]
      exact .inl ⟨_, rfl, rfl⟩) i hi
  exact h
theorem sg_miss {x : Sel} (hx : x.op = 1) {i : Nat} (hi : i < 9) {m : List UInt8} (hm : signs[i]? = some m) {t : ST} (ht : m_spec_reader_taken (t, m) = some (false, t)) : loopO m_spec_reader_attribute_0 (t, x, signs, (i : Int)) = loopO m_spec_reader_attribute_0 (t, x, signs, ((i + 1 : Nat) : Int)) := by
  refine loopO_nx ?_
  have hl : (signs.length : Int) = 9 := rfl
  have e1 : IntKind.wrap .i64 ((i : Int) + 1) = ((i + 1 : Nat) : Int) := by rw [w64 (by omega) (by omega)]; rfl
  simp only [m_spec_reader_attribute_0, cond_dec, hl, e1, atI_nat, Int.toNat_natCast, hm, bind_some]
  rw [if_pos (by omega), if_pos hx, ht, bind_some]
  rfl
theorem sg_hit {x : Sel} (hx : x.op = 1) {i : Nat} (hi : i < 9) (hi1 : i ≠ 1) {m : List UInt8} (hm : signs[i]? = some m) {t t' : ST} (ht : m_spec_reader_taken (t, m) = some (true, t')) : loopO m_spec_reader_attribute_0 (t, x, signs, (i : Int)) = some (t', ⟨x.kind, (i : Int), x.key, x.val, x.a, x.b, x.flag, x.size⟩) := by
  have step : m_spec_reader_attribute_0 (t, x, signs, (i : Int)) = some (.nx (t', ⟨x.kind, (i : Int), x.key, x.val, x.a, x.b, x.flag, x.size⟩, signs, ((i + 1 : Nat) : Int))) := by
    have hl : (signs.length : Int) = 9 := rfl
    have e1 : IntKind.wrap .i64 ((i : Int) + 1) = ((i + 1 : Nat) : Int) := by rw [w64 (by omega) (by omega)]; rfl
    simp only [m_spec_reader_attribute_0, cond_dec, hl, e1, atI_nat, Int.toNat_natCast, hm, bind_some]
    rw [if_pos (by omega), if_pos hx, ht, bind_some]
    rfl
  rw [loopO_nx step]
  exact sg_done _ _ (by show (i : Int) ≠ 1; omega) (i + 1) (by omega)
theorem two_loop (hs : s.length ≤ 1000) {a : Nat} (ha : a ≤ 1000) {x : Sel} (hx : x.op = 1) : ∀ n i, i + n = 9 → 3 ≤ i →
    (∃ (j : Nat) (c : UInt8), i ≤ j ∧ j ≤ 8 ∧ signs[j]? = some [c, 61] ∧ nx s a = c.toNat ∧ nx s (a + 1) = 61 ∧ loopO m_spec_reader_attribute_0 ((s, (a : Int), b, u, p), x, signs, (i : Int)) = some ((s, ((a + 2 : Nat) : Int), b, u, p), ⟨x.kind, (j : Int), x.key, x.val, x.a, x.b, x.flag, x.size⟩)) ∨
    ((∀ (j : Nat) (c : UInt8), i ≤ j → j ≤ 8 → signs[j]? = some [c, 61] → ¬ (nx s a = c.toNat ∧ nx s (a + 1) = 61)) ∧ loopO m_spec_reader_attribute_0 ((s, (a : Int), b, u, p), x, signs, (i : Int)) = some ((s, (a : Int), b, u, p), x))
  | 0, i, hn, hi => by
    obtain rfl : i = 9 := by omega
    refine .inr ⟨fun j c h1 h2 => by omega, loopO_out ?_⟩
    have hl : (signs.length : Int) = 9 := rfl
    simp only [m_spec_reader_attribute_0, cond_dec, hl]
    rw [if_neg (by decide)]
  | n + 1, i, hn, hi => by
    obtain ⟨c, hc⟩ := signs_two hi (by omega)
    have ht := taken_two (b := b) (u := u) (p := p) hs (k := a) (by omega) c 61 (by decide)
    by_cases h : nx s a = c.toNat ∧ nx s (a + 1) = UInt8.toNat 61
    · rw [if_pos h] at ht
      exact .inl ⟨i, c, Nat.le_refl _, by omega, hc, h.1, h.2, sg_hit hx (by omega) (by omega) hc ht⟩
    · rw [if_neg h] at ht
      rw [sg_miss hx (by omega) hc ht]
      rcases two_loop hs ha hx n (i + 1) (by omega) (by omega) with ⟨j, c', h1, h2⟩ | ⟨h1, h2⟩
      · exact .inl ⟨j, c', by omega, h2⟩
      · refine .inr ⟨fun j c' h3 h4 h5 h6 => ?_, h2⟩
        by_cases hj : j = i
        · subst hj
          rw [hc] at h5
          cases h5
          exact h h6
        · exact h1 j c' (by omega) h4 h5 h6
theorem op_loop (hs : s.length ≤ 1000) {a : Nat} (ha : a ≤ 1000) {x : Sel} (hx : x.op = 1) :
    (nx s a = 61 ∧ loopO m_spec_reader_attribute_0 ((s, (a : Int), b, u, p), x, signs, 2) = some ((s, ((a + 1 : Nat) : Int), b, u, p), ⟨x.kind, ((2 : Nat) : Int), x.key, x.val, x.a, x.b, x.flag, x.size⟩)) ∨
    (nx s a ≠ 61 ∧ ∃ (j : Nat) (c : UInt8), 3 ≤ j ∧ j ≤ 8 ∧ signs[j]? = some [c, 61] ∧ nx s a = c.toNat ∧ nx s (a + 1) = 61 ∧ loopO m_spec_reader_attribute_0 ((s, (a : Int), b, u, p), x, signs, 2) = some ((s, ((a + 2 : Nat) : Int), b, u, p), ⟨x.kind, (j : Int), x.key, x.val, x.a, x.b, x.flag, x.size⟩)) ∨
    (nx s a ≠ 61 ∧ (∀ (j : Nat) (c : UInt8), 3 ≤ j → j ≤ 8 → signs[j]? = some [c, 61] → ¬ (nx s a = c.toNat ∧ nx s (a + 1) = 61)) ∧ loopO m_spec_reader_attribute_0 ((s, (a : Int), b, u, p), x, signs, 2) = some ((s, (a : Int), b, u, p), x)) := by
  have ht := taken_one (b := b) (u := u) (p := p) hs (k := a) (by omega) 61 (by decide)
  by_cases h : nx s a = UInt8.toNat 61
  · rw [if_pos h] at ht
    exact .inl ⟨h, sg_hit (i := 2) hx (by omega) (by omega) rfl ht⟩
  · rw [if_neg h] at ht
    have hm := sg_miss (i := 2) hx (by omega) rfl ht
    rcases two_loop (b := b) (u := u) (p := p) hs ha hx 6 3 rfl (Nat.le_refl _) with ⟨j, c, h1, h2, h3, h4, h5, h6⟩ | ⟨h1, h2⟩
    · exact .inr (.inl ⟨h, j, c, h1, h2, h3, h4, h5, hm.trans h6⟩)
    · exact .inr (.inr ⟨h, h1, hm.trans h2⟩)
theorem sign_ok (key v : List UInt8) (fl : Bool) (r : PT) {i : Nat} {m : List UInt8} (h1 : 3 ≤ i) (h2 : i ≤ 8) (h : signs[i]? = some m) : sign key m v fl r = fine key m v fl r := by
  have : i = 3 ∨ i = 4 ∨ i = 5 ∨ i = 6 ∨ i = 7 ∨ i = 8 := by omega
  rcases this with rfl | rfl | rfl | rfl | rfl | rfl <;> (obtain rfl := Option.some.inj h; rfl)
theorem sign_no (key v : List UInt8) (fl : Bool) (r : PT) {m : List UInt8} (h0 : m ≠ [61]) (h : ∀ i : Nat, 3 ≤ i → i ≤ 8 → signs[i]? ≠ some m) : sign key m v fl r = some (([], [], [], false), true, r.1, IntKind.wrap .i64 (r.2.1 + 1), r.2.2.1, r.2.2.2) := by
  have n : ∀ (i : Nat) (m' : List UInt8), 3 ≤ i → i ≤ 8 → signs[i]? = some m' → decide (m = m') = false := fun i m' h1 h2 h3 => decide_eq_false fun e => h i h1 h2 (by rw [e]; exact h3)
  rw [sign, decide_eq_false h0, n 3 _ (by omega) (by omega) rfl, n 4 _ (by omega) (by omega) rfl, n 5 _ (by omega) (by omega) rfl, n 6 _ (by omega) (by omega) rfl, n 7 _ (by omega) (by omega) rfl, n 8 _ (by omega) (by omega) rfl]
  rfl
theorem sNone_eq (hs : s.length ≤ 1000) (a : Nat) : ∃ (l : List Sel) (u2 : Bool), sNone (s, (a : Int), b, u, p) = some (l, s, (a : Int), true, u2, p) ∧ (u2 = false → u = false) := by
  simp only [sNone, cond_dec]
  cases u with
  | true => exact ⟨_, _, rfl, fun h => by cases h⟩
  | false =>
    rw [cond_false, next_eq hs, bind_some]
    split
    · exact ⟨_, _, rfl, fun _ => rfl⟩
    · exact ⟨_, _, rfl, fun _ => rfl⟩
def Same (key : List UInt8) (l : List Sel) (y : List UInt8 × List UInt8 × List UInt8 × Bool) : Prop := ∃ (i : Nat) (m v : List UInt8) (fl : Bool), y = (key, v, m, fl) ∧ 1 ≤ i ∧ i ≤ 8 ∧ signs[i]? = some m ∧ l = [⟨5, (i : Int), key, v, 0, 0, if fl then 1 else 0, 1⟩]
theorem op_both (hs : s.length ≤ 1000) {a : Nat} (ha : a ≤ s.length) (key : List UInt8) (r r' : Bool) (dp : Int) (ac : Bool) : ∃ (y : List UInt8 × List UInt8 × List UInt8 × Bool) (e : Bool) (n : Int) (l : List Sel) (k2 : Nat) (b2 u2 : Bool),
    eOp key (r', s, (a : Int), dp, ac) = some (y, e, s, n, dp, ac) ∧ sOp key (r, s, (a : Int), false, u, p) = some (l, s, (k2 : Int), b2, u2, p) ∧ (u2 = false → u = false ∧ ((b2 = true ∧ e = true) ∨ (b2 = false ∧ e = false ∧ n = (k2 : Int) ∧ Same key l y))) := by
  have ht := taken_one (b := false) (u := u) (p := p) hs (k := a) (by omega) 93 (by decide)
  have hl : (s.length : Int) = ((s.length : Nat) : Int) := rfl
  have e1 : IntKind.wrap .i64 ((a : Int) + 1) = ((a + 1 : Nat) : Int) := by rw [w64 (by omega) (by omega)]; rfl
  have e2 : IntKind.wrap .i64 ((a : Int) + 2) = ((a + 2 : Nat) : Int) := by rw [w64 (by omega) (by omega)]; rfl
  simp only [eOp, sOp, cond_dec, cond_false, e1, e2]
  rw [ht, bind_some]
  by_cases h93 : nx s a = UInt8.toNat 93
  · have hlt : a < s.length := nx_ne (by rw [h93]; decide)
    obtain ⟨c, hc, g⟩ := nx_get hlt
    rw [if_neg (by omega), atI_nat, hc, bind_some, if_pos (show (c.toNat : Int) = 93 by rw [← g, h93]; rfl), if_pos h93, cond_true, selMade_eq, bind_some]
    exact ⟨_, _, _, _, _, _, _, rfl, rfl, fun h => ⟨h, .inr ⟨rfl, rfl, rfl, 1, [], [], false, rfl, by omega, by omega, rfl, rfl⟩⟩⟩
  rw [if_neg h93, cond_false]
  have oper : ∀ (n : Nat) (j : Nat) (m : List UInt8) (F : List UInt8 → Bool → PT → Option AR), (n = 1 ∨ n = 2) → a + n ≤ s.length → 2 ≤ j → j ≤ 8 → signs[j]? = some m → (∀ v fl (r : PT), F v fl r = fine key m v fl r) → ∃ (y : List UInt8 × List UInt8 × List UInt8 × Bool) (e : Bool) (n' : Int) (l : List Sel) (k2 : Nat) (b2 u2 : Bool),
      (if a + 2 < s.length then Option.bind (m_cascadia_parser_skipWhitespace (s, ((a + n : Nat) : Int), dp, ac)) (fun r => eVal F r) else bad (s, (a : Int), dp, ac)) = some (y, e, s, n', dp, ac) ∧ sVal ⟨5, (j : Int), key, [], 0, 0, 0, 0⟩ (s, ((a + n : Nat) : Int), false, u, p) = some (l, s, (k2 : Int), b2, u2, p) ∧ (u2 = false → u = false ∧ ((b2 = true ∧ e = true) ∨ (b2 = false ∧ e = false ∧ n' = (k2 : Int) ∧ Same key l y))) := by
    intro n j m F hn hle hj1 hj2 hm hF
    obtain ⟨R, ⟨t1, t2⟩, l, k2, b2, u2, t3, t4⟩ := tail_both hs hle F ⟨5, (j : Int), key, [], 0, 0, 0, 0⟩ u p dp ac
    cases R with
    | none =>
      obtain ⟨n', t1⟩ := t1 rfl
      by_cases hl : a + 2 < s.length
      · rw [if_pos hl, t1]
        exact ⟨_, _, _, _, _, _, _, rfl, t3, fun h => ⟨(t4 h).1, .inl ⟨(t4 h).2.1 rfl, rfl⟩⟩⟩
      · rw [if_neg hl]
        exact ⟨_, _, _, _, _, _, _, rfl, t3, fun h => ⟨(t4 h).1, .inl ⟨(t4 h).2.1 rfl, rfl⟩⟩⟩
    | some z =>
      obtain ⟨v, fl, n'⟩ := z
      obtain ⟨g1, g2⟩ := t2 v fl n' rfl
      have e3 : IntKind.wrap .i64 ((n' : Int) + 1) = ((n' + 1 : Nat) : Int) := by rw [w64 (by omega) (by omega)]; rfl
      rw [if_pos (by omega), g2, hF, fine]
      refine ⟨_, _, _, _, _, _, _, rfl, t3, fun h => ?_⟩
      obtain ⟨q1, q2, q3⟩ := t4 h
      obtain ⟨q3, q4, q5⟩ := q3 v fl n' rfl
      refine ⟨q1, .inr ⟨q3, rfl, ?_, j, m, v, fl, rfl, by omega, hj2, hm, q5⟩⟩
      show IntKind.wrap .i64 ((n' : Int) + 1) = _
      rw [e3, q4]
  by_cases hlt : a < s.length
  · obtain ⟨c, hc, g⟩ := nx_get hlt
    rw [if_neg (by omega), atI_nat, hc, bind_some, if_neg (show ¬ (c.toNat : Int) = 93 by rw [← g]; intro h; exact h93 (Int.ofNat.inj h))]
    have cut : ∀ (X : Option AR), (if (s.length : Int) ≤ ((a + 2 : Nat) : Int) then bad (s, (a : Int), dp, ac) else X) = if a + 2 < s.length then X else bad (s, (a : Int), dp, ac) := fun X => by
      by_cases h : a + 2 < s.length
      · rw [if_neg (by omega), if_pos h]
      · rw [if_pos (by omega), if_neg h]
    rw [cut]
    have two : a + 2 < s.length → ∃ d, s[a + 1]? = some d ∧ nx s (a + 1) = d.toNat ∧ subL s (a : Int) ((a + 2 : Nat) : Int) = some [c, d] := fun h => by
      obtain ⟨d, hd, g2⟩ := nx_get (s := s) (i := a + 1) (by omega)
      exact ⟨d, hd, g2, sub_two hc hd⟩
    rcases op_loop (b := false) (u := u) (p := p) hs (a := a) (by omega) (x := ⟨5, 1, key, [], 0, 0, 0, 0⟩) rfl with ⟨h1, h2⟩ | ⟨h1, j, c2, j1, j2, h2, h3, h4, h5⟩ | ⟨h1, h2, h3⟩
    · rw [h2, bind_some]
      obtain ⟨y, e, n', l, k2, b2, u2, q1, q2, q3⟩ := oper 1 2 [61] (fun v => fine key [61] v) (.inl rfl) (by omega) (by omega) (by omega) rfl (fun v fl r => rfl)
      refine ⟨y, e, n', l, k2, b2, u2, ?_, q2, q3⟩
      rw [← q1]
      by_cases h : a + 2 < s.length
      · obtain ⟨d, hd, g2, hsub⟩ := two h
        rw [if_pos h, if_pos h, hsub, bind_some]
        have e0 : atI [c, d] 0 = some c := rfl
        rw [e0, bind_some, if_pos (show (c.toNat : Int) = 61 by omega)]
      · rw [if_neg h, if_neg h]
    · rw [h5, bind_some, if_neg (show ¬ ((j : Nat) : Int) = 1 by omega)]
      have hlt1 : a + 1 < s.length := nx_ne (by omega)
      obtain ⟨y, e, n', l, k2, b2, u2, q1, q2, q3⟩ := oper 2 j [c2, 61] (fun v => sign key [c2, 61] v) (.inr rfl) (by omega) (by omega) j2 h2 (fun v fl r => sign_ok key v fl r j1 j2 h2)
      refine ⟨y, e, n', l, k2, b2, u2, ?_, q2, q3⟩
      rw [← q1]
      by_cases h : a + 2 < s.length
      · obtain ⟨d, hd, g2, hsub⟩ := two h
        have hcc : c = c2 := UInt8.toNat_inj.1 (by omega)
        have hdd : d = 61 := UInt8.toNat_inj.1 (by rw [← g2, h4]; rfl)
        rw [if_pos h, if_pos h, hsub, bind_some]
        have e0 : atI [c, d] 0 = some c := rfl
        have e01 : atI [c, d] 1 = some d := rfl
        rw [e0, bind_some, if_neg (show ¬ (c.toNat : Int) = 61 by omega), e01, bind_some, if_neg (show ¬ (d.toNat : Int) ≠ 61 by omega), hcc, hdd]
        have e5 : IntKind.wrap .i64 ((a : Int) + (([c2, (61 : UInt8)].length : Nat) : Int)) = ((a + 2 : Nat) : Int) := e2
        rw [e5]
      · rw [if_neg h, if_neg h]
    · rw [h3, bind_some, if_pos rfl]
      obtain ⟨l, u2, q1, q2⟩ := sNone_eq (b := false) (u := u) (p := p) hs a
      rw [q1]
      have : ∃ (y : List UInt8 × List UInt8 × List UInt8 × Bool) (n' : Int), (if a + 2 < s.length then Option.bind (subL s (a : Int) ((a + 2 : Nat) : Int)) fun m => Option.bind (atI m 0) fun c => if (c.toNat : Int) = 61 then Option.bind (m_cascadia_parser_skipWhitespace (s, ((a + 1 : Nat) : Int), dp, ac)) fun r => eVal (fun v => fine key [61] v) r else Option.bind (atI m 1) fun c => if (c.toNat : Int) ≠ 61 then bad (s, (a : Int), dp, ac) else Option.bind (m_cascadia_parser_skipWhitespace (s, IntKind.wrap .i64 ((a : Int) + (m.length : Int)), dp, ac)) fun r => eVal (fun v => sign key m v) r else bad (s, (a : Int), dp, ac)) = some (y, true, s, n', dp, ac) := by
        by_cases h : a + 2 < s.length
        · obtain ⟨d, hd, g2, hsub⟩ := two h
          rw [if_pos h, hsub, bind_some]
          have e0 : atI [c, d] 0 = some c := rfl
          have e01 : atI [c, d] 1 = some d := rfl
          rw [e0, bind_some, if_neg (show ¬ (c.toNat : Int) = 61 by omega), e01, bind_some]
          by_cases hd61 : d.toNat = 61
          · rw [if_neg (show ¬ (d.toNat : Int) ≠ 61 by omega)]
            have e5 : IntKind.wrap .i64 ((a : Int) + (([c, d].length : Nat) : Int)) = ((a + 2 : Nat) : Int) := e2
            rw [e5]
            obtain ⟨R, ⟨t1, t2⟩, _⟩ := tail_both hs (a := a + 2) (by omega) (fun v => sign key [c, d] v) ⟨0, 0, [], [], 0, 0, 0, 0⟩ false false dp ac
            cases R with
            | none =>
              obtain ⟨n', t1⟩ := t1 rfl
              rw [t1]
              exact ⟨_, _, rfl⟩
            | some z =>
              obtain ⟨v, fl, n'⟩ := z
              obtain ⟨w1, w2⟩ := t2 v fl n' rfl
              have w3 := sign_no key v fl (s, (n' : Int), dp, ac) (m := [c, d]) (fun e => by cases e) (fun i i1 i2 e => by
                have hdd : d = 61 := UInt8.toNat_inj.1 hd61
                rw [hdd] at e
                exact h2 i c i1 i2 e ⟨g, by omega⟩)
              exact ⟨_, _, w2.trans w3⟩
          · rw [if_pos (show (d.toNat : Int) ≠ 61 by omega)]
            exact ⟨_, _, rfl⟩
        · rw [if_neg h]
          exact ⟨_, _, rfl⟩
      obtain ⟨y, n', this⟩ := this
      exact ⟨y, true, n', l, a, true, u2, this, rfl, fun h => ⟨q2 h, .inl ⟨rfl, rfl⟩⟩⟩
  · have hz := nx_end (s := s) (i := a) (by omega)
    rw [if_pos (by omega)]
    rcases op_loop (b := false) (u := u) (p := p) hs (a := a) (by omega) (x := ⟨5, 1, key, [], 0, 0, 0, 0⟩) rfl with ⟨h1, h2⟩ | ⟨h1, j, c2, j1, j2, h2, h3, h4, h5⟩ | ⟨h1, h2, h3⟩
    · omega
    · have := nx_ne (s := s) (i := a + 1) (by omega)
      omega
    · rw [h3, bind_some, if_pos rfl]
      obtain ⟨l, u2, q1, q2⟩ := sNone_eq (b := false) (u := u) (p := p) hs a
      rw [q1]
      exact ⟨_, _, _, l, a, true, u2, rfl, rfl, fun h => ⟨q2 h, .inl ⟨rfl, rfl⟩⟩⟩
theorem sBad_ne {t : ST} {r : SRes} (h : sBad t = some r) : r.1 ≠ [] := by
  cases h
  simp
theorem sTake_ne {x : Sel} {t : ST} {r : SRes} (h : sTake x t = some r) : r.1 ≠ [] := by
  simp only [sTake] at h
  obtain ⟨q, _, h⟩ := Option.bind_eq_some_iff.1 h
  cases hq : q.1 with
  | true =>
    rw [hq] at h
    simp only [Bool.not_true, cond_false] at h
    rw [selMade_eq, bind_some] at h
    cases h
    simp
  | false =>
    rw [hq] at h
    exact sBad_ne h
theorem sFlag_ne {x : Sel} {t : ST} {r : SRes} (h : sFlag x t = some r) : r.1 ≠ [] := by
  simp only [sFlag, cond_dec] at h
  obtain ⟨c, _, h⟩ := Option.bind_eq_some_iff.1 h
  have last : (if c = 115 then sTake x (t.1, t.2.1, t.2.2.1, true, t.2.2.2.2) else if c = 83 then sTake x (t.1, t.2.1, t.2.2.1, true, t.2.2.2.2) else sTake x t) = some r → r.1 ≠ [] := fun h => by
    split at h
    · exact sTake_ne h
    · split at h
      · exact sTake_ne h
      · exact sTake_ne h
  cases hb : t.2.2.1 with
  | true => rw [hb] at h; exact last (by rw [hb]; exact h)
  | false =>
    rw [hb] at h
    rw [Bool.not_false, cond_true] at h
    split at h
    · obtain ⟨q, _, h⟩ := Option.bind_eq_some_iff.1 h
      exact sTake_ne h
    · split at h
      · obtain ⟨q, _, h⟩ := Option.bind_eq_some_iff.1 h
        exact sTake_ne h
      · exact last (by rw [hb]; exact h)
theorem sVal_ne {x : Sel} {t : ST} {r : SRes} (h : sVal x t = some r) : r.1 ≠ [] := by
  simp only [sVal] at h
  obtain ⟨q, _, h⟩ := Option.bind_eq_some_iff.1 h
  obtain ⟨q, _, h⟩ := Option.bind_eq_some_iff.1 h
  obtain ⟨q, _, h⟩ := Option.bind_eq_some_iff.1 h
  exact sFlag_ne h
theorem sNone_ne {t : ST} {r : SRes} (h : sNone t = some r) : r.1 ≠ [] := by
  simp only [sNone, cond_dec] at h
  cases hb : t.2.2.2.1 with
  | true => rw [hb] at h; exact sBad_ne h
  | false =>
    rw [hb, cond_false] at h
    obtain ⟨q, _, h⟩ := Option.bind_eq_some_iff.1 h
    split at h
    · exact sBad_ne h
    · obtain ⟨q, _, h⟩ := Option.bind_eq_some_iff.1 h
      exact sBad_ne h
theorem sOp_ne {key : List UInt8} {t : Bool × ST} {r : SRes} (h : sOp key t = some r) : r.1 ≠ [] := by
  simp only [sOp, cond_dec] at h
  cases hb : t.2.2.2.1 with
  | true => rw [hb] at h; exact sBad_ne h
  | false =>
    rw [hb, cond_false] at h
    obtain ⟨q, _, h⟩ := Option.bind_eq_some_iff.1 h
    cases hq : q.1 with
    | true =>
      rw [hq, cond_true, selMade_eq, bind_some] at h
      cases h
      simp
    | false =>
      rw [hq, cond_false] at h
      obtain ⟨y, _, h⟩ := Option.bind_eq_some_iff.1 h
      split at h
      · exact sNone_ne h
      · exact sVal_ne h
theorem sOp_bad (key : List UInt8) (r : Bool) (k : Int) (u p : Bool) : sOp key (r, s, k, true, u, p) = sBad (s, k, true, u, p) := rfl
theorem no_slash {j : Nat} {c : UInt8} (h1 : 3 ≤ j) (h2 : j ≤ 8) (h : signs[j]? = some [c, 61]) : c.toNat ≠ 92 := by
  have : j = 3 ∨ j = 4 ∨ j = 5 ∨ j = 6 ∨ j = 7 ∨ j = 8 := by omega
  rcases this with rfl | rfl | rfl | rfl | rfl | rfl <;> (have h := Option.some.inj h; injection h with h _; subst h; decide)
theorem att_both (hs : s.length ≤ 1000) (h0 : nx s 0 = 91) : ∃ (l : List Sel) (k2 : Nat) (b2 u2 : Bool), m_spec_reader_attribute (s, 1, false, false, p) = some (l, s, (k2 : Int), b2, u2, p) ∧
    (u2 = false → ∃ (y : List UInt8 × List UInt8 × List UInt8 × Bool) (e : Bool) (n : Int), m_cascadia_parser_parseAttributeSelector (s, 0, 0, false) = some (y, e, s, n, 0, false) ∧ ((b2 = true ∧ e = true) ∨ (b2 = false ∧ e = false ∧ n = (k2 : Int) ∧ ∃ key, Same key l y))) := by
  have hlt : 0 < s.length := nx_ne (by omega)
  obtain ⟨c, hc, g⟩ := nx_get hlt
  have ha : (1 : Nat) ≤ s.length := hlt
  have hat : atI s (0 : Int) = some c := by rw [atI_zero]; exact hc
  have ew : IntKind.wrap .i64 ((0 : Int) + 1) = ((1 : Nat) : Int) := by decide
  rw [att_eq, pas_eq]
  simp only [cond_dec]
  rw [if_neg (show ¬ (s.length : Int) ≤ 0 by omega), hat, bind_some, if_neg (show ¬ (c.toNat : Int) ≠ 91 by omega), ew]
  obtain ⟨r1, k1, i1, i2, i3, i4, i5⟩ := skip_eq hs ha 0 false
  obtain ⟨r2, k2, b, u1, j1, j2, j3, j4, j5, j6⟩ := spaces_eq hs (a := 1) (by omega) false false p
  rw [i1, bind_some]
  have j1' : m_spec_reader_spaces (s, 1, false, false, p) = some (r2, s, (k2 : Int), b, u1, p) := j1
  rw [j1', bind_some]
  simp only
  have hk2 := j3 ha
  have alone : ∀ (out : List UInt8) (k : Nat) (b : Bool), out.length ≤ 4 * k → k ≤ s.length → ∃ (l : List Sel) (k2 : Nat) (b2 : Bool), (Option.bind (m_spec_Lower out) fun key => Option.bind (m_spec_reader_spaces (s, (k : Int), b, true, p)) fun r => sOp key r) = some (l, s, (k2 : Int), b2, true, p) := fun out k b ho hk => by
    rw [Lower_eq out (by omega), bind_some]
    obtain ⟨r, k3, b3, u3, w1, w2, w3, w4, w5, w6⟩ := spaces_eq hs (a := k) (by omega) b true p
    rw [w1, bind_some]
    have hu3 : u3 = true := by
      cases u3 with
      | true => rfl
      | false => exact (w4 rfl).symm
    subst hu3
    cases b3 with
    | true => exact ⟨_, k3, true, by rw [sOp_bad]; rfl⟩
    | false =>
      obtain ⟨y, e, n, l, k4, b4, u4, q1, q2, q3⟩ := op_both (p := p) (u := true) hs (w3 hk) (out.map lowN) r false 0 false
      rw [q2]
      cases u4 with
      | true => exact ⟨l, k4, b4, rfl⟩
      | false => exact absurd (q3 rfl).1 (by decide)
  rcases j6 rfl with ⟨rfl, rfl, j7⟩ | ⟨rfl, rfl, j7, j8⟩
  · obtain ⟨u3, q1, q2⟩ := name_bad hs hk2 true p
    have hu3 : u3 = true := by
      cases u3 with
      | true => rfl
      | false => exact (q2 rfl).symm
    subst hu3
    rw [q1, bind_some]
    obtain ⟨l, k3, b3, w⟩ := alone [] k2 true (Nat.zero_le _) hk2
    exact ⟨l, k3, b3, true, w, fun h => by cases h⟩
  · have hkk := i2.det i3 j7 j8
    subst hkk
    obtain ⟨out, k, b, u, h1, h2, h3, h4⟩ := name_eq hs i5 false p
    rw [h1, bind_some]
    simp only
    cases u with
    | true =>
      obtain ⟨l, k3, b3, w⟩ := alone out k b h3 h2
      exact ⟨l, k3, b3, true, w, fun h => by cases h⟩
    | false =>
      obtain ⟨_, h5, h6⟩ := h4 rfl
      obtain ⟨o, e, k', p1, p2, p3⟩ := ident_eq hs i5 0 false
      rw [p1, bind_some, Lower_eq out (by omega), bind_some]
      obtain ⟨r3, k3, b3, u3, w1, w2, w3, w4, w5, w6⟩ := spaces_eq hs (a := k) (by omega) b false p
      rw [w1, bind_some]
      have hk3 := w3 h2
      rcases h6 with ⟨rfl, rfl, h7⟩ | ⟨rfl, h7, h8, h9⟩
      · obtain ⟨w7, w8, w9⟩ := w5 rfl
        subst w7 w8 w9
        rcases p3 h5 with ⟨_, rfl⟩ | ⟨q, _⟩
        · exact ⟨_, k3, true, false, rfl, fun _ => ⟨_, _, _, rfl, .inl ⟨rfl, rfl⟩⟩⟩
        · rw [h7] at q; cases q
      · rcases p3 h5 with ⟨q, _⟩ | ⟨_, m, out2, q1, q2, q3⟩
        · rw [h7] at q; cases q
        · obtain ⟨rfl, rfl⟩ := h8.det h9 q1 q2
          cases u3 with
          | true =>
            have : ∃ (l : List Sel) (k2 : Nat) (b2 : Bool), sOp (out.map lowN) (r3, s, (k3 : Int), b3, true, p) = some (l, s, (k2 : Int), b2, true, p) := by
              obtain ⟨l, k4, b4, w⟩ := alone out k false h3 h2
              rw [Lower_eq out (by omega), bind_some] at w
              cases b3 with
              | true => exact ⟨_, k3, true, by rw [sOp_bad]; rfl⟩
              | false =>
                obtain ⟨y, e, n, l, k4, b4, u4, q1, q2, q3⟩ := op_both (p := p) (u := true) hs hk3 (out.map lowN) r3 false 0 false
                rw [q2]
                cases u4 with
                | true => exact ⟨l, k4, b4, rfl⟩
                | false => exact absurd (q3 rfl).1 (by decide)
            obtain ⟨l, k4, b4, w⟩ := this
            exact ⟨l, k4, b4, true, w, fun h => by cases h⟩
          | false =>
            rcases w6 rfl with ⟨_, w7, _⟩ | ⟨rfl, _, w7, w8⟩
            · cases w7
            · rcases q3 with ⟨q3, rfl⟩ | ⟨q3, rfl, rfl, rfl⟩
              ·
                have hst : Stop s k := ⟨by rw [q3]; decide, fun h => by omega⟩
                have hk3 := w7.stop hst
                subst hk3
                have ht := taken_one (b := false) (u := false) (p := p) hs (k := k3) (by omega) 93 (by decide)
                rw [if_neg (show ¬ nx s k3 = UInt8.toNat 93 by rw [q3]; decide)] at ht
                have hop : sOp (out.map lowN) (r3, s, (k3 : Int), false, false, p) = sNone (s, (k3 : Int), false, false, p) := by
                  simp only [sOp, cond_dec, cond_false]
                  rw [ht, bind_some, cond_false]
                  rcases op_loop (b := false) (u := false) (p := p) hs (a := k3) (by omega) (x := ⟨5, 1, out.map lowN, [], 0, 0, 0, 0⟩) rfl with ⟨n1, _⟩ | ⟨_, j, c2, n1, n2, n3, n4, _⟩ | ⟨_, _, n1⟩
                  · omega
                  · exact absurd (n4.symm.trans q3) (no_slash n1 n2 n3)
                  · rw [n1, bind_some, if_pos rfl]
                rw [hop]
                obtain ⟨l, u4, n1, n2⟩ := sNone_eq (b := false) (u := false) (p := p) hs k3
                rw [n1]
                exact ⟨l, k3, true, u4, rfl, fun _ => ⟨_, _, _, rfl, .inl ⟨rfl, rfl⟩⟩⟩
              · obtain ⟨n1, _⟩ := p2 rfl
                obtain ⟨r4, k4, m1, m2, m3, m4, m5⟩ := skip_eq hs (a := k) h2 0 false
                have hkk := m2.det m3 w7 w8
                subst hkk
                have hbb : (!!false) = false := rfl
                obtain ⟨y, e, n, l, k5, b5, u5, g1, g2, g3⟩ := op_both (p := p) (u := false) hs m5 (o.map lowN) r3 r4 0 false
                rw [g2]
                refine ⟨l, k5, b5, u5, rfl, fun h => ⟨y, e, n, ?_, ?_⟩⟩
                · simp only [hbb, cond_false]
                  rw [toLowerASCII_eq o (by omega), bind_some, m1, bind_some]
                  exact g1
                · rcases (g3 h).2 with g4 | ⟨g4, g5, g6, g7⟩
                  · exact .inl g4
                  · exact .inr ⟨g4, g5, g6, _, g7⟩
end
theorem both_same {R : Type} (a : Option R) : both a a = a := by
  unfold both
  rw [if_pos rfl]
theorem signAt_eq (l : List (List UInt8)) (hl : l.length ≤ 1000) (m : List UInt8) {i : Nat} (h : l[i]? = some m) (hno : ∀ j, j < i → l[j]? ≠ some m) : m_impl_signAt (l, m) = some ((i + 1 : Nat) : Int) := by
  have hi := (List.getElem?_eq_some_iff.1 h).1
  simp only [m_impl_signAt]
  obtain ⟨y, hy, rfl⟩ := loopO_up (body := m_impl_signAt_0) (st := fun k => (l, m, (l.length : Int), (k : Int))) i (fun y => y = .inr ((i + 1 : Nat) : Int)) (fun k hk => by
    obtain ⟨v, hv⟩ := get_lt (l := l) (k := k) (by omega)
    have e1 : IntKind.wrap .i64 ((k : Int) + 1) = ((k + 1 : Nat) : Int) := by rw [w64 (by omega) (by omega)]; rfl
    simp only [m_impl_signAt_0, cond_dec, atI_nat, hv, bind_some, e1]
    rw [if_pos (by omega)]
    by_cases hki : k < i
    · rw [if_neg (fun e => hno k hki (by rw [hv, e]))]
      exact .inr ⟨hki, rfl⟩
    · have : k = i := by omega
      subst this
      rw [hv] at h
      rw [if_pos (Option.some.inj h)]
      exact .inl ⟨_, rfl, rfl⟩) 0 (Nat.zero_le _)
  rw [show loopO m_impl_signAt_0 (l, m, (l.length : Int), 0) = _ from hy, bind_some, selim_r]
def attrSigns : List (List UInt8) := [[], [61], [33, 61], [126, 61], [124, 61], [94, 61], [36, 61], [42, 61]]
theorem attr_sign {i : Nat} {m : List UInt8} (h1 : 1 ≤ i) (h2 : i ≤ 8) (h : signs[i]? = some m) : m_impl_signAt (attrSigns, m) = some (i : Int) := by
  obtain ⟨j, rfl⟩ : ∃ j, i = j + 1 := ⟨i - 1, by omega⟩
  refine signAt_eq attrSigns (by decide) m h fun k hk e => ?_
  have hs : attrSigns[j]? = some m := h
  have nd : ∀ a b : Fin 8, a < b → attrSigns[a.val]? ≠ attrSigns[b.val]? := by decide +kernel
  exact nd ⟨k, by omega⟩ ⟨j, by omega⟩ (by exact hk) (e.trans hs.symm)
theorem selNode_eq (key v m : List UInt8) (fl : Bool) {i : Nat} (h1 : 1 ≤ i) (h2 : i ≤ 8) (h : signs[i]? = some m) : m_impl_selNode (4, key, v, m, 0, 0, false, false, false, fl) = some ⟨5, (i : Int), key, v, 0, 0, if fl then 1 else 0, 0⟩ := by
  have hs := attr_sign h1 h2 h
  have ha : m_impl_attrOps () = some attrSigns := rfl
  simp only [m_impl_selNode, cond_dec]
  rw [if_neg (by decide), if_neg (by decide), if_neg (by decide), if_pos (by decide)]
  rw [ha, bind_some, bind_some, hs, bind_some]
  cases fl
  · simp only [cond_false, both_same]
    rfl
  · simp only [cond_true, both_same]
    rfl
theorem fn_readAttribute (s : List UInt8) : m_laws_FnReadAttribute s = some true := by
  simp only [m_laws_FnReadAttribute, cond_dec]
  by_cases h1 : 2147483647 < (s.length : Int)
  · rw [if_pos h1]
  rw [if_neg h1]
  by_cases h2 : 1000 < (s.length : Int)
  · rw [if_pos h2]
  rw [if_neg h2]
  have hs : s.length ≤ 1000 := by omega
  obtain ⟨rd, hrd⟩ := readable_ex hs
  have none : ∀ (n : Int), m_cascadia_parser_parseAttributeSelector (s, 0, 0, false) = bad (s, n, 0, false) → m_impl_ReadAttribute s = some (⟨0, 0, [], [], 0, 0, 0, 0⟩, 0, false) := fun n h => by
    simp only [m_impl_ReadAttribute, m_cascadia_ReadAttribute, m_impl_read]
    rw [h]
    rfl
  simp only [m_spec_ReadAttribute, cond_dec]
  by_cases h3 : s = []
  · rw [if_pos h3, hrd, bind_some, bind_some]
    cases rd with
    | false => rfl
    | true =>
      rw [none 0 (by rw [pas_eq, h3]; rfl), bind_some]
      rfl
  rw [if_neg h3]
  have hlt : 0 < s.length := List.length_pos_iff.2 h3
  obtain ⟨c, hc, g⟩ := nx_get hlt
  have hat : atI s (0 : Int) = some c := by rw [atI_zero]; exact hc
  rw [hat, bind_some]
  by_cases h4 : (c.toNat : Int) ≠ 91
  · rw [if_pos h4, hrd, bind_some, bind_some]
    cases rd with
    | false => rfl
    | true =>
      rw [none 0 (by
        rw [pas_eq]
        simp only [cond_dec]
        rw [if_neg (show ¬ (s.length : Int) ≤ 0 by omega), hat, bind_some, if_pos h4]), bind_some]
      rfl
  rw [if_neg h4]
  obtain ⟨l, k2, b2, u2, q1, q2⟩ := att_both (p := false) hs (show nx s 0 = 91 by omega)
  have hne : l ≠ [] := by
    have h := q1
    rw [att_eq] at h
    obtain ⟨_, _, h⟩ := Option.bind_eq_some_iff.1 h
    obtain ⟨_, _, h⟩ := Option.bind_eq_some_iff.1 h
    obtain ⟨_, _, h⟩ := Option.bind_eq_some_iff.1 h
    obtain ⟨_, _, h⟩ := Option.bind_eq_some_iff.1 h
    exact sOp_ne h
  rw [q1, bind_some]
  simp only
  obtain ⟨z, l', rfl⟩ := List.exists_cons_of_ne_nil hne
  cases u2 with
  | true =>
    cases b2 with
    | true => rfl
    | false => rfl
  | false =>
    obtain ⟨y, e, n, w1, w2⟩ := q2 rfl
    rcases w2 with ⟨rfl, rfl⟩ | ⟨rfl, rfl, rfl, key, i, m, v, fl, rfl, i1, i2, i3, i4⟩
    · simp only [cond_true, Bool.not_false]
      rw [hrd, bind_some, bind_some]
      cases rd with
      | false => rfl
      | true =>
        have : m_impl_ReadAttribute s = some (⟨0, 0, [], [], 0, 0, 0, 0⟩, 0, false) := by
          simp only [m_impl_ReadAttribute, m_cascadia_ReadAttribute, m_impl_read]
          rw [w1]
          rfl
        rw [this, bind_some]
        rfl
    · have hat2 : atI (z :: l') (0 : Int) = some z := by rw [atI_zero]; rfl
      have hget : (z :: l')[Int.toNat 0]? = some z := rfl
      have hz : z = ⟨5, (i : Int), key, v, 0, 0, if fl then 1 else 0, 1⟩ := by injection i4
      simp only [cond_false, Bool.not_false, cond_true]
      rw [hat2, bind_some, hget, bind_some, hrd, bind_some, bind_some]
      cases rd with
      | false => rfl
      | true =>
        have : m_impl_ReadAttribute s = some (⟨5, (i : Int), key, v, 0, 0, if fl then 1 else 0, 1⟩, (k2 : Int), true) := by
          simp only [m_impl_ReadAttribute, m_cascadia_ReadAttribute, m_impl_read]
          rw [w1, bind_some, bind_some]
          have hT : m_cascadia_Take (key, v, m, fl) = some (4, key, v, m, 0, 0, false, false, false, fl) := rfl
          simp only [Bool.not_false, Bool.not_true, cond_false]
          rw [hT, bind_some]
          simp only
          rw [selNode_eq key v m fl i1 i2 i3, bind_some, bind_some]
        rw [this, bind_some]
        subst hz
        simp
end Go.Proofs.YtcjpnnmclhdjbaaGreatDoor.V
