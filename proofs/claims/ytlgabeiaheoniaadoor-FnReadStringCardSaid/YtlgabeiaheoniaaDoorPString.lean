/-
  FnReadString. Plain facts.
-/
import Derived.Test.YtlgabeiaheoniaaDoorPName
set_option linter.unusedVariables false
set_option linter.unusedSimpArgs false
namespace Go.Proofs.YtlgabeiaheoniaaDoor.V
open Go

/-- What a step of reading a string takes, behind a quote q. -/
def qstep (s : List UInt8) (q i : Nat) : Option (Nat × List UInt8) :=
  match s[i]? with
  | none => none
  | some c => if c.toNat = 92 then (if ef s i then estep s i else if i + 1 < s.length then some (if crlf s (i + 1) then i + 3 else i + 2, []) else none)
    else if c.toNat = q ∨ c.toNat = 10 ∨ c.toNat = 13 ∨ c.toNat = 12 then none else some (i + 1, [c])
section
variable {s : List UInt8} {q : Nat}
theorem qstep_end {i : Nat} (h : s.length ≤ i) : qstep s q i = none := by rw [qstep, List.getElem?_eq_none h]
theorem qstep_one {i : Nat} {c : UInt8} (hc : s[i]? = some c) (h : c.toNat ≠ 92) (h1 : ¬ (c.toNat = q ∨ c.toNat = 10 ∨ c.toNat = 13 ∨ c.toNat = 12)) : qstep s q i = some (i + 1, [c]) := by
  rw [qstep, hc]
  simp only
  rw [if_neg h, if_neg h1]
theorem qstep_stop {i : Nat} {c : UInt8} (hc : s[i]? = some c) (h : c.toNat ≠ 92) (h1 : c.toNat = q ∨ c.toNat = 10 ∨ c.toNat = 13 ∨ c.toNat = 12) : qstep s q i = none := by
  rw [qstep, hc]
  simp only
  rw [if_neg h, if_pos h1]
theorem qstep_esc {i : Nat} {c : UInt8} (hc : s[i]? = some c) (h : c.toNat = 92) (he : ef s i = true) : qstep s q i = estep s i := by
  rw [qstep, hc]
  simp only
  rw [if_pos h, if_pos he]
theorem qstep_line {i : Nat} {c : UInt8} (hc : s[i]? = some c) (h : c.toNat = 92) (he : ef s i = false) (hi : i + 1 < s.length) : qstep s q i = some (if crlf s (i + 1) then i + 3 else i + 2, []) := by
  rw [qstep, hc]
  simp only
  rw [if_pos h, if_neg (by rw [he]; decide), if_pos hi]
theorem qstep_cut {i : Nat} {c : UInt8} (hc : s[i]? = some c) (h : c.toNat = 92) (he : ef s i = false) (hi : ¬ i + 1 < s.length) : qstep s q i = none := by
  rw [qstep, hc]
  simp only
  rw [if_pos h, if_neg (by rw [he]; decide), if_neg hi]
theorem qstep_hi (hq : q < 128) (i : Nat) (c : UInt8) (hc : s[i]? = some c) (h : 128 ≤ c.toNat) : qstep s q i = some (i + 1, [c]) := qstep_one hc (by omega) (by omega)
theorem crlf_lt {i : Nat} (h : crlf s i = true) : i + 1 < s.length := by
  unfold crlf at h
  simp at h
  apply Decidable.byContradiction
  intro hn
  have : nx s (i + 1) = 0 := by rw [nx, List.getElem?_eq_none (by omega)]
  omega
theorem quoted_eq (hs : s.length ≤ 1000) (h0 : nx s 0 = q) (hq : q = 34 ∨ q = 39) : ∃ (out' : List UInt8) (bad u : Bool) (k : Int), m_spec_reader_quoted (s, 0, false, false, false) = some (out', s, k, bad, u, false) ∧
    (u = false → ∃ (j : Nat) (out : List UInt8), Rdg (qstep s q) 1 [] j out ∧ qstep s q j = none ∧ ((nx s j = q ∧ bad = false ∧ out' = out ∧ k = (j : Int) + 1) ∨ (nx s j ≠ q ∧ bad = true))) := by
  obtain ⟨y, h, qq⟩ := loopO_rule (body := m_spec_reader_quoted_0) (fun x => ∃ (k : Nat) (u : Bool) (o : List UInt8), x = ((s, (k : Int), false, u, false), (q : Int), o) ∧ k ≤ s.length + 1 ∧ o.length ≤ 4 * k ∧ (u = false → (k ≤ s.length ∧ Rdg (qstep s q) 1 [] k o) ∨ (s.length < k ∧ ∃ (j : Nat) (o' : List UInt8), Rdg (qstep s q) 1 [] j o' ∧ qstep s q j = none ∧ nx s j ≠ q)))
    (fun _ y => ∃ (out' : List UInt8) (bad u : Bool) (k : Int), ((∃ b, y = .inl (s, k, b, u, false) ∧ bad = true ∧ out' = []) ∨ y = .inr ((s, k, bad, u, false), out')) ∧ (u = false → ∃ (j : Nat) (out : List UInt8), Rdg (qstep s q) 1 [] j out ∧ qstep s q j = none ∧ ((nx s j = q ∧ bad = false ∧ out' = out ∧ k = (j : Int) + 1) ∨ (nx s j ≠ q ∧ bad = true))))
    (fun x => ((s.length : Int) + 1 - x.1.2.1).toNat) (fun x hx => by
    obtain ⟨k, u, o, rfl, hk, ho, hN⟩ := hx
    simp only [m_spec_reader_quoted_0, cond_dec]
    split
    · rename_i h1
      have hN : u = false → Rdg (qstep s q) 1 [] k o := fun hu => by
        rcases hN hu with hN | hN
        · exact hN.2
        · omega
      obtain ⟨c, hc⟩ := get_lt (l := s) (k := k) (by omega)
      have hcl := c.toNat_lt
      have e1 : IntKind.wrap .i64 ((k : Int) + 1) = ((k + 1 : Nat) : Int) := by rw [w64 (by omega) (by omega)]; omega
      simp only [next_eq hs, bind_some, nx_some hc]
      by_cases a1 : c.toNat = q
      · rw [if_pos (by omega), e1]
        exact .inl ⟨_, rfl, o, false, u, _, .inr rfl, fun hu => ⟨k, o, hN hu, qstep_stop hc (by omega) (.inl a1), .inl ⟨by rw [nx_some hc]; exact a1, rfl, rfl, by omega⟩⟩⟩
      · rw [if_neg (by omega)]
        have bad : ∀ (x : List UInt8 × Int × Bool × Bool × Bool ⊕ (List UInt8 × Int × Bool × Bool × Bool) × List UInt8), x = .inr ((s, (k : Int), true, u, false), []) → c.toNat ≠ 92 → (c.toNat = 10 ∨ c.toNat = 13 ∨ c.toNat = 12) → ∃ (out' : List UInt8) (bad u : Bool) (k : Int), ((∃ b, x = .inl (s, k, b, u, false) ∧ bad = true ∧ out' = []) ∨ x = .inr ((s, k, bad, u, false), out')) ∧ (u = false → ∃ (j : Nat) (out : List UInt8), Rdg (qstep s q) 1 [] j out ∧ qstep s q j = none ∧ ((nx s j = q ∧ bad = false ∧ out' = out ∧ k = (j : Int) + 1) ∨ (nx s j ≠ q ∧ bad = true))) := fun x hx h92 hb =>
          ⟨[], true, u, _, .inr hx, fun hu => ⟨k, o, hN hu, qstep_stop hc h92 (.inr hb), .inr ⟨by rw [nx_some hc]; exact a1, rfl⟩⟩⟩
        by_cases a2 : c.toNat = 10
        · rw [if_pos (by omega)]
          exact .inl ⟨_, rfl, bad _ rfl (by omega) (.inl a2)⟩
        · rw [if_neg (by omega)]
          by_cases a3 : c.toNat = 13
          · rw [if_pos (by omega)]
            exact .inl ⟨_, rfl, bad _ rfl (by omega) (.inr (.inl a3))⟩
          · rw [if_neg (by omega)]
            by_cases a4 : c.toNat = 12
            · rw [if_pos (by omega)]
              exact .inl ⟨_, rfl, bad _ rfl (by omega) (.inr (.inr a4))⟩
            · rw [if_neg (by omega)]
              by_cases a5 : c.toNat = 92
              · rw [if_neg (by omega), ef_eq hs k _ (by omega), bind_some]
                cases he : ef s k with
                | true =>
                  obtain ⟨out, j, u', g1, g2, g3, g4, g5⟩ := esc_Rdg hs (qstep_hi (q := q) (by omega)) he (qstep_esc hc a5 he) false u false o
                  simp only [cond_true]
                  rw [g1, bind_some]
                  simp only
                  rw [catS_some (by omega), bind_some]
                  refine .inr ⟨_, rfl, ⟨j, u', o ++ out, rfl, by omega, by rw [List.length_append]; omega, fun hu => .inl ⟨g4, (hN (g2 hu).1).trans (g2 hu).2⟩⟩, ?_, fun _ h => h⟩
                  show ((s.length : Int) + 1 - (j : Int)).toNat < ((s.length : Int) + 1 - (k : Int)).toNat
                  omega
                | false =>
                  simp only [cond_false]
                  rw [e1, taken_eq hs (k + 1) (by omega), bind_some]
                  by_cases hk1 : k + 1 < s.length
                  · have hst := qstep_line (q := q) hc a5 he hk1
                    cases hcr : crlf s (k + 1) with
                    | true =>
                      have hl := crlf_lt hcr
                      rw [hcr] at hst
                      simp only [if_true, Bool.not_true, cond_false] at hst ⊢
                      refine .inr ⟨_, rfl, ⟨k + 3, u, o, by congr, by omega, by omega, fun hu => .inl ⟨by omega, ?_⟩⟩, ?_, fun _ h => h⟩
                      · have := (hN hu).trans (.one hst)
                        rwa [List.append_nil] at this
                      · show ((s.length : Int) + 1 - ((k + 1 + 2 : Nat) : Int)).toNat < ((s.length : Int) + 1 - (k : Int)).toNat
                        omega
                    | false =>
                      rw [hcr] at hst
                      simp only [Bool.false_eq_true, if_false, Bool.not_false, cond_true] at hst ⊢
                      have e2 : IntKind.wrap .i64 (((k + 1 : Nat) : Int) + 1) = ((k + 2 : Nat) : Int) := by rw [w64 (by omega) (by omega)]; omega
                      rw [e2]
                      refine .inr ⟨_, rfl, ⟨k + 2, u, o, rfl, by omega, by omega, fun hu => .inl ⟨by omega, ?_⟩⟩, ?_, fun _ h => h⟩
                      · have := (hN hu).trans (.one hst)
                        rwa [List.append_nil] at this
                      · show ((s.length : Int) + 1 - ((k + 2 : Nat) : Int)).toNat < ((s.length : Int) + 1 - (k : Int)).toNat
                        omega
                  · have hcr : crlf s (k + 1) = false := by
                      cases h : crlf s (k + 1) with
                      | false => rfl
                      | true => have := crlf_lt h; omega
                    rw [hcr]
                    simp only [Bool.false_eq_true, if_false, Bool.not_false, cond_true]
                    have e2 : IntKind.wrap .i64 (((k + 1 : Nat) : Int) + 1) = ((k + 2 : Nat) : Int) := by rw [w64 (by omega) (by omega)]; omega
                    rw [e2]
                    refine .inr ⟨_, rfl, ⟨k + 2, u, o, rfl, by omega, by omega, fun hu => .inr ⟨by omega, k, o, hN hu, qstep_cut hc a5 he hk1, by rw [nx_some hc]; omega⟩⟩, ?_, fun _ h => h⟩
                    show ((s.length : Int) + 1 - ((k + 2 : Nat) : Int)).toNat < ((s.length : Int) + 1 - (k : Int)).toNat
                    omega
              · rw [if_pos (by omega), e1, show ((k + 1 : Nat) : Int) = (k : Int) + 1 by omega, sub_one hc, bind_some, catS_some (by simp; omega), bind_some]
                refine .inr ⟨_, rfl, ⟨k + 1, u, o ++ [c], rfl, by omega, by simp; omega, fun hu => .inl ⟨by omega, (hN hu).trans (.one (qstep_one hc a5 (by omega)))⟩⟩, ?_, fun _ h => h⟩
                show ((s.length : Int) + 1 - ((k : Int) + 1)).toNat < ((s.length : Int) + 1 - (k : Int)).toNat
                omega
    · rename_i h1
      refine .inl ⟨_, rfl, [], true, u, _, .inl ⟨_, rfl, rfl, rfl⟩, fun hu => ?_⟩
      rcases hN hu with ⟨g1, g2⟩ | ⟨g1, j, o', g2, g3, g4⟩
      · have hz : nx s k = 0 := by rw [nx, List.getElem?_eq_none (by omega)]
        exact ⟨k, o, g2, qstep_end (by omega), .inr ⟨by omega, rfl⟩⟩
      · exact ⟨j, o', g2, g3, .inr ⟨g4, rfl⟩⟩) ((s, ((1 : Nat) : Int), false, false, false), (q : Int), []) ⟨1, false, [], rfl, by omega, by simp, fun _ => by
      by_cases hl : 1 ≤ s.length
      · exact .inl ⟨hl, .refl⟩
      · have : nx s 0 = 0 := by rw [nx, List.getElem?_eq_none (by omega)]
        omega⟩
  obtain ⟨out', bad, u, k, hy, hq2⟩ := qq
  refine ⟨out', bad, u, k, ?_, hq2⟩
  simp only [m_spec_reader_quoted]
  rw [show m_spec_reader_next (s, (0 : Int), false, false, false) = _ from next_eq hs 0, bind_some, h0]
  rw [show IntKind.wrap .i64 ((0 : Int) + 1) = ((1 : Nat) : Int) from by rw [w64 (by omega) (by omega)]; rfl]
  rw [h, bind_some]
  rcases hy with ⟨b, rfl, rfl, rfl⟩ | rfl <;> rfl
/-! The implementation -/
theorem chunkS_eq (hs : s.length ≤ 1000) (hq : q < 128) (pi dp : Int) (ac : Bool) (o : List UInt8) (st : Nat) (hst : st ≤ s.length) : ∃ j : Nat, loopO m_cascadia_parser_parseString_0_0 ((s, pi, dp, ac), o, (st : Int), (q : Int), (st : Int)) = some ((s, pi, dp, ac), o, (j : Int), (q : Int), (st : Int)) ∧ st ≤ j ∧ j ≤ s.length ∧ (∀ c, s[st]? = some c → c.toNat ≠ 92 → ¬ (c.toNat = q ∨ c.toNat = 10 ∨ c.toNat = 13 ∨ c.toNat = 12) → st < j) ∧ ∀ o', Rdg (qstep s q) st o' j (o' ++ (s.take j).drop st) := by
  have key : ∀ m j, s.length - j = m → st ≤ j → j ≤ s.length → (∀ o', Rdg (qstep s q) st o' j (o' ++ (s.take j).drop st)) → ∃ j' : Nat, loopO m_cascadia_parser_parseString_0_0 ((s, pi, dp, ac), o, (j : Int), (q : Int), (st : Int)) = some ((s, pi, dp, ac), o, (j' : Int), (q : Int), (st : Int)) ∧ j ≤ j' ∧ j' ≤ s.length ∧ (∀ c, s[j]? = some c → c.toNat ≠ 92 → ¬ (c.toNat = q ∨ c.toNat = 10 ∨ c.toNat = 13 ∨ c.toNat = 12) → j < j') ∧ ∀ o', Rdg (qstep s q) st o' j' (o' ++ (s.take j').drop st) := by
    intro m
    induction m with
    | zero =>
      intro j hm h1 h2 h3
      refine ⟨j, loopO_out ?_, Nat.le_refl _, h2, fun c hc _ _ => ?_, h3⟩
      · simp only [m_cascadia_parser_parseString_0_0, cond_dec]
        rw [if_neg (by omega)]
      · have := (List.getElem?_eq_some_iff.1 hc).1
        omega
    | succ m ih =>
      intro j hm h1 h2 h3
      obtain ⟨c, hc⟩ := get_lt (l := s) (k := j) (by omega)
      by_cases hstop : c.toNat = q ∨ c.toNat = 92 ∨ c.toNat = 13 ∨ c.toNat = 10 ∨ c.toNat = 12
      · refine ⟨j, loopO_out ?_, Nat.le_refl _, h2, fun c' hc' g1 g2 => ?_, h3⟩
        · simp only [m_cascadia_parser_parseString_0_0, cond_dec, atI_nat, hc, bind_some]
          rw [if_pos (by omega)]
          by_cases a1 : c.toNat = q
          · rw [if_pos (by omega)]
          · rw [if_neg (by omega)]
            by_cases a2 : c.toNat = 92
            · rw [if_pos (by omega)]
            · rw [if_neg (by omega)]
              by_cases a3 : c.toNat = 13
              · rw [if_pos (by omega)]
              · rw [if_neg (by omega)]
                by_cases a4 : c.toNat = 10
                · rw [if_pos (by omega)]
                · rw [if_neg (by omega), if_pos (by omega)]
        · rw [hc] at hc'
          cases hc'
          omega
      · have step : m_cascadia_parser_parseString_0_0 ((s, pi, dp, ac), o, (j : Int), (q : Int), (st : Int)) = some (.nx ((s, pi, dp, ac), o, ((j + 1 : Nat) : Int), (q : Int), (st : Int))) := by
          simp only [m_cascadia_parser_parseString_0_0, cond_dec, atI_nat, hc, bind_some]
          rw [if_pos (by omega), if_neg (by omega), if_neg (by omega), if_neg (by omega), if_neg (by omega), if_neg (by omega), w64 (by omega) (by omega)]
          rfl
        obtain ⟨j', g1, g2, g3, _, g5⟩ := ih (j + 1) (by omega) (by omega) (by omega) (fun o' => by
          refine (h3 o').trans ?_
          have e : o' ++ (s.take (j + 1)).drop st = (o' ++ (s.take j).drop st) ++ [c] := by
            rw [List.take_add_one, hc, List.drop_append_of_le_length (by rw [List.length_take]; omega), List.append_assoc]
            rfl
          rw [e]
          exact .one (qstep_one hc (by omega) (by omega)))
        exact ⟨j', by rw [loopO_nx step]; exact g1, by omega, g3, fun _ _ _ _ => by omega, g5⟩
  exact key _ st rfl (Nat.le_refl _) hst fun o' => by
    rw [List.drop_of_length_le (by rw [List.length_take]; omega), List.append_nil]
    exact .refl
/-- A round of the implementation's loop at an escape. -/
noncomputable def escB (s o : List UInt8) (q k : Nat) : Option (Stp (Tup p_cascadia_parser_parseString_0) (SumT (x_cascadia_parser_parseString_0.map (·.2)))) := Option.bind (m_cascadia_parser_parseEscape (s, (k : Int), 0, false)) fun r => cond (!!r.2.1) (some (Stp.out (Sum.inr ((r.2.2.1, r.2.2.2.1, r.2.2.2.2.1, r.2.2.2.2.2), ([] : List UInt8), r.2.1)))) (Option.bind (catS o r.1) fun r_1 => some (Stp.nx ((r.2.2.1, r.2.2.2.1, r.2.2.2.2.1, r.2.2.2.2.2), r_1, r.2.2.2.1, (q : Int))))
theorem istring_eq (hs : s.length ≤ 1000) {c0 : UInt8} (h0 : s[0]? = some c0) (h1 : c0.toNat = q) (hq : q = 34 ∨ q = 39) : ∃ (j : Nat) (out : List UInt8), Rdg (qstep s q) 1 [] j out ∧ qstep s q j = none ∧ ∃ (e : Bool) (o : List UInt8) (k : Int), m_cascadia_ReadString s = some (o, k, e) ∧ ((nx s j = q ∧ e = false ∧ o = out ∧ k = (j : Int) + 1) ∨ (nx s j ≠ q ∧ e = true)) := by
  have hl0 := (List.getElem?_eq_some_iff.1 h0).1
  have e2 : IntKind.wrap .i64 ((0 : Int) + 2) = 2 := w64 (by omega) (by omega)
  have e1 : IntKind.wrap .i64 ((0 : Int) + 1) = ((1 : Nat) : Int) := by rw [w64 (by omega) (by omega)]; rfl
  simp only [m_cascadia_ReadString, m_cascadia_parser_parseString, m_errors_New, bind_some, cond_dec, e2, e1, atI_zero, h0]
  by_cases hlen : s.length < 2
  · rw [if_pos (by omega), bind_some]
    have hz : nx s 1 = 0 := by rw [nx, List.getElem?_eq_none (by omega)]
    exact ⟨1, [], .refl, qstep_end (by omega), _, _, _, rfl, .inr ⟨by omega, rfl⟩⟩
  rw [if_neg (by omega), h1]
  obtain ⟨y, h, j, out, g1, g2, g3⟩ := loopO_rule (body := m_cascadia_parser_parseString_0) (fun x => ∃ (k : Nat) (pi : Int) (o : List UInt8), x = ((s, pi, 0, false), o, (k : Int), (q : Int)) ∧ k ≤ s.length ∧ o.length ≤ 4 * k ∧ Rdg (qstep s q) 1 [] k o)
    (fun _ y => ∃ (j : Nat) (out : List UInt8), Rdg (qstep s q) 1 [] j out ∧ qstep s q j = none ∧ ((∃ pi, y = .inl ((s, pi, 0, false), out, (j : Int)) ∧ j ≤ s.length ∧ (nx s j = q ∨ s.length ≤ j)) ∨ (∃ p w, y = .inr (p, w, true) ∧ nx s j ≠ q)))
    (fun x => ((s.length : Int) - x.2.2.1).toNat) (fun x hx => by
    obtain ⟨k, pi, o, rfl, hk, ho, hN⟩ := hx
    simp only [m_cascadia_parser_parseString_0, cond_dec]
    split
    · rename_i g1
      obtain ⟨c, hc⟩ := get_lt (l := s) (k := k) (by omega)
      have f1 : IntKind.wrap .i64 ((k : Int) + 1) = ((k + 1 : Nat) : Int) := by rw [w64 (by omega) (by omega)]; omega
      have f2 : IntKind.wrap .i64 ((k : Int) + 2) = ((k + 2 : Nat) : Int) := by rw [w64 (by omega) (by omega)]; omega
      have f3 : IntKind.wrap .i64 ((k : Int) + 3) = ((k + 3 : Nat) : Int) := by rw [w64 (by omega) (by omega)]; omega
      simp only [atI_nat, hc, bind_some, f1, f2, f3, m_errors_New]
      by_cases a5 : c.toNat = 92
      · rw [if_pos (by omega)]
        -- the escape
        have esc : ef s k = true → (∃ b, escB s o q k = some (.out b) ∧ ∃ (j : Nat) (out : List UInt8), Rdg (qstep s q) 1 [] j out ∧ qstep s q j = none ∧ ((∃ pi, b = Sum.inl ((s, pi, 0, false), out, (j : Int)) ∧ j ≤ s.length ∧ (nx s j = q ∨ s.length ≤ j)) ∨ (∃ p w, b = .inr (p, w, true) ∧ nx s j ≠ q))) ∨ (∃ y, escB s o q k = some (.nx y) ∧ (∃ (k : Nat) (pi : Int) (o : List UInt8), y = ((s, pi, 0, false), o, (k : Int), (q : Int)) ∧ k ≤ s.length ∧ o.length ≤ 4 * k ∧ Rdg (qstep s q) 1 [] k o) ∧ ((s.length : Int) - y.2.2.1).toNat < ((s.length : Int) - (k : Int)).toNat) := fun he => by
          obtain ⟨out, j, g1, g2, g3, g4, g5⟩ := iesc_Rdg hs (qstep_hi (q := q) (by omega)) he (qstep_esc hc a5 he) 0 false o
          have hcat : catS o out = some (o ++ out) := catS_some (by omega)
          refine .inr ⟨((s, (j : Int), 0, false), o ++ out, (j : Int), (q : Int)), ?_, ⟨j, (j : Int), o ++ out, rfl, g4, by rw [List.length_append]; omega, hN.trans g2⟩, by show ((s.length : Int) - (j : Int)).toNat < ((s.length : Int) - (k : Int)).toNat; omega⟩
          rw [escB, g1, bind_some]
          simp only [Bool.not_false, Bool.not_true, cond_false]
          rw [hcat, bind_some]
        by_cases b1 : k + 1 < s.length
        · rw [if_pos (by omega)]
          obtain ⟨d, hd⟩ := get_lt (l := s) (k := k + 1) (by omega)
          rw [hd, bind_some]
          have nef : d.toNat = 13 ∨ d.toNat = 10 ∨ d.toNat = 12 → ef s k = false := fun h => by
            unfold ef
            rw [nx_some hd]
            simp
            omega
          have goOn : ∀ (j : Nat), qstep s q k = some (j, []) → k < j → j ≤ s.length → (∃ (k : Nat) (pi' : Int) (o' : List UInt8), ((s, pi, (0 : Int), false), o, (j : Int), (q : Int)) = ((s, pi', (0 : Int), false), o', (k : Int), (q : Int)) ∧ k ≤ s.length ∧ o'.length ≤ 4 * k ∧ Rdg (qstep s q) 1 [] k o') ∧ ((s.length : Int) - (j : Int)).toNat < ((s.length : Int) - (k : Int)).toNat := fun j hst h2 h3 => by
            have := hN.trans (.one hst)
            rw [List.append_nil] at this
            exact ⟨⟨j, pi, o, rfl, h3, by omega, this⟩, by omega⟩
          by_cases b2 : d.toNat = 13
          · rw [if_pos (by omega)]
            have hst := qstep_line (q := q) hc a5 (nef (.inl b2)) b1
            by_cases b3 : k + 2 < s.length
            · rw [if_pos (by omega)]
              obtain ⟨x, hx⟩ := get_lt (l := s) (k := k + 2) (by omega)
              rw [hx, bind_some]
              have hcr : crlf s (k + 1) = decide (x.toNat = 10) := by
                unfold crlf
                rw [nx_some hd, nx_some hx, b2]
                rw [Bool.eq_iff_iff]
                simp
              by_cases b4 : x.toNat = 10
              · rw [if_pos (by omega)]
                rw [hcr, decide_eq_true b4, if_pos rfl] at hst
                obtain ⟨q1, q2⟩ := goOn (k + 3) hst (by omega) (by omega)
                exact .inr ⟨_, rfl, q1, q2, fun _ h => h⟩
              · rw [if_neg (by omega)]
                rw [hcr, decide_eq_false b4, if_neg (by decide)] at hst
                obtain ⟨q1, q2⟩ := goOn (k + 2) hst (by omega) (by omega)
                exact .inr ⟨_, rfl, q1, q2, fun _ h => h⟩
            · rw [if_neg (by omega)]
              have hcr : crlf s (k + 1) = false := by
                cases h : crlf s (k + 1) with
                | false => rfl
                | true => have := crlf_lt h; omega
              rw [hcr, if_neg (by decide)] at hst
              obtain ⟨q1, q2⟩ := goOn (k + 2) hst (by omega) (by omega)
              exact .inr ⟨_, rfl, q1, q2, fun _ h => h⟩
          · rw [if_neg (by omega)]
            have hcr : crlf s (k + 1) = false := by
              unfold crlf
              rw [nx_some hd]
              simp [b2]
            by_cases b5 : d.toNat = 10
            · rw [if_pos (by omega)]
              have hst := qstep_line (q := q) hc a5 (nef (.inr (.inl b5))) b1
              rw [hcr, if_neg (by decide)] at hst
              obtain ⟨q1, q2⟩ := goOn (k + 2) hst (by omega) (by omega)
              exact .inr ⟨_, rfl, q1, q2, fun _ h => h⟩
            · rw [if_neg (by omega)]
              by_cases b6 : d.toNat = 12
              · rw [if_pos (by omega)]
                have hst := qstep_line (q := q) hc a5 (nef (.inr (.inr b6))) b1
                rw [hcr, if_neg (by decide)] at hst
                obtain ⟨q1, q2⟩ := goOn (k + 2) hst (by omega) (by omega)
                exact .inr ⟨_, rfl, q1, q2, fun _ h => h⟩
              · rw [if_neg (by omega)]
                have he : ef s k = true := by
                  unfold ef
                  rw [nx_some hc, nx_some hd]
                  simp [a5, b1, b2, b5, b6]
                rcases esc he with h | ⟨y, h1, h2, h3⟩
                · exact .inl h
                · exact .inr ⟨y, h1, h2, h3, fun _ h => h⟩
        · rw [if_neg (by omega)]
          have he : ef s k = false := by
            cases h : ef s k with
            | false => rfl
            | true => have := ef_lt h; omega
          rw [impl_none hs (by omega) he, bind_some]
          exact .inl ⟨_, rfl, k, o, hN, qstep_cut hc a5 he b1, .inr ⟨_, _, rfl, by rw [nx_some hc]; omega⟩⟩
      · rw [if_neg (by omega)]
        by_cases a1 : c.toNat = q
        · rw [if_pos (by omega)]
          exact .inl ⟨_, rfl, k, o, hN, qstep_stop hc a5 (.inl a1), .inl ⟨pi, rfl, hk, .inl (by rw [nx_some hc]; exact a1)⟩⟩
        · rw [if_neg (by omega)]
          have hne : nx s k ≠ q := by rw [nx_some hc]; exact a1
          by_cases a2 : c.toNat = 13
          · rw [if_pos (by omega)]
            exact .inl ⟨_, rfl, k, o, hN, qstep_stop hc a5 (.inr (.inr (.inl a2))), .inr ⟨_, _, rfl, hne⟩⟩
          · rw [if_neg (by omega)]
            by_cases a3 : c.toNat = 10
            · rw [if_pos (by omega)]
              exact .inl ⟨_, rfl, k, o, hN, qstep_stop hc a5 (.inr (.inl a3)), .inr ⟨_, _, rfl, hne⟩⟩
            · rw [if_neg (by omega)]
              by_cases a4 : c.toNat = 12
              · rw [if_pos (by omega)]
                exact .inl ⟨_, rfl, k, o, hN, qstep_stop hc a5 (.inr (.inr (.inr a4))), .inr ⟨_, _, rfl, hne⟩⟩
              · rw [if_neg (by omega)]
                obtain ⟨j, g1, g2, g3, g4, g5⟩ := chunkS_eq hs (q := q) (by omega) pi 0 false o k hk
                have g4 := g4 c hc a5 (by omega)
                rw [g1, bind_some]
                simp only
                rw [sub_nat s g2 g3, bind_some, catS_some (by rw [List.length_drop, List.length_take]; omega), bind_some]
                exact .inr ⟨_, rfl, ⟨j, pi, _, rfl, g3, by rw [List.length_append, List.length_drop, List.length_take]; omega, hN.trans (g5 o)⟩, by show ((s.length : Int) - (j : Int)).toNat < ((s.length : Int) - (k : Int)).toNat; omega, fun _ h => h⟩
    · exact .inl ⟨_, rfl, k, o, hN, qstep_end (by omega), .inl ⟨pi, rfl, hk, .inr (by omega)⟩⟩) ((s, (0 : Int), 0, false), [], ((1 : Nat) : Int), (q : Int)) ⟨1, 0, [], rfl, by omega, by simp, .refl⟩
  refine ⟨j, out, g1, g2, ?_⟩
  rw [h, bind_some]
  rcases g3 with ⟨pi, rfl, g4, g5⟩ | ⟨⟨p1, p2, p3, p4⟩, w, rfl, g5⟩
  · rw [selim_l]
    simp only
    by_cases hj : s.length ≤ j
    · rw [if_pos (by omega), bind_some]
      have hz : nx s j = 0 := by rw [nx, List.getElem?_eq_none (by omega)]
      exact ⟨_, _, _, rfl, .inr ⟨by omega, rfl⟩⟩
    · rw [if_neg (by omega), bind_some]
      rcases g5 with g5 | g5
      · exact ⟨_, _, _, rfl, .inl ⟨g5, rfl, rfl, by rw [w64 (by omega) (by omega)]⟩⟩
      · omega
  · rw [selim_r, bind_some]
    exact ⟨_, _, _, rfl, .inr ⟨g5, rfl⟩⟩
end
theorem fn_readString (s : List UInt8) : m_laws_FnReadString s = some true := by
  simp only [m_laws_FnReadString, cond_dec, not_cond]
  split
  · rfl
  · split
    · rfl
    · rename_i h1 h2
      have hs : s.length ≤ 1000 := by omega
      obtain ⟨b, hb⟩ := readable_ex hs
      simp only [m_spec_ReadString, m_impl_ReadString, cond_dec, hb, bind_some, not_cond, atI_zero]
      by_cases hn : s = []
      · rw [if_pos (by rw [hn]), if_pos (by rw [hn])]
        cases b <;> rfl
      · have hpos : 0 < s.length := List.length_pos_iff.2 hn
        obtain ⟨c, hc⟩ := get_lt (l := s) (k := 0) hpos
        have hne : ¬ s = (ByteArray.mk #[]).data.toList := hn
        rw [if_neg hne, if_neg hne]
        simp only [hc, bind_some]
        have main : ∀ q : Nat, c.toNat = q → (q = 34 ∨ q = 39) → (Option.bind (Option.bind (m_spec_reader_quoted (s, 0, false, false, false)) fun r => if r.2.2.2.2.1 = true then some (r.1, r.2.2.1, !r.2.2.2.1, false) else some (r.1, r.2.2.1, !r.2.2.2.1, b)) fun r => if r.2.2.2 = true then Option.bind (Option.bind (m_cascadia_ReadString s) fun r => if (!r.2.2) = true then some (r.1, r.2.1, true) else some ([], 0, false)) fun r_1 => cond (r_1.2.2 == r.2.2.1) (if r.2.2.1 = true then if r_1.1 = r.1 then some (decide (r_1.2.1 = r.2.1)) else some false else some true) (some false) else some true) = some true := fun q hcq hq => by
          obtain ⟨o', bad, u, k, r1, r2⟩ := quoted_eq hs (q := q) (by rw [nx_some hc]; exact hcq) hq
          rw [r1, bind_some]
          simp only
          cases u with
          | true => rfl
          | false =>
            simp only [Bool.false_eq_true, if_false, bind_some]
            cases b with
            | false => rfl
            | true =>
              obtain ⟨j, out, g1, g2, g3⟩ := r2 rfl
              obtain ⟨j2, out2, g4, g5, e, o, k2, g6, g7⟩ := istring_eq hs hc hcq hq
              obtain ⟨rfl, rfl⟩ := g1.det g2 g4 g5
              rw [g6, bind_some]
              simp only [if_true]
              rcases g3 with ⟨g3, rfl, rfl, rfl⟩ | ⟨g3, rfl⟩
              · rcases g7 with ⟨_, rfl, rfl, rfl⟩ | ⟨g7, _⟩
                · simp [bind_some]
                · exact absurd g3 g7
              · rcases g7 with ⟨g7, _⟩ | ⟨_, rfl⟩
                · exact absurd g7 g3
                · rfl
        by_cases a1 : c.toNat = 34
        · rw [if_neg (by omega), if_neg (by omega)]
          exact main 34 a1 (.inl rfl)
        · have p1 : (c.toNat : Int) ≠ 34 := by omega
          simp only [if_pos p1]
          by_cases a2 : c.toNat = 39
          · have p2 : ¬ ((c.toNat : Int) ≠ 39) := by omega
            simp only [if_neg p2]
            exact main 39 a2 (.inr rfl)
          · have p3 : (c.toNat : Int) ≠ 39 := by omega
            simp only [if_pos p3]
            cases b <;> rfl
end Go.Proofs.YtlgabeiaheoniaaDoor.V
