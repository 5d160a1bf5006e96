/-
  Escaping, by the program and by the specification; plain texts. Plain facts.
-/
import Derived.Test.YtpedmnlpccngiaaDoorPHes
set_option linter.unusedVariables false
set_option linter.unusedSimpArgs false
namespace Go.Proofs.YtpedmnlpccngiaaDoor.V
open Go

theorem wr_eq (b : Bool) (s acc : List UInt8) (h : acc.length + s.length ≤ 2147483648) : m_strings_Builder_WriteString_r ((b, ()), s, acc) = some ((s.length : Int), (), (true, ()), acc ++ s) := by
  simp only [m_strings_Builder_WriteString_r, m_strings_Builder_copyCheck, bind_some]
  rw [appL_some h, bind_some]
theorem wb_eq (b : Bool) {n : Int} {c : UInt8} (hn : byteI n = some c) (acc : List UInt8) (h : acc.length + 1 ≤ 2147483648) : m_strings_Builder_WriteByte ((b, ()), n, acc) = some ((), (true, ()), acc ++ [c]) := by
  simp only [m_strings_Builder_WriteByte, m_strings_Builder_copyCheck, bind_some, hn]
  rw [appL_some (by simpa using h), bind_some]
theorem cut_at {s : List UInt8} {i : Nat} {c : UInt8} (hc : s[i]? = some c) (h : ∀ j d, j < i → s[j]? = some d → six.contains d = false) : esc s = s.take i ++ escB c ++ esc (s.drop (i + 1)) := by
  have h1 : s = s.take i ++ c :: s.drop (i + 1) := by
    obtain ⟨h1, h2⟩ := List.getElem?_eq_some_iff.1 hc
    have := List.take_append_drop i s
    rw [List.drop_eq_getElem_cons h1, h2] at this
    exact this.symm
  have h2 : esc (s.take i) = s.take i := esc_no fun d hd => by
    obtain ⟨j, hj⟩ := List.mem_iff_getElem?.1 hd
    rw [List.getElem?_take] at hj
    split at hj
    · rename_i hji
      exact h j d hji hj
    · cases hj
  conv => lhs; rw [h1]
  rw [esc_app, h2]
  show _ ++ (escB c ++ esc _) = _
  rw [List.append_assoc]
theorem idx_cases (s : List UInt8) : (idx s = -1 ∧ esc s = s) ∨ ∃ (i : Nat) (c : UInt8), idx s = (i : Int) ∧ s[i]? = some c ∧ six.contains c = true ∧ esc s = s.take i ++ escB c ++ esc (s.drop (i + 1)) := by
  unfold idx
  cases h : s.findIdx? (fun c => six.contains c) with
  | none =>
    refine .inl ⟨rfl, esc_no fun c hc => ?_⟩
    have := List.findIdx?_eq_none_iff.1 h c hc
    simpa using this
  | some i =>
    obtain ⟨h1, h2, h3⟩ := List.findIdx?_eq_some_iff_getElem.1 h
    refine .inr ⟨i, s[i], rfl, List.getElem?_eq_getElem h1, h2, cut_at (List.getElem?_eq_getElem h1) fun j d hj hd => ?_⟩
    obtain ⟨h4, h5⟩ := List.getElem?_eq_some_iff.1 hd
    have := h3 j hj
    rw [h5] at this
    simpa using this
set_option maxHeartbeats 1000000 in
theorem escape_loop : ∀ (m : Nat) (s acc : List UInt8) (b : Bool), s.length = m → acc.length + 5 * s.length ≤ 2000000000 →
    ∃ b' s' acc', loopO m_html_escape_0 (((b, ()), ()), s, idx s, acc) = some (.inl (((b', ()), ()), s', acc')) ∧ acc' ++ s' = acc ++ esc s ∧ acc'.length + s'.length ≤ 2000000000 := by
  intro m
  induction m using Nat.strongRecOn with
  | ind m ih =>
    intro s acc b hm hb
    rcases idx_cases s with ⟨h1, h2⟩ | ⟨i, c, h1, h2, h3, h4⟩
    · refine ⟨b, s, acc, loopO_out ?_, by rw [h2], by omega⟩
      simp only [m_html_escape_0, cond_dec, h1]
      rw [if_neg (by simp)]
    · have hi := (List.getElem?_eq_some_iff.1 h2).1
      have hlen : (s.drop (i + 1)).length = s.length - (i + 1) := List.length_drop
      have htl : (s.take i).length = i := by rw [List.length_take]; omega
      have hcl := escB_len c
      have hb2 : (acc ++ s.take i ++ escB c).length + 5 * (s.drop (i + 1)).length ≤ 2000000000 := by
        rw [List.length_append, List.length_append, hlen, htl]
        omega
      obtain ⟨b', s', acc', g1, g2, g3⟩ := ih (s.drop (i + 1)).length (by omega) (s.drop (i + 1)) (acc ++ s.take i ++ escB c) true rfl hb2
      refine ⟨b', s', acc', ?_, by rw [g2, h4]; simp only [List.append_assoc], g3⟩
      have e1 : subL s (0 : Int) (i : Int) = some (s.take i) := by
        have := subL_nat' s (lo := 0) (hi := i) (by omega) (by omega)
        simpa using this
      have e2 : subL s ((i : Int) + 1) (s.length : Int) = some (s.drop (i + 1)) := by
        have := subL_nat' s (lo := i + 1) (hi := s.length) (by omega) (by omega)
        rw [List.take_length] at this
        exact this
      have hs : m_html_escape_0 (((b, ()), ()), s, idx s, acc) = some (.nx (((true, ()), ()), s.drop (i + 1), idx (s.drop (i + 1)), acc ++ s.take i ++ escB c)) := by
        simp only [m_html_escape_0, cond_dec, h1]
        rw [if_pos (by omega), e1, bind_some, wr_eq _ _ _ (by rw [htl]; omega), bind_some, atI_nat, h2, bind_some, w64 (by omega) (by omega), e2]
        simp only [bind_some, indexAny_eq]
        have hal : (acc ++ s.take i).length + 5 ≤ 2147483648 := by rw [List.length_append, htl]; omega
        simp only [six, List.contains_cons, List.contains_nil, Bool.or_false, Bool.or_eq_true, beq_iff_eq] at h3
        have fin : ∀ l : List UInt8, l.length ≤ 5 → m_strings_Builder_WriteString_r ((true, ()), l, acc ++ s.take i) = some ((l.length : Int), (), (true, ()), acc ++ s.take i ++ l) := fun l hl => wr_eq _ _ _ (by omega)
        rcases h3 with rfl | rfl | rfl | rfl | rfl | rfl
        · rw [if_pos (by decide), fin _ (by decide), bind_some, indexAny_eq]; rfl
        · rw [if_neg (by decide), if_pos (by decide), fin _ (by decide), bind_some, indexAny_eq]; rfl
        · rw [if_neg (by decide), if_neg (by decide), if_pos (by decide), fin _ (by decide), bind_some, indexAny_eq]; rfl
        · rw [if_neg (by decide), if_neg (by decide), if_neg (by decide), if_pos (by decide), fin _ (by decide), bind_some, indexAny_eq]; rfl
        · rw [if_neg (by decide), if_neg (by decide), if_neg (by decide), if_neg (by decide), if_pos (by decide), fin _ (by decide), bind_some, indexAny_eq]; rfl
        · rw [if_neg (by decide), if_neg (by decide), if_neg (by decide), if_neg (by decide), if_neg (by decide), if_pos (by decide), fin _ (by decide), bind_some, indexAny_eq]; rfl
      rw [loopO_nx hs, g1]
theorem escape_eq (s acc : List UInt8) (b : Bool) (h : acc.length + 5 * s.length ≤ 2000000000) : m_html_escape (((b, ()), ()), s, acc) = some ((), (true, ()), acc ++ esc s) := by
  obtain ⟨b', s', acc', g1, g2, g3⟩ := escape_loop s.length s acc b rfl h
  simp only [m_html_escape]
  rw [indexAny_eq, bind_some, g1, bind_some, selim_l]
  simp only
  rw [wr_eq _ _ _ (by omega), bind_some, g2]

/-! The specification -/
theorem catS_some {l m : List UInt8} (h : l.length + m.length ≤ 9223372036854775807) : catS l m = some (l ++ m) := by simp [catS, h]
set_option maxHeartbeats 1000000 in
theorem escaped_loop {s : List UInt8} (h13 : ∀ c ∈ s, c ≠ 13) (hl : s.length ≤ 4000) : ∀ (m k : Nat) (out : List UInt8), k + m = s.length → out.length + 5 * m ≤ 2000000000 → loopO m_spec_Escaped_0 (s, out, (k : Int)) = some (out ++ esc (s.drop k)) := by
  intro m
  induction m with
  | zero =>
    intro k out hk hb
    refine loopO_out ?_
    simp only [m_spec_Escaped_0, cond_dec]
    rw [if_neg (by omega), List.drop_eq_nil_of_le (by omega)]
    simp [esc]
  | succ m ih =>
    intro k out hk hb
    obtain ⟨c, hc⟩ := get_lt (l := s) (k := k) (by omega)
    have hd : s.drop k = c :: s.drop (k + 1) := by
      obtain ⟨h1, h2⟩ := List.getElem?_eq_some_iff.1 hc
      rw [← h2]
      exact List.drop_eq_getElem_cons h1
    have hc13 := h13 c (List.mem_of_getElem? hc)
    have hcl := escB_len c
    have hs : m_spec_Escaped_0 (s, out, (k : Int)) = some (.nx (s, out ++ escB c, ((k + 1 : Nat) : Int))) := by
      have e2 : subL s (k : Int) ((k : Int) + 1) = some [c] := by
        have := subL_nat' s (lo := k) (hi := k + 1) (by omega) (by omega)
        rw [show ((k + 1 : Nat) : Int) = (k : Int) + 1 by omega] at this
        rw [this]
        congr 1
        apply List.ext_getElem?
        intro j
        rw [List.getElem?_drop, List.getElem?_take]
        cases j with
        | zero => simp [hc]
        | succ j => rw [if_neg (by omega)]; simp
      have n0 : ∀ n : UInt8, ((c.toNat : Int) = (n.toNat : Int)) ↔ c = n := fun n => by
        constructor
        · intro h
          have : c.toNat = n.toNat := by exact_mod_cast h
          exact UInt8.toNat_inj.1 this
        · rintro rfl; rfl
      have n1 : ((c.toNat : Int) = 38) ↔ c = 38 := n0 38
      have n2 : ((c.toNat : Int) = 60) ↔ c = 60 := n0 60
      have n3 : ((c.toNat : Int) = 62) ↔ c = 62 := n0 62
      have n4 : ((c.toNat : Int) = 34) ↔ c = 34 := n0 34
      have n5 : ((c.toNat : Int) = 39) ↔ c = 39 := n0 39
      simp only [m_spec_Escaped_0, cond_dec]
      rw [if_pos (by omega), atI_nat, hc, bind_some, w64 (by omega) (by omega)]
      have key : ∀ l : List UInt8, l.length ≤ 5 → catS out l = some (out ++ l) := fun l hl => catS_some (by omega)
      unfold escB
      by_cases a1 : c = 38
      · rw [if_pos (n1.2 a1), if_pos a1, key _ (by simp), bind_some]; rfl
      rw [if_neg (fun h => a1 (n1.1 h)), if_neg a1]
      by_cases a2 : c = 60
      · rw [if_pos (n2.2 a2), if_neg (by rw [a2]; decide), if_pos a2, key _ (by simp), bind_some]; rfl
      rw [if_neg (fun h => a2 (n2.1 h))]
      by_cases a3 : c = 62
      · rw [if_pos (n3.2 a3), if_neg (by rw [a3]; decide), if_neg a2, if_pos a3, key _ (by simp), bind_some]; rfl
      rw [if_neg (fun h => a3 (n3.1 h))]
      by_cases a4 : c = 34
      · rw [if_pos (n4.2 a4), if_neg (by rw [a4]; decide), if_neg a2, if_neg a3, if_pos a4, key _ (by simp), bind_some]; rfl
      rw [if_neg (fun h => a4 (n4.1 h))]
      by_cases a5 : c = 39
      · rw [if_pos (n5.2 a5), if_pos a5, key _ (by simp), bind_some]; rfl
      rw [if_neg (fun h => a5 (n5.1 h)), if_neg a5, if_neg a2, if_neg a3, if_neg a4, if_neg hc13, e2, bind_some, key _ (by simp), bind_some]
      rfl
    rw [loopO_nx hs, ih (k + 1) _ (by omega) (by rw [List.length_append]; omega), hd]
    show _ = some (out ++ (escB c ++ esc _))
    rw [List.append_assoc]
theorem escaped_eq {s : List UInt8} (h13 : ∀ c ∈ s, c ≠ 13) (h : s.length ≤ 4000) : m_spec_Escaped s = some (esc s) := by
  have := escaped_loop h13 h s.length 0 [] (by omega) (by simp; omega)
  rw [List.drop_zero, List.nil_append] at this
  simp only [m_spec_Escaped]
  rw [show loopO m_spec_Escaped_0 (s, [], (0 : Int)) = _ from this, bind_some]
theorem readText_ex (s : List UInt8) (hl : s.length ≤ 2147483647) : ∃ b, m_spec_ReadText s = some b ∧ (b = true → ∀ c ∈ s, c ≠ 13) := by
  have key : ∀ (m k : Nat), k + m = s.length → (loopO m_spec_ReadText_0 (s, (k : Int)) = some (.inr false)) ∨ (loopO m_spec_ReadText_0 (s, (k : Int)) = some (.inl s) ∧ ∀ c ∈ s.drop k, c ≠ 13) := by
    intro m
    induction m with
    | zero =>
      intro k hk
      refine .inr ⟨loopO_out ?_, ?_⟩
      · simp only [m_spec_ReadText_0, cond_dec]
        rw [if_neg (by omega)]
      · rw [List.drop_eq_nil_of_le (by omega)]
        simp
    | succ m ih =>
      intro k hk
      obtain ⟨c, hc⟩ := get_lt (l := s) (k := k) (by omega)
      have hd : s.drop k = c :: s.drop (k + 1) := by
        obtain ⟨h1, h2⟩ := List.getElem?_eq_some_iff.1 hc
        rw [← h2]
        exact List.drop_eq_getElem_cons h1
      have h0 : m_spec_ReadText_0 (s, (k : Int)) = if (c.toNat : Int) = 0 then some (.out (.inr false)) else if (c.toNat : Int) = 13 then some (.out (.inr false)) else some (.nx (s, ((k + 1 : Nat) : Int))) := by
        simp only [m_spec_ReadText_0, cond_dec]
        rw [if_pos (by omega), atI_nat, hc, bind_some, bind_some, w64 (by omega) (by omega)]
        rfl
      by_cases a : (c.toNat : Int) = 0
      · rw [if_pos a] at h0
        exact .inl (loopO_out h0)
      rw [if_neg a] at h0
      by_cases a' : (c.toNat : Int) = 13
      · rw [if_pos a'] at h0
        exact .inl (loopO_out h0)
      rw [if_neg a'] at h0
      have hne : c ≠ 13 := fun e => a' (by rw [e]; rfl)
      rcases ih (k + 1) (by omega) with h | ⟨h, h'⟩
      · exact .inl (by rw [loopO_nx h0, h])
      · refine .inr ⟨by rw [loopO_nx h0, h], fun d hdm => ?_⟩
        rw [hd] at hdm
        rcases List.mem_cons.1 hdm with rfl | hdm
        · exact hne
        · exact h' d hdm
  simp only [m_spec_ReadText]
  rcases key s.length 0 (by omega) with h | ⟨h, h'⟩
  · rw [show loopO m_spec_ReadText_0 (s, (0 : Int)) = _ from h]
    exact ⟨false, rfl, fun h => by cases h⟩
  · rw [show loopO m_spec_ReadText_0 (s, (0 : Int)) = _ from h]
    rw [List.drop_zero] at h'
    refine ⟨Go.Lib.validD s, ?_, fun _ => h'⟩
    rw [bind_some, selim_l]
    simp only [m_utf8_ValidString, cond_dec]
    rw [if_pos (by show List.length s ≤ _; omega)]
    rfl
end Go.Proofs.YtpedmnlpccngiaaDoor.V
