/-
  Plain facts and an evaluator for what a law needs.
-/
import Derived.Test.YtcbmbmfenhoflaaA4
set_option linter.unusedVariables false
set_option linter.unusedSimpArgs false
namespace Go.Proofs.Ytcbmbmfenhoflaa.V
open Go
theorem words_eqB (s : List UInt8) (hs : s.length ≤ 1000000000000) (hW : (wordsL s).length ≤ 2147483647) : m_spec_WordsOf s = some (wordsL s) := by
  simp only [m_spec_WordsOf]
  have key : ∀ m i fr out, s.length + 1 - i = m → fr ≤ i → i ≤ s.length → (∀ c ∈ (s.take i).drop fr, isSp c = false) → (out ++ wordsL (s.drop fr)).length ≤ 2147483647 → loopO m_spec_WordsOf_0 (s, out, (fr : Int), (i : Int)) = some (out ++ wordsL (s.drop fr)) := by
    intro m
    induction m with
    | zero => intro i fr out hm h1 h2; omega
    | succ m ih =>
      intro i fr out hm h1 h2 hw ho
      have hsub : subL s (fr : Int) (i : Int) = some ((s.take i).drop fr) := subL_nat' s h1 h2
      have hwl : ((s.take i).drop fr).length = i - fr := by simp; omega
      have happ : out.length + 1 ≤ 2147483648 → appL out [(s.take i).drop fr] = some (out ++ [(s.take i).drop fr]) := fun h => appL_some (by simpa using h)
      have hne : (s.take i).drop fr = [] ↔ ¬ fr < i := by rw [← List.length_eq_zero_iff, hwl]; omega
      by_cases hi : i < s.length
      · obtain ⟨c, hc⟩ := get_lt hi
        have hsplit : s.drop fr = (s.take i).drop fr ++ c :: s.drop (i + 1) := by
          have e1 : s = s.take i ++ s.drop i := (List.take_append_drop i s).symm
          have e2 : s.drop i = c :: s.drop (i + 1) := by
            obtain ⟨a1, a2⟩ := List.getElem?_eq_some_iff.1 hc
            rw [← a2]; exact List.drop_eq_getElem_cons a1
          have e3 : s.drop fr = (s.take i).drop fr ++ s.drop i := by
            conv => lhs; rw [e1]
            rw [List.drop_append_of_le_length (by simp; omega)]
          rw [e3, e2]
        cases hsp : isSp c with
        | false =>
          have step : m_spec_WordsOf_0 (s, out, (fr : Int), (i : Int)) = some (.nx (s, out, (fr : Int), ((i + 1 : Nat) : Int))) := by
            simp only [m_spec_WordsOf_0, cond_dec, atI_nat]
            rw [if_pos (by omega), if_pos (by omega), hc, bind_some, space_eq, bind_some, hsp, w64 (by omega) (by omega)]
            rfl
          rw [loopO_nx step]
          refine ih (i + 1) fr out (by omega) (by omega) (by omega) (fun d hd => ?_) ho
          rw [List.take_add_one, hc, List.drop_append_of_le_length (by simp; omega)] at hd
          simp at hd
          rcases hd with hd | rfl
          · exact hw d hd
          · exact hsp
        | true =>
          by_cases hf : fr < i
          · have ho1 := ho
            rw [hsplit, wordsL_app hw hsp, if_neg (fun e => (hne.1 e) hf)] at ho1
            have happ := happ (by simp at ho1; omega)
            have step : m_spec_WordsOf_0 (s, out, (fr : Int), (i : Int)) = some (.nx (s, out ++ [(s.take i).drop fr], ((i + 1 : Nat) : Int), ((i + 1 : Nat) : Int))) := by
              simp only [m_spec_WordsOf_0, cond_dec, atI_nat]
              rw [if_pos (by omega), if_pos (by omega), hc, bind_some, space_eq, bind_some, hsp]
              simp only [Bool.not_true, cond_false]
              rw [if_pos (by omega), hsub, bind_some, happ, bind_some, w64 (by omega) (by omega)]
              rfl
            rw [loopO_nx step, ih (i + 1) (i + 1) _ (by omega) (by omega) (by omega) (by simp) (by simpa using ho1), hsplit, wordsL_app hw hsp, if_neg (fun e => (hne.1 e) hf)]
            simp
          · have ho1 := ho
            rw [hsplit, wordsL_app hw hsp, if_pos (hne.2 hf)] at ho1
            have step : m_spec_WordsOf_0 (s, out, (fr : Int), (i : Int)) = some (.nx (s, out, ((i + 1 : Nat) : Int), ((i + 1 : Nat) : Int))) := by
              simp only [m_spec_WordsOf_0, cond_dec, atI_nat]
              rw [if_pos (by omega), if_pos (by omega), hc, bind_some, space_eq, bind_some, hsp]
              simp only [Bool.not_true, cond_false]
              rw [if_neg (by omega), w64 (by omega) (by omega)]
              rfl
            rw [loopO_nx step, ih (i + 1) (i + 1) _ (by omega) (by omega) (by omega) (by simp) (by simpa using ho1), hsplit, wordsL_app hw hsp, if_pos (hne.2 hf)]
            simp
      · obtain rfl : i = s.length := by omega
        rw [List.take_length] at hw hsub happ hne
        have out1 : ∀ o : List (List UInt8), m_spec_WordsOf_0 (s, o, ((s.length + 1 : Nat) : Int), ((s.length + 1 : Nat) : Int)) = some (.out o) := fun o => by
          simp only [m_spec_WordsOf_0, cond_dec]
          rw [if_neg (by omega)]
        by_cases hf : fr < s.length
        · have ho1 := ho
          rw [wordsL_flat hw, if_neg (fun e => (hne.1 e) hf)] at ho1
          have happ := happ (by simp at ho1; omega)
          have step : m_spec_WordsOf_0 (s, out, (fr : Int), (s.length : Int)) = some (.nx (s, out ++ [s.drop fr], ((s.length + 1 : Nat) : Int), ((s.length + 1 : Nat) : Int))) := by
            simp only [m_spec_WordsOf_0, cond_dec, atI_nat]
            rw [if_pos (by omega), if_neg (by omega), if_pos (by omega), hsub, bind_some, happ, bind_some, w64 (by omega) (by omega)]
            rfl
          rw [loopO_nx step, loopO_out (out1 _), wordsL_flat hw, if_neg (fun e => (hne.1 e) hf)]
        · have step : m_spec_WordsOf_0 (s, out, (fr : Int), (s.length : Int)) = some (.nx (s, out, ((s.length + 1 : Nat) : Int), ((s.length + 1 : Nat) : Int))) := by
            simp only [m_spec_WordsOf_0, cond_dec, atI_nat]
            rw [if_pos (by omega), if_neg (by omega), if_neg (by omega), w64 (by omega) (by omega)]
            rfl
          rw [loopO_nx step, loopO_out (out1 _), wordsL_flat hw, if_pos (hne.2 hf), List.append_nil]
  rw [show loopO m_spec_WordsOf_0 (s, [], (0 : Int), (0 : Int)) = _ from key (s.length + 1) 0 0 [] (by omega) (by omega) (by omega) (by simp) (by simpa using hW)]
  simp
theorem word_eqB (s w : List UInt8) (hs : s.length ≤ 1000000000000) (hW : (wordsL s).length ≤ 2147483647) (hw : w ≠ []) : m_spec_Word (s, w) = some (decide (w ∈ pcs s)) := by
  simp only [m_spec_Word]
  rw [words_eqB s hs hW, bind_some]
  have h := loop_all (body := m_spec_Word_0) (wordsL s) (fun p => !decide (p = w)) (fun k => (w, wordsL s, (k : Int))) (.inl ()) (.inr true) (fun k v hv => by
    have hk := (List.getElem?_eq_some_iff.1 hv).1
    simp only [m_spec_Word_0, cond_dec, atI_nat, Int.toNat_natCast]
    rw [if_pos (by omega), hv]
    simp only [bind_some]
    by_cases e : v = w
    · rw [if_pos e]; simp [e]
    · rw [if_neg e, w64 (by omega) (by omega)]; simp [e]) (by
    simp only [m_spec_Word_0, cond_dec]
    rw [if_neg (by omega)]) 0 (Nat.zero_le _)
  rw [show loopO m_spec_Word_0 (w, wordsL s, (0 : Int)) = _ from h, bind_some, List.drop_zero]
  by_cases hm : w ∈ pcs s
  · rw [if_neg, decide_eq_true hm]
    · rfl
    · rw [List.all_eq_true]
      intro hh
      have := hh w ((mem_wordsL hw).2 hm)
      simp at this
  · rw [if_pos, decide_eq_false hm]
    · rfl
    · rw [List.all_eq_true]
      intro p hp
      have : p ≠ w := fun e => hm ((mem_wordsL hw).1 (e ▸ hp))
      simp [this]
theorem printable_ex (v : List UInt8) (hl : v.length ≤ 2147483647) : ∃ b, m_spec_Printable v = some b ∧ (b = true → v ≠ [] ∧ ∀ c ∈ v, 33 ≤ c.toNat ∧ c.toNat ≤ 126) := by
  simp only [m_spec_Printable]
  obtain ⟨y, hy, q1, q2⟩ := loopO_rule (body := m_spec_Printable_0) (fun x => ∃ k : Nat, x = (v, (k : Int)) ∧ k ≤ v.length ∧ ∀ (i : Nat) (c : UInt8), i < k → v[i]? = some c → 33 ≤ c.toNat ∧ c.toNat ≤ 126) (fun _ y => (∀ z, y = .inl z → z = v ∧ ∀ (i : Nat) (c : UInt8), v[i]? = some c → 33 ≤ c.toNat ∧ c.toNat ≤ 126) ∧ ∀ b, y = .inr b → b = false) (fun x => ((v.length : Int) - x.2).toNat) (fun x hx => by
    obtain ⟨k, rfl, hk, h⟩ := hx
    simp only [m_spec_Printable_0, cond_dec, atI_nat]
    split
    · obtain ⟨c, hc⟩ := get_lt (l := v) (k := k) (by omega)
      rw [hc]
      simp only [bind_some]
      split
      · exact .inl ⟨_, rfl, (fun z h => by cases h), fun b h => by cases h; rfl⟩
      · split
        · exact .inl ⟨_, rfl, (fun z h => by cases h), fun b h => by cases h; rfl⟩
        · rw [w64 (by omega) (by omega)]
          refine .inr ⟨_, rfl, ⟨k + 1, rfl, by omega, fun i d hi hd => ?_⟩, by simp only; omega, fun _ h => h⟩
          rcases Nat.lt_succ_iff_lt_or_eq.1 hi with hi | rfl
          · exact h i d hi hd
          · rw [hc] at hd
            cases hd
            omega
    · exact .inl ⟨_, rfl, (fun z hz => by cases hz; exact ⟨rfl, fun i c hc => h i c (by have := (List.getElem?_eq_some_iff.1 hc).1; omega) hc⟩), fun b h => by cases h⟩) (v, (0 : Int)) ⟨0, rfl, Nat.zero_le _, fun i c hi => by omega⟩
  rw [hy, bind_some]
  rcases y with z | b
  · obtain ⟨rfl, hch⟩ := q1 z rfl
    simp only [selim_l, nil_byt]
    refine ⟨_, rfl, fun h => ⟨of_decide_eq_true h, fun c hc => ?_⟩⟩
    obtain ⟨i, hi⟩ := List.mem_iff_getElem?.1 hc
    exact hch i c hi
  · obtain rfl := q2 b rfl
    exact ⟨false, rfl, fun h => by cases h⟩
theorem nw_of {c : List UInt8} (h : c ≠ [] ∧ ∀ x ∈ c, 33 ≤ x.toNat ∧ x.toNat ≤ 126) (hl : c.length ≤ 40) : NW c := by
  refine ⟨h.1, fun x hx => ?_, fun x hx => ?_, hl⟩
  · have := h.2 x hx
    cases hb : isSp x with
    | false => rfl
    | true =>
      simp only [isSp, Bool.or_eq_true, decide_eq_true_eq] at hb
      omega
  · have := h.2 x hx
    omega
def joinB (l : List (List UInt8)) : List UInt8 := l.flatMap fun b => 32 :: b
theorem joinB_len {l : List (List UInt8)} (hl : ∀ c ∈ l, c.length ≤ 40) : (joinB l).length ≤ 41 * l.length := flat_le hl
theorem joinB_words : ∀ {l : List (List UInt8)}, (∀ c ∈ l, NW c) → wordsL (joinB l) = l
  | [], _ => by simp [joinB, wordsL_nil]
  | [a], h => by
    have e : joinB [a] = 32 :: a := by simp [joinB]
    rw [e, wordsL_front sp32, wordsL_one (h a (by simp)).ne (h a (by simp)).sp]
  | a :: b :: r, h => by
    have e : joinB (a :: b :: r) = 32 :: (a ++ 32 :: (joinB (b :: r)).tail) := by simp [joinB]
    have e2 : joinB (b :: r) = 32 :: (joinB (b :: r)).tail := by simp [joinB]
    have ih := joinB_words (l := b :: r) fun c hc => h c (by simp [List.mem_cons.1 hc])
    rw [e2, wordsL_front sp32] at ih
    rw [e, wordsL_front sp32, wordsL_app (h a (by simp)).sp sp32, if_neg (h a (by simp)).ne, ih]
    rfl
theorem joined7_eq (l : List (List UInt8)) (hn : l.length ≤ 2147483647) (hl : ∀ c ∈ l, c.length ≤ 40) : m_laws_joined7 l = some (joinB l) := by
  simp only [m_laws_joined7]
  have key : ∀ m k, l.length - k = m → k ≤ l.length → loopO m_laws_joined7_0 (l, joinB (l.take k), (k : Int)) = some (joinB l) := by
    intro m
    induction m with
    | zero =>
      intro k hk h1
      have : k = l.length := by omega
      subst this
      refine loopO_out ?_
      simp only [m_laws_joined7_0, cond_dec]
      rw [if_neg (by omega), List.take_length]
    | succ m ih =>
      intro k hk h1
      obtain ⟨c, hc⟩ := get_lt (l := l) (k := k) (by omega)
      have hcl := hl c (List.mem_of_getElem? hc)
      have htk : joinB (l.take (k + 1)) = joinB (l.take k) ++ 32 :: c := by rw [List.take_add_one, hc]; simp [joinB]
      have hjl := joinB_len (l := l.take k) fun d hd => hl d (List.mem_of_mem_take hd)
      rw [List.length_take] at hjl
      have step : m_laws_joined7_0 (l, joinB (l.take k), (k : Int)) = some (.nx (l, joinB (l.take (k + 1)), ((k + 1 : Nat) : Int))) := by
        simp only [m_laws_joined7_0, cond_dec, atI_nat, hc, bind_some]
        rw [if_pos (by omega), catS_ok (by simp; omega), bind_some, catS_ok (by simp; omega), bind_some, w64 (by omega) (by omega), htk]
        rfl
      rw [loopO_nx step, ih (k + 1) (by omega) (by omega)]
  have h0 := key l.length 0 (by omega) (Nat.zero_le _)
  rw [List.take_zero] at h0
  rw [show loopO m_laws_joined7_0 (l, [], (0 : Int)) = _ from h0]
  rfl
structure C7 (l : List (List UInt8)) : Prop where
  pos : l ≠ []
  len : l.length ≤ 8
  nw : ∀ c ∈ l, NW c
  nd : l.Nodup
theorem classes7_ex (l : List (List UInt8)) (hn : l.length ≤ 2147483647) (hl : ∀ c ∈ l, c.length ≤ 2147483647) : ∃ b, m_laws_classes7 l = some b ∧ (b = true → C7 l) := by
  simp only [m_laws_classes7]
  obtain ⟨y, hy, q1, q2⟩ := loopO_rule (body := m_laws_classes7_0) (fun x => ∃ k : Nat, x = (l, (k : Int)) ∧ k ≤ l.length ∧ (∀ (i : Nat) (c : List UInt8), i < k → l[i]? = some c → NW c ∧ c ∉ l.take i)) (fun _ y => (∀ z, y = .inl z → z = l ∧ ∀ (i : Nat) (c : List UInt8), l[i]? = some c → NW c ∧ c ∉ l.take i) ∧ ∀ b, y = .inr b → b = false) (fun x => ((l.length : Int) - x.2).toNat) (fun x hx => by
    obtain ⟨k, rfl, hk, h⟩ := hx
    simp only [m_laws_classes7_0, cond_dec, atI_nat]
    split
    · obtain ⟨c, hc⟩ := get_lt (l := l) (k := k) (by omega)
      have hcl := hl c (List.mem_of_getElem? hc)
      obtain ⟨b, hb, hb'⟩ := printable_ex c hcl
      rw [hc]
      simp only [bind_some, hb]
      cases b
      · exact .inl ⟨_, rfl, (fun z h => by cases h), fun b h => by cases h; rfl⟩
      · simp only [Bool.not_true, cond_false]
        split
        · exact .inl ⟨_, rfl, (fun z h => by cases h), fun b h => by cases h; rfl⟩
        · have hw := nw_of (hb' rfl) (by omega)
          have hall : ∀ d ∈ l.take k, NW d := fun d hd => by
            obtain ⟨i, hi⟩ := List.mem_iff_getElem?.1 hd
            rw [List.getElem?_take] at hi
            split at hi
            · rename_i hik
              exact (h i d hik hi).1
            · cases hi
          have hsub : subL l (0 : Int) (k : Int) = some (l.take k) := by
            have := subL_n l (lo := 0) (hi := k) (Nat.zero_le _) hk
            rw [show ((0 : Nat) : Int) = 0 from rfl] at this
            rw [this, List.drop_zero]
          have htl : (l.take k).length ≤ 2147483647 := by rw [List.length_take]; omega
          have hjl := joinB_len (l := l.take k) fun d hd => (hall d hd).len
          rw [hsub, bind_some, joined7_eq _ htl (fun d hd => (hall d hd).len), bind_some, word_eqB _ _ (by omega) (by rw [joinB_words hall]; exact htl) hw.ne, bind_some]
          by_cases hm : c ∈ l.take k
          · have : c ∈ pcs (joinB (l.take k)) := by rw [← mem_wordsL hw.ne, joinB_words hall]; exact hm
            rw [decide_eq_true this]
            exact .inl ⟨_, rfl, (fun z h => by cases h), fun b h => by cases h; rfl⟩
          · have : ¬ c ∈ pcs (joinB (l.take k)) := by rw [← mem_wordsL hw.ne, joinB_words hall]; exact hm
            rw [decide_eq_false this]
            simp only [cond_false]
            rw [w64 (by omega) (by omega)]
            refine .inr ⟨_, rfl, ⟨k + 1, rfl, by omega, fun i d hi hd => ?_⟩, by simp only; omega, fun _ h => h⟩
            rcases Nat.lt_succ_iff_lt_or_eq.1 hi with hi | rfl
            · exact h i d hi hd
            · rw [hc] at hd
              cases hd
              exact ⟨hw, hm⟩
    · exact .inl ⟨_, rfl, (fun z hz => by cases hz; exact ⟨rfl, fun i c hc => h i c (by have := (List.getElem?_eq_some_iff.1 hc).1; omega) hc⟩), fun b h => by cases h⟩) (l, (0 : Int)) ⟨0, rfl, Nat.zero_le _, fun i c hi => by omega⟩
  rw [hy, bind_some]
  rcases y with z | b
  · obtain ⟨rfl, hch⟩ := q1 z rfl
    simp only [selim_l, cond_dec]
    split
    · rename_i hp
      refine ⟨_, rfl, fun h => ⟨?_, ?_, fun c hc => ?_, nodup_take fun i w hw => (hch i w hw).2⟩⟩
      · intro e; rw [e] at hp; simp at hp
      · have := of_decide_eq_true h; omega
      · obtain ⟨i, hi⟩ := List.mem_iff_getElem?.1 hc
        exact (hch i c hi).1
    · exact ⟨false, rfl, fun h => by cases h⟩
  · obtain rfl := q2 b rfl
    exact ⟨false, rfl, fun h => by cases h⟩
theorem zz8_ex (l : List (List UInt8)) : ∃ b, m_laws_zzFits8 l = some b ∧ (b = true → l.length ≤ 2147483647 ∧ ∀ c ∈ l, c.length ≤ 2147483647) := by
  simp only [m_laws_zzFits8, cond_dec]
  split
  · exact ⟨false, rfl, fun h => by cases h⟩
  · rename_i hn
    obtain ⟨y, hy, q1, q2⟩ := loopO_rule (body := m_laws_zzFits8_0) (fun x => ∃ k : Nat, x = (l, (l.length : Int), (k : Int)) ∧ k ≤ l.length ∧ ∀ (i : Nat) (c : List UInt8), i < k → l[i]? = some c → c.length ≤ 2147483647) (fun _ y => (y = .inl () → ∀ (i : Nat) (c : List UInt8), l[i]? = some c → c.length ≤ 2147483647) ∧ ∀ b, y = .inr b → b = false) (fun x => ((l.length : Int) - x.2.2).toNat) (fun x hx => by
      obtain ⟨k, rfl, hk, h⟩ := hx
      simp only [m_laws_zzFits8_0, cond_dec, atI_nat]
      split
      · obtain ⟨c, hc⟩ := get_lt (l := l) (k := k) (by omega)
        rw [hc]
        simp only [bind_some]
        split
        · exact .inl ⟨_, rfl, (fun h => by cases h), fun b h => by cases h; rfl⟩
        · rw [w64 (by omega) (by omega)]
          refine .inr ⟨_, rfl, ⟨k + 1, rfl, by omega, fun i d hi hd => ?_⟩, by simp only; omega, fun _ h => h⟩
          rcases Nat.lt_succ_iff_lt_or_eq.1 hi with hi | rfl
          · exact h i d hi hd
          · rw [hc] at hd
            cases hd
            omega
      · exact .inl ⟨_, rfl, (fun _ i c hc => h i c (by have := (List.getElem?_eq_some_iff.1 hc).1; omega) hc), fun b h => by cases h⟩) (l, (l.length : Int), (0 : Int)) ⟨0, rfl, Nat.zero_le _, fun i c hi => by omega⟩
    rw [hy, bind_some]
    rcases y with u | b
    · refine ⟨true, rfl, fun _ => ⟨by omega, fun c hc => ?_⟩⟩
      obtain ⟨i, hi⟩ := List.mem_iff_getElem?.1 hc
      exact q1 rfl i c hi
    · obtain rfl := q2 b rfl
      exact ⟨false, rfl, fun h => by cases h⟩
end Go.Proofs.Ytcbmbmfenhoflaa.V
set_option linter.unusedVariables false
set_option linter.unusedSimpArgs false
namespace Go.Proofs.Ytcbmbmfenhoflaa.V
open Go Go.Proofs
abbrev p_laws_FnAttrsAdded : Pt := [(0, .lst .attr), (1, .lst .str)]
abbrev q_laws_FnAttrsAdded : Pt := [(0, .bool)]
abbrev p_laws_FnAttrsAdded_0 : Pt := [(0, .lst .attr), (1, .lst .str), (5, .str), (7, .own .str 9), (8, .int .i64)]
abbrev x_laws_FnAttrsAdded_0 : List (Xt × Pt) := [(.ex 0, [(0, .lst .attr), (1, .lst .str), (7, .own .str 9)])]
noncomputable def m_laws_FnAttrsAdded_0 : Tup p_laws_FnAttrsAdded_0 → Option (Stp (Tup p_laws_FnAttrsAdded_0) (SumT (x_laws_FnAttrsAdded_0.map (·.2)))) := fun (x : List Attr × List (List UInt8) × List UInt8 × List (List UInt8) × Int) => bif decide (x.2.2.2.2 < (↑(List.length x.2.1) : Int)) then Option.bind (atI x.2.1 x.2.2.2.2) fun (v : List UInt8) => Option.bind (m_spec_Word (x.2.2.1, v)) fun (r : Bool) => bif !r then Option.bind (atI x.2.1 x.2.2.2.2) fun (v : List UInt8) => Option.bind (appL x.2.2.2.1 [v]) fun (r : List (List UInt8)) => some (Stp.nx (x.1, x.2.1, x.2.2.1, r, IntKind.wrap .i64 (x.2.2.2.2 + (1 : Int)))) else some (Stp.nx (x.1, x.2.1, x.2.2.1, x.2.2.2.1, IntKind.wrap .i64 (x.2.2.2.2 + (1 : Int)))) else some (Stp.out (x.1, x.2.1, x.2.2.2.1))
noncomputable def m_laws_FnAttrsAdded : Tup p_laws_FnAttrsAdded → Option (Tup q_laws_FnAttrsAdded) := fun (x : List Attr × List (List UInt8)) => Option.bind (m_laws_zzFits3 x.1) fun (r : Bool) => bif !r then some true else Option.bind (m_laws_zzFits8 x.2) fun (r : Bool) => bif !r then some true else Option.bind (m_laws_attrs7 x.1) fun (r : Bool) => bif !r then some true else Option.bind (m_laws_classes7 x.2) fun (r : Bool) => bif !r then some true else Option.bind (m_laws_val7 (x.1, [(99 : UInt8), (108 : UInt8), (97 : UInt8), (115 : UInt8), (115 : UInt8)])) fun (r : List UInt8 × Bool) => Option.bind (m_spec_Words r.1) fun (r_1 : List (List UInt8)) => Option.bind (loopO m_laws_FnAttrsAdded_0 (x.1, x.2, r.1, r_1, (0 : Int))) fun (y : List Attr × List (List UInt8) × List (List UInt8)) => Option.bind (m_impl_AttrsAdded_f (y.1, y.2.1)) fun (r : List Attr) => Option.bind (m_laws_classed7 (r, y.2.2)) fun (r_2 : Bool) => bif r_2 then Option.bind (m_laws_others7same (y.1, r, [(99 : UInt8), (108 : UInt8), (97 : UInt8), (115 : UInt8), (115 : UInt8)])) fun (r_3 : Bool) => bif r_3 then Option.bind (m_impl_AttrsAdded_f (r, y.2.1)) fun (r : List Attr) => Option.bind (m_laws_classed7 (r, y.2.2)) fun (r : Bool) => some r else some false else some false
noncomputable def cx_laws_FnAttrsAdded : Cx := ⟨tb, lookE [(11, e_laws_zzFits3), (12, e_laws_zzFits8), (13, e_laws_attrs7), (14, e_laws_classes7), (15, e_laws_val7), (16, e_spec_Words), (17, e_spec_Word), (18, e_impl_AttrsAdded_f), (19, e_laws_classed7), (20, e_laws_others7same)], lookS []⟩
theorem ck_laws_FnAttrsAdded : CxOK Try.prog (cx_laws_FnAttrsAdded) := cx_ok tb_ok (.cons ok_laws_zzFits3 Try.call11 (.cons ok_laws_zzFits8 Try.call12 (.cons ok_laws_attrs7 Try.call13 (.cons ok_laws_classes7 Try.call14 (.cons ok_laws_val7 Try.call15 (.cons ok_spec_Words Try.call16 (.cons ok_spec_Word Try.call17 (.cons ok_impl_AttrsAdded_f Try.call18 (.cons ok_laws_classed7 Try.call19 (.cons ok_laws_others7same Try.call20 .nil))))))))))
noncomputable def c_laws_FnAttrsAdded_0 : Code := loopAt (Go.Proofs.Try.f4.body.getD .skip) 0
noncomputable def l_laws_FnAttrsAdded_0 : LEnt := ⟨p_laws_FnAttrsAdded_0, x_laws_FnAttrsAdded_0, loopO (m_laws_FnAttrsAdded_0)⟩
theorem lo_laws_FnAttrsAdded_0 : LOK Try.prog 71 0 false (l_laws_FnAttrsAdded_0) c_laws_FnAttrsAdded_0 := loop_ok (body := m_laws_FnAttrsAdded_0) (L := lookL []) (ck_laws_FnAttrsAdded) mixed (ls_ok (l := []) (by kernel_rfl) .nil) (by intro x; kernel_rfl) (fun x y h => loopO_iff.1 h)
noncomputable def e_laws_FnAttrsAdded : Ent := ⟨0, p_laws_FnAttrsAdded, q_laws_FnAttrsAdded, m_laws_FnAttrsAdded⟩
theorem ok_laws_FnAttrsAdded : FnOK Try.prog 4 e_laws_FnAttrsAdded := fn_ok (L := lookL [(0, l_laws_FnAttrsAdded_0)]) ck_laws_FnAttrsAdded mixed Try.func4 rfl (by kernel_rfl) (by kernel_rfl) (ls_ok (l := [(0, c_laws_FnAttrsAdded_0)]) (by kernel_rfl) (.cons rfl (lo_laws_FnAttrsAdded_0) .nil)) (by intro x; kernel_rfl)
end Go.Proofs.Ytcbmbmfenhoflaa.V
set_option linter.unusedVariables false
set_option linter.unusedSimpArgs false
namespace Go.Proofs.Ytcbmbmfenhoflaa.V
open Go
theorem addW_eq : ∀ {cs ws : List (List UInt8)}, cs.Nodup → addW ws cs = ws ++ cs.filter fun c => !decide (c ∈ ws)
  | [], ws, _ => by simp [addW]
  | c :: cs, ws, h => by
    rw [List.nodup_cons] at h
    rw [addW]
    by_cases hc : c ∈ ws
    · rw [if_pos hc, addW_eq h.2, List.filter_cons, if_neg (by simp [hc])]
    · rw [if_neg hc, addW_eq h.2, List.filter_cons, if_pos (by simp [hc]), List.append_assoc]
      congr 1
      rw [List.singleton_append]
      congr 1
      refine List.filter_congr fun x hx => ?_
      have : x ≠ c := fun e => h.1 (e ▸ hx)
      simp [this]
theorem addW_all : ∀ {cs ws : List (List UInt8)}, (∀ c ∈ cs, c ∈ ws) → addW ws cs = ws
  | [], _, _ => rfl
  | c :: cs, ws, h => by rw [addW, if_pos (h c (by simp)), addW_all fun d hd => h d (by simp [hd])]
theorem addW_sub : ∀ {cs ws : List (List UInt8)}, (∀ c, c ∈ ws → c ∈ addW ws cs) ∧ ∀ c ∈ cs, c ∈ addW ws cs
  | [], _ => ⟨fun _ h => h, fun _ h => by cases h⟩
  | c :: cs, ws => by
    rw [addW]
    by_cases hc : c ∈ ws
    · rw [if_pos hc]
      obtain ⟨h1, h2⟩ := addW_sub (cs := cs) (ws := ws)
      refine ⟨h1, fun d hd => ?_⟩
      rcases List.mem_cons.1 hd with rfl | hd
      · exact h1 _ hc
      · exact h2 d hd
    · rw [if_neg hc]
      obtain ⟨h1, h2⟩ := addW_sub (cs := cs) (ws := ws ++ [c])
      refine ⟨fun d hd => h1 d (by simp [hd]), fun d hd => ?_⟩
      rcases List.mem_cons.1 hd with rfl | hd
      · exact h1 _ (by simp)
      · exact h2 d hd
theorem classed7_eq (out : List Attr) (t : List UInt8) (want : List (List UInt8)) (hl : out.length ≤ 1000) (ht : vl out classA = some t) (htl : t.length ≤ 2147483647) (hw : wordsL t = want) : m_laws_classed7 (out, want) = some true := by
  subst hw
  have hwl := wordsL_len t
  have hv : m_laws_val7 (out, [(99 : UInt8), (108 : UInt8), (97 : UInt8), (115 : UInt8), (115 : UInt8)]) = _ := attr_vl out classA hl
  rw [ht] at hv
  simp only [m_laws_classed7, hv, bind_some, wordsS t htl, cond_dec]
  rw [if_neg (by simp)]
  have h := loop_all (body := m_laws_classed7_0) (wordsL t) (fun _ => true) (fun k => (wordsL t, t, (k : Int))) (.inl ()) (.inr false) (fun k v hv => by
    have hk := (List.getElem?_eq_some_iff.1 hv).1
    have hm := List.mem_of_getElem? hv
    simp only [m_laws_classed7_0, cond_dec, atI_nat, hv, bind_some]
    rw [if_pos (by omega), wordS t v htl (wordsL_at hm).1, bind_some, decide_eq_true hm]
    simp only [Bool.not_true, cond_false]
    rw [w64 (by omega) (by omega)]
    rfl) (by
    simp only [m_laws_classed7_0, cond_dec]
    rw [if_neg (by omega)]) 0 (Nat.zero_le _)
  rw [show loopO m_laws_classed7_0 (wordsL t, t, (0 : Int)) = _ from h, bind_some]
  simp [selim_l]
theorem others_eq (l out : List Attr) (hl : l.length ≤ 1000) (ho : out.length ≤ 1000) (hu : ∀ (i j : Nat) (a b : Attr), i < j → l[i]? = some a → l[j]? = some b → a.key ≠ b.key) (hoth : ∀ k, k ≠ classA → vl out k = vl l k) : m_laws_others7same (l, out, classA) = some true := by
  simp only [m_laws_others7same]
  have h := loop_all (body := m_laws_others7same_0) l (fun _ => true) (fun k => (l, out, classA, (k : Int))) (.inl (l, out, classA)) (.inr false) (fun k a hv => by
    have hk := (List.getElem?_eq_some_iff.1 hv).1
    simp only [m_laws_others7same_0, cond_dec, atI_nat, hv, bind_some]
    rw [if_pos (by omega), attr_vl out a.key ho, bind_some]
    by_cases hc : a.key = classA
    · rw [if_neg (by simpa using hc), w64 (by omega) (by omega)]
      rfl
    · have hva : vl l a.key = some a.val := by
        refine vl_some (j := k) (fk_some.2 ⟨by rw [List.getElem?_map, hv]; rfl, fun i hi e => ?_⟩) hv
        rw [List.getElem?_map] at e
        obtain ⟨b, hb, hb2⟩ := Option.map_eq_some_iff.1 e
        exact hu i k b a hi hb hv hb2
      rw [if_pos (by simpa using hc), hoth _ hc, hva]
      simp only [Bool.not_true, cond_false]
      rw [if_neg (by simp), w64 (by omega) (by omega)]
      rfl) (by
    simp only [m_laws_others7same_0, cond_dec]
    rw [if_neg (by omega)]) 0 (Nat.zero_le _)
  rw [show loopO m_laws_others7same_0 (l, out, classA, (0 : Int)) = _ from h, bind_some, if_pos (by simp)]
  simp only [selim_l]
  have h2 := loop_all (body := m_laws_others7same_1) out (fun _ => true) (fun k => (l, out, classA, (k : Int))) (.inl ()) (.inr false) (fun k a hv => by
    have hk := (List.getElem?_eq_some_iff.1 hv).1
    simp only [m_laws_others7same_1, cond_dec, atI_nat, hv, bind_some]
    rw [if_pos (by omega), attr_vl l a.key hl, bind_some]
    by_cases hc : a.key = classA
    · rw [if_neg (by simpa using hc), w64 (by omega) (by omega)]
      rfl
    · have hne : vl out a.key ≠ none := by
        rw [Ne, vl_none, fk_none]
        intro h
        exact h (List.mem_map.2 ⟨a, List.mem_of_getElem? hv, rfl⟩)
      rw [hoth _ hc] at hne
      rw [if_pos (by simpa using hc)]
      cases hx : vl l a.key with
      | none => exact absurd hx hne
      | some w =>
        simp only [Bool.not_true, cond_false]
        rw [w64 (by omega) (by omega)]
        rfl) (by
    simp only [m_laws_others7same_1, cond_dec]
    rw [if_neg (by omega)]) 0 (Nat.zero_le _)
  rw [show loopO m_laws_others7same_1 (l, out, classA, (0 : Int)) = _ from h2, bind_some, if_pos (by simp)]
  rfl
theorem want_eq (l : List Attr) (cs : List (List UInt8)) (v : List UInt8) (hv : v.length ≤ 200) (h8 : cs.length ≤ 8) (hcs : ∀ c ∈ cs, NW c) : loopO m_laws_FnAttrsAdded_0 (l, cs, v, wordsL v, (0 : Int)) = some (l, cs, wordsL v ++ cs.filter fun c => !decide (c ∈ wordsL v)) := by
  have hwl := wordsL_len v
  have key : ∀ m k (out : List (List UInt8)), cs.length - k = m → k ≤ cs.length → out.length ≤ 200 + k → loopO m_laws_FnAttrsAdded_0 (l, cs, v, out, (k : Int)) = some (l, cs, out ++ (cs.drop k).filter fun c => !decide (c ∈ wordsL v)) := by
    intro m
    induction m with
    | zero =>
      intro k out hk h1 h2
      refine loopO_out ?_
      simp only [m_laws_FnAttrsAdded_0, cond_dec]
      rw [if_neg (by omega), List.drop_eq_nil_of_le (by omega)]
      simp
    | succ m ih =>
      intro k out hk h1 h2
      obtain ⟨c, hc⟩ := get_lt (l := cs) (k := k) (by omega)
      have hw := hcs c (List.mem_of_getElem? hc)
      have hword := wordS v c (by omega) hw.ne
      rw [drop_cons hc, List.filter_cons]
      by_cases hin : c ∈ wordsL v
      · rw [decide_eq_true hin] at hword
        have step : m_laws_FnAttrsAdded_0 (l, cs, v, out, (k : Int)) = some (.nx (l, cs, v, out, ((k + 1 : Nat) : Int))) := by
          simp only [m_laws_FnAttrsAdded_0, cond_dec, atI_nat, hc, bind_some, hword, Bool.not_true, cond_false]
          rw [if_pos (by omega), w64 (by omega) (by omega)]
          rfl
        rw [loopO_nx step, ih (k + 1) out (by omega) (by omega) (by omega), if_neg (by simp [hin])]
      · rw [decide_eq_false hin] at hword
        have step : m_laws_FnAttrsAdded_0 (l, cs, v, out, (k : Int)) = some (.nx (l, cs, v, out ++ [c], ((k + 1 : Nat) : Int))) := by
          simp only [m_laws_FnAttrsAdded_0, cond_dec, atI_nat, hc, bind_some, hword, Bool.not_false, cond_true]
          rw [if_pos (by omega), appL_some (by simp; omega), bind_some, w64 (by omega) (by omega)]
          rfl
        rw [loopO_nx step, ih (k + 1) (out ++ [c]) (by omega) (by omega) (by simp; omega), if_pos (by simp [hin])]
        simp
  have := key cs.length 0 (wordsL v) (by omega) (Nat.zero_le _) (by omega)
  rwa [List.drop_zero] at this
theorem class_sc {l : List Attr} (h : A7 l) : SC ((vl l classA).getD []) ∧ ((vl l classA).getD []).length ≤ 200 := by
  cases hv : vl l classA with
  | none =>
    refine ⟨⟨fun c hc => ?_, fun c hc => ?_, ?_⟩, by simp⟩
    · simp at hc
    · simp at hc
    · simp [wordsL_nil]
  | some v =>
    obtain ⟨j, a, _, ha, rfl, hk⟩ := vl_ex hv
    have := h.val j a ha
    exact ⟨this.2.2 hk, this.2.1⟩
theorem fn_attrsAdded (l : List Attr) (cs : List (List UInt8)) : m_laws_FnAttrsAdded (l, cs) = some true := by
  simp only [m_laws_FnAttrsAdded, zz3, bind_some, not_cond]
  cases hf : fits3 l
  · rfl
  simp only [Bool.false_eq_true, if_false, if_true]
  obtain ⟨b8, h8, h8'⟩ := zz8_ex cs
  rw [h8, bind_some]
  cases b8
  · rfl
  simp only [Bool.false_eq_true, if_false, if_true]
  obtain ⟨h8a, h8b⟩ := h8' rfl
  obtain ⟨b7, h7, h7'⟩ := attrs7_ex l hf
  rw [h7, bind_some]
  cases b7
  · rfl
  simp only [Bool.false_eq_true, if_false, if_true]
  have hA := h7' rfl
  obtain ⟨bc, hc, hc'⟩ := classes7_ex cs h8a h8b
  rw [hc, bind_some]
  cases bc
  · rfl
  simp only [Bool.false_eq_true, if_false, if_true]
  have hC := hc' rfl
  obtain ⟨hS, hSl⟩ := class_sc hA
  have hlen := hA.len
  have hc8 := hC.len
  have hv : ∃ b, m_laws_val7 (l, [(99 : UInt8), (108 : UInt8), (97 : UInt8), (115 : UInt8), (115 : UInt8)]) = some ((vl l classA).getD [], b) := by
    have : m_laws_val7 (l, [(99 : UInt8), (108 : UInt8), (97 : UInt8), (115 : UInt8), (115 : UInt8)]) = _ := attr_vl l classA (by omega)
    rw [this]
    cases vl l classA with
    | none => exact ⟨false, rfl⟩
    | some v => exact ⟨true, rfl⟩
  obtain ⟨bv, hv⟩ := hv
  generalize hvd : (vl l classA).getD [] = v at *
  rw [hv, bind_some]
  simp only
  rw [wordsS v (by omega), bind_some, want_eq l cs v hSl hC.len hC.nw, bind_some]
  simp only
  obtain ⟨out, t, g1, g2, g3, g4, g5, g6, g7, g8⟩ := added_eq l cs v (by omega) hvd (by omega) hS.nv hS.ff hC.pos hC.len hC.nw
  have hwt : wordsL t = wordsL v ++ cs.filter fun c => !decide (c ∈ wordsL v) := by rw [g8, addW_eq hC.nd]
  obtain ⟨out2, t2, k1, k2, k3, k4, k5, k6, k7, k8⟩ := added_eq out cs t (by omega) (by rw [g2]; rfl) (by omega) g5 g6 hC.pos hC.len hC.nw
  have hwt2 : wordsL t2 = wordsL v ++ cs.filter fun c => !decide (c ∈ wordsL v) := by
    rw [k8, addW_all (fun c hc => by rw [g8]; exact addW_sub.2 c hc), hwt]
  have ho : m_laws_others7same (l, out, [(99 : UInt8), (108 : UInt8), (97 : UInt8), (115 : UInt8), (115 : UInt8)]) = some true := others_eq l out (by omega) (by omega) hA.uniq g3
  rw [g1, bind_some, classed7_eq out t _ (by omega) g2 (by omega) hwt, bind_some]
  simp only [cond_true]
  rw [ho, bind_some]
  simp only [cond_true]
  rw [k1, bind_some, classed7_eq out2 t2 _ (by omega) k2 (by omega) hwt2]
  rfl
end Go.Proofs.Ytcbmbmfenhoflaa.V
