/-
  Plain facts and an evaluator for what a law needs.
-/
import Derived.Test.YtcbmbmfenhoflaaB4
set_option linter.unusedVariables false
set_option linter.unusedSimpArgs false
namespace Go.Proofs.Ytcbmbmfenhoflaa.V
open Go
theorem words_0 : m_spec_Words_0 = m_spec_WordsOf_0 := by
  funext x
  obtain ⟨s, out, fr, i⟩ := x
  simp only [m_spec_Words_0, m_spec_WordsOf_0, cond_dec]
  split
  · split
    · cases hc : atI s i with
      | none => rfl
      | some c =>
        simp only [bind_some, space_eq]
        by_cases h1 : c.toNat = 32
        · rw [if_neg (by simp; omega)]
          have : isSp c = true := by simp [isSp, h1]
          rw [this]; rfl
        rw [if_pos (by omega)]
        by_cases h2 : c.toNat = 9
        · rw [if_neg (by simp; omega)]
          have : isSp c = true := by simp [isSp, h2]
          rw [this]; rfl
        rw [if_pos (by omega)]
        by_cases h3 : c.toNat = 10
        · rw [if_neg (by simp; omega)]
          have : isSp c = true := by simp [isSp, h3]
          rw [this]; rfl
        rw [if_pos (by omega)]
        by_cases h4 : c.toNat = 12
        · rw [if_neg (by simp; omega)]
          have : isSp c = true := by simp [isSp, h4]
          rw [this]; rfl
        rw [if_pos (by omega)]
        by_cases h5 : c.toNat = 13
        · rw [if_neg (by simp; omega)]
          have : isSp c = true := by simp [isSp, h5]
          rw [this]; rfl
        rw [if_pos (by omega)]
        have : isSp c = false := by simp [isSp, h1, h2, h3, h4, h5]
        rw [this]; rfl
    · rfl
  · rfl
theorem words_l0 : m_spec_Words_l_0 = m_spec_Words_0 := rfl
theorem wordsS (s : List UInt8) (hs : s.length ≤ 2147483647) : m_spec_Words s = some (wordsL s) := by
  have := words_eq s hs
  simp only [m_spec_WordsOf] at this
  simp only [m_spec_Words, words_0]
  exact this
theorem wordsSl (s : List UInt8) (hs : s.length ≤ 2147483647) : m_spec_Words_l s = some (wordsL s) := by
  have := wordsS s hs
  simp only [m_spec_Words] at this
  simp only [m_spec_Words_l, words_l0]
  exact this
theorem wordS (s w : List UInt8) (hs : s.length ≤ 2147483647) (hw : w ≠ []) : m_spec_Word (s, w) = some (decide (w ∈ wordsL s)) := by
  rw [word_eq s w hs hw]
  congr 1
  rw [decide_eq_decide]
  exact (mem_wordsL hw).symm
theorem isWord_eq (l : List (List UInt8)) (w : List UInt8) (hl : l.length ≤ 2147483647) : m_spec_isWord (l, w) = some (decide (w ∈ l)) := by
  simp only [m_spec_isWord]
  have h := loop_all (body := m_spec_isWord_0) l (fun p => !decide (p = w)) (fun k => (l, w, (k : Int))) (.inl ()) (.inr true) (fun k v hv => by
    have hk := (List.getElem?_eq_some_iff.1 hv).1
    simp only [m_spec_isWord_0, cond_dec, atI_nat, hv, bind_some]
    rw [if_pos (by omega)]
    by_cases e : v = w
    · rw [if_pos e]; simp [e]
    · rw [if_neg e, w64 (by omega) (by omega)]; simp [e]) (by
    simp only [m_spec_isWord_0, cond_dec]
    rw [if_neg (by omega)]) 0 (Nat.zero_le _)
  rw [show loopO m_spec_isWord_0 (l, w, (0 : Int)) = _ from h, bind_some, List.drop_zero]
  by_cases hm : w ∈ l
  · rw [if_neg, decide_eq_true hm]
    · rfl
    · rw [List.all_eq_true]
      intro hh
      have := hh w hm
      simp at this
  · rw [if_pos, decide_eq_false hm]
    · rfl
    · rw [List.all_eq_true]
      intro p hp
      have : p ≠ w := fun e => hm (e ▸ hp)
      simp [this]
structure SC (v : List UInt8) : Prop where
  nv : NV v
  ff : ∀ c ∈ v, c.toNat ≠ 12
  nd : (wordsL v).Nodup
theorem nodup_take {l : List (List UInt8)} : (∀ (i : Nat) (w : List UInt8), l[i]? = some w → w ∉ l.take i) → l.Nodup := by
  intro h
  refine List.pairwise_iff_getElem.2 fun i j hi hj hij e => ?_
  refine h j l[j] (List.getElem?_eq_getElem hj) ?_
  have h2 : (l.take j)[i]? = some l[j] := by rw [List.getElem?_take, if_pos hij, List.getElem?_eq_getElem hi, e]
  exact List.mem_of_getElem? h2
theorem simple_ex (v : List UInt8) (hl : v.length ≤ 2147483647) : ∃ b, m_spec_SimpleClass v = some b ∧ (b = true → SC v) := by
  simp only [m_spec_SimpleClass]
  obtain ⟨y, hy, q1, q2⟩ := loopO_rule (body := m_spec_SimpleClass_0) (fun x => ∃ k : Nat, x = (v, (k : Int)) ∧ k ≤ v.length ∧ ∀ (i : Nat) (c : UInt8), i < k → v[i]? = some c → c.toNat < 128 ∧ c.toNat ≠ 11 ∧ c.toNat ≠ 12) (fun _ y => (∀ z, y = .inl z → z = v ∧ ∀ (i : Nat) (c : UInt8), v[i]? = some c → c.toNat < 128 ∧ c.toNat ≠ 11 ∧ c.toNat ≠ 12) ∧ ∀ b, y = .inr b → b = false) (fun x => ((v.length : Int) - x.2).toNat) (fun x hx => by
    obtain ⟨k, rfl, hk, h⟩ := hx
    simp only [m_spec_SimpleClass_0, cond_dec, atI_nat]
    split
    · obtain ⟨c, hc⟩ := get_lt (l := v) (k := k) (by omega)
      rw [hc]
      simp only [bind_some]
      split
      · exact .inl ⟨_, rfl, (fun z h => by cases h), fun b h => by cases h; rfl⟩
      · split
        · exact .inl ⟨_, rfl, (fun z h => by cases h), fun b h => by cases h; rfl⟩
        · split
          · exact .inl ⟨_, rfl, (fun z h => by cases h), fun b h => by cases h; rfl⟩
          · rw [w64 (by omega) (by omega)]
            refine .inr ⟨_, rfl, ⟨k + 1, rfl, by omega, fun i d hi hd => ?_⟩, by simp only; omega, fun _ h => h⟩
            rcases Nat.lt_succ_iff_lt_or_eq.1 hi with hi | rfl
            · exact h i d hi hd
            · rw [hc] at hd
              cases hd
              omega
    · exact .inl ⟨_, rfl, (fun z hz => by cases hz; exact ⟨rfl, fun i c hc => h i c (by have := (List.getElem?_eq_some_iff.1 hc).1; omega) hc⟩), fun b h => by cases h⟩) (v, (0 : Int)) ⟨0, rfl, Nat.zero_le _, fun i c hi => by omega⟩
  rw [hy, bind_some]
  rcases y with z | b
  · obtain ⟨rfl, hch⟩ := q1 z rfl
    simp only [selim_l]
    rw [wordsSl z hl, bind_some]
    have hwl := wordsL_len z
    generalize hW : wordsL z = W at *
    obtain ⟨y2, hy2, r1, r2⟩ := loopO_rule (body := m_spec_SimpleClass_1) (fun x => ∃ k : Nat, x = (W, (k : Int)) ∧ k ≤ W.length ∧ ∀ (i : Nat) (w : List UInt8), i < k → W[i]? = some w → w ∉ W.take i) (fun _ y => (y = .inl () → ∀ (i : Nat) (w : List UInt8), W[i]? = some w → w ∉ W.take i) ∧ ∀ b, y = .inr b → b = false) (fun x => ((W.length : Int) - x.2).toNat) (fun x hx => by
      obtain ⟨k, rfl, hk, h⟩ := hx
      simp only [m_spec_SimpleClass_1, cond_dec, atI_nat]
      split
      · obtain ⟨w, hw⟩ := get_lt (l := W) (k := k) (by omega)
        have hsub : subL W (0 : Int) (k : Int) = some (W.take k) := by
          have := subL_n W (lo := 0) (hi := k) (Nat.zero_le _) hk
          rw [show ((0 : Nat) : Int) = 0 from rfl] at this
          rw [this, List.drop_zero]
        rw [hsub, hw]
        simp only [bind_some]
        rw [isWord_eq _ _ (by rw [List.length_take]; omega), bind_some]
        by_cases hm : w ∈ W.take k
        · rw [decide_eq_true hm]
          exact .inl ⟨_, rfl, (fun h => by cases h), fun b h => by cases h; rfl⟩
        · rw [decide_eq_false hm]
          simp only [cond_false]
          rw [w64 (by omega) (by omega)]
          refine .inr ⟨_, rfl, ⟨k + 1, rfl, by omega, fun i d hi hd => ?_⟩, by simp only; omega, fun _ h => h⟩
          rcases Nat.lt_succ_iff_lt_or_eq.1 hi with hi | rfl
          · exact h i d hi hd
          · rw [hw] at hd
            cases hd
            exact hm
      · exact .inl ⟨_, rfl, (fun _ i w hw => h i w (by have := (List.getElem?_eq_some_iff.1 hw).1; omega) hw), fun b h => by cases h⟩) (W, (0 : Int)) ⟨0, rfl, Nat.zero_le _, fun i w hi => by omega⟩
    rw [hy2, bind_some]
    rcases y2 with u | b
    · refine ⟨true, rfl, fun _ => ⟨fun c hc => ?_, fun c hc => ?_, by rw [hW]; exact nodup_take (r1 rfl)⟩⟩
      · obtain ⟨i, hi⟩ := List.mem_iff_getElem?.1 hc
        have := hch i c hi
        exact ⟨this.1, this.2.1⟩
      · obtain ⟨i, hi⟩ := List.mem_iff_getElem?.1 hc
        exact (hch i c hi).2.2
    · obtain rfl := r2 b rfl
      exact ⟨false, rfl, fun h => by cases h⟩
  · obtain rfl := q2 b rfl
    exact ⟨false, rfl, fun h => by cases h⟩
structure A7 (l : List Attr) : Prop where
  len : l.length ≤ 12
  val : ∀ (i : Nat) (a : Attr), l[i]? = some a → a.key.length ≤ 200 ∧ a.val.length ≤ 200 ∧ (a.key = classA → SC a.val)
  uniq : ∀ (i j : Nat) (a b : Attr), i < j → l[i]? = some a → l[j]? = some b → a.key ≠ b.key
theorem fits3_val {l : List Attr} (hf : fits3 l = true) {i : Nat} {a : Attr} (h : l[i]? = some a) : a.key.length ≤ 2147483647 ∧ a.val.length ≤ 2147483647 := by
  simp only [fits3, Bool.and_eq_true, decide_eq_true_eq] at hf
  have := List.all_eq_true.1 hf.2 a (List.mem_of_getElem? h)
  simpa [fits4] using this
theorem attrs7_in (l : List Attr) (hl : l.length ≤ 1000) (i : Nat) (hi : i < l.length) : ∃ y, loopO m_laws_attrs7_0_0 (l, (i : Int), (0 : Int)) = some y ∧ (∀ z, y = .inl z → z = (l, (i : Int)) ∧ ∀ (k : Nat) (a b : Attr), k < i → l[k]? = some a → l[i]? = some b → a.key ≠ b.key) ∧ ∀ b, y = .inr b → b = false := by
  obtain ⟨y, hy, q1, q2⟩ := loopO_rule (body := m_laws_attrs7_0_0) (fun x => ∃ k : Nat, x = (l, (i : Int), (k : Int)) ∧ k ≤ i ∧ ∀ (j : Nat) (a b : Attr), j < k → l[j]? = some a → l[i]? = some b → a.key ≠ b.key) (fun _ y => (∀ z, y = .inl z → z = (l, (i : Int)) ∧ ∀ (k : Nat) (a b : Attr), k < i → l[k]? = some a → l[i]? = some b → a.key ≠ b.key) ∧ ∀ b, y = .inr b → b = false) (fun x => ((i : Int) - x.2.2).toNat) (fun x hx => by
    obtain ⟨k, rfl, hk, h⟩ := hx
    simp only [m_laws_attrs7_0_0, cond_dec, atI_nat]
    split
    · obtain ⟨a, ha⟩ := get_lt (l := l) (k := k) (by omega)
      obtain ⟨b, hb⟩ := get_lt hi
      rw [ha, hb]
      simp only [bind_some]
      split
      · exact .inl ⟨_, rfl, (fun z h => by cases h), fun b h => by cases h; rfl⟩
      · rename_i hne
        rw [w64 (by omega) (by omega)]
        refine .inr ⟨_, rfl, ⟨k + 1, rfl, by omega, fun j c d hj hc hd => ?_⟩, by simp only; omega, fun _ h => h⟩
        rcases Nat.lt_succ_iff_lt_or_eq.1 hj with hj | rfl
        · exact h j c d hj hc (by rw [hb]; exact hd)
        · cases hd
          rw [ha] at hc
          cases hc
          exact hne
    · exact .inl ⟨_, rfl, (fun z hz => by cases hz; exact ⟨rfl, fun j a b hj => h j a b (by omega)⟩), fun b h => by cases h⟩) (l, (i : Int), (0 : Int)) ⟨0, rfl, Nat.zero_le _, fun j a b hj => by omega⟩
  exact ⟨y, hy, q1, q2⟩
set_option maxHeartbeats 1000000 in
theorem attrs7_ex (l : List Attr) (hf : fits3 l = true) : ∃ b, m_laws_attrs7 l = some b ∧ (b = true → A7 l) := by
  simp only [m_laws_attrs7, cond_dec]
  split
  · exact ⟨false, rfl, fun h => by cases h⟩
  · rename_i h12
    obtain ⟨y, hy, q1, q2⟩ := loopO_rule (body := m_laws_attrs7_0) (fun x => ∃ k : Nat, x = (l, (k : Int)) ∧ k ≤ l.length ∧ (∀ (i : Nat) (a : Attr), i < k → l[i]? = some a → a.key.length ≤ 200 ∧ a.val.length ≤ 200 ∧ (a.key = classA → SC a.val)) ∧ ∀ (i j : Nat) (a b : Attr), j < k → i < j → l[i]? = some a → l[j]? = some b → a.key ≠ b.key) (fun _ y => (y = .inl () → (∀ (i : Nat) (a : Attr), l[i]? = some a → a.key.length ≤ 200 ∧ a.val.length ≤ 200 ∧ (a.key = classA → SC a.val)) ∧ ∀ (i j : Nat) (a b : Attr), i < j → l[i]? = some a → l[j]? = some b → a.key ≠ b.key) ∧ ∀ b, y = .inr b → b = false) (fun x => ((l.length : Int) - x.2).toNat) (fun x hx => by
      obtain ⟨k, rfl, hk, h1, h2⟩ := hx
      have nope : ∀ (P : Prop), (Sum.inr false : Unit ⊕ Bool) = .inl () → P := fun P h => by cases h
      simp only [m_laws_attrs7_0, cond_dec, atI_nat]
      split
      · obtain ⟨a, ha⟩ := get_lt (l := l) (k := k) (by omega)
        have hav := fits3_val hf ha
        rw [ha]
        simp only [bind_some]
        split
        · exact .inl ⟨_, rfl, fun h => nope _ h, fun b h => by cases h; rfl⟩
        · rename_i hk2
          split
          · exact .inl ⟨_, rfl, fun h => nope _ h, fun b h => by cases h; rfl⟩
          · rename_i hv2
            obtain ⟨y, hy, r1, r2⟩ := attrs7_in l (by omega) k (by omega)
            have done : (a.key = classA → SC a.val) → ∀ z, y = .inl z → z = (l, (k : Int)) ∧ (∀ (i : Nat) (a : Attr), i < k + 1 → l[i]? = some a → a.key.length ≤ 200 ∧ a.val.length ≤ 200 ∧ (a.key = classA → SC a.val)) ∧ ∀ (i j : Nat) (a b : Attr), j < k + 1 → i < j → l[i]? = some a → l[j]? = some b → a.key ≠ b.key := fun hsc z hz => by
              obtain ⟨e, h3⟩ := r1 z hz
              refine ⟨e, fun i c hi hc => ?_, fun i j c d hj hij hc hd => ?_⟩
              · rcases Nat.lt_succ_iff_lt_or_eq.1 hi with hi | rfl
                · exact h1 i c hi hc
                · rw [ha] at hc
                  cases hc
                  exact ⟨by omega, by omega, hsc⟩
              · rcases Nat.lt_succ_iff_lt_or_eq.1 hj with hj | rfl
                · exact h2 i j c d hj hij hc hd
                · exact h3 i c d hij hc hd
            split
            · rename_i hcl
              obtain ⟨b, hb, hb'⟩ := simple_ex a.val (by omega)
              rw [hb, bind_some]
              cases b
              · exact .inl ⟨_, rfl, fun h => nope _ h, fun b h => by cases h; rfl⟩
              · rw [hy, bind_some]
                rcases y with z | b
                · obtain ⟨rfl, d1, d2⟩ := done (fun _ => hb' rfl) z rfl
                  simp only [selim_l]
                  rw [w64 (by omega) (by omega)]
                  exact .inr ⟨_, rfl, ⟨k + 1, rfl, by omega, d1, d2⟩, by simp only; omega, fun _ h => h⟩
                · obtain rfl := r2 b rfl
                  exact .inl ⟨_, rfl, fun h => nope _ h, fun b h => by cases h; rfl⟩
            · rename_i hcl
              rw [hy, bind_some]
              rcases y with z | b
              · obtain ⟨rfl, d1, d2⟩ := done (fun h => absurd h hcl) z rfl
                simp only [selim_l]
                rw [w64 (by omega) (by omega)]
                exact .inr ⟨_, rfl, ⟨k + 1, rfl, by omega, d1, d2⟩, by simp only; omega, fun _ h => h⟩
              · obtain rfl := r2 b rfl
                exact .inl ⟨_, rfl, fun h => nope _ h, fun b h => by cases h; rfl⟩
      · exact .inl ⟨_, rfl, (fun _ => ⟨fun i a hi => h1 i a (by have := (List.getElem?_eq_some_iff.1 hi).1; omega) hi, fun i j a b hij ha hb => h2 i j a b (by have := (List.getElem?_eq_some_iff.1 hb).1; omega) hij ha hb⟩), fun b h => by cases h⟩) (l, (0 : Int)) ⟨0, rfl, Nat.zero_le _, fun i a hi => by omega, fun i j a b hj => by omega⟩
    rw [hy, bind_some]
    rcases y with u | b
    · exact ⟨true, rfl, fun _ => ⟨by omega, (q1 rfl).1, (q1 rfl).2⟩⟩
    · obtain rfl := q2 b rfl
      exact ⟨false, rfl, fun h => by cases h⟩
end Go.Proofs.Ytcbmbmfenhoflaa.V
set_option linter.unusedVariables false
set_option linter.unusedSimpArgs false
namespace Go.Proofs.Ytcbmbmfenhoflaa.V
open Go
theorem words_eqB (s : List UInt8) (hs : s.length ≤ 1000000000000) (hW : (wordsL s).length ≤ 2147483647) : m_spec_WordsOf s = some (wordsL s) := by
  simp only [m_spec_WordsOf]
  have key : ∀ m i fr out, s.length + 1 - i = m → fr ≤ i → i ≤ s.length → (∀ c ∈ (s.take i).drop fr, isSp c = false) → (out ++ wordsL (s.drop fr)).length ≤ 2147483647 → loopO m_spec_WordsOf_0 (s, out, (fr : Int), (i : Int)) = some (out ++ wordsL (s.drop fr)) := by
    intro m
    induction m with
    | zero => intro i fr out hm h1 h2; omega
    | succ m ih =>
      intro i fr out hm h1 h2 hw ho
      have hsub : subL s (fr : Int) (i : Int) = some ((s.take i).drop fr) := subL_nat' s h1 h2
      have hwl : ((s.take i).drop fr).length = i - fr := by simp; omega
      have happ : out.length + 1 ≤ 2147483648 → appL out [(s.take i).drop fr] = some (out ++ [(s.take i).drop fr]) := fun h => appL_some (by simpa using h)
      have hne : (s.take i).drop fr = [] ↔ ¬ fr < i := by rw [← List.length_eq_zero_iff, hwl]; omega
      by_cases hi : i < s.length
      · obtain ⟨c, hc⟩ := get_lt hi
        have hsplit : s.drop fr = (s.take i).drop fr ++ c :: s.drop (i + 1) := by
          have e1 : s = s.take i ++ s.drop i := (List.take_append_drop i s).symm
          have e2 : s.drop i = c :: s.drop (i + 1) := by
            obtain ⟨a1, a2⟩ := List.getElem?_eq_some_iff.1 hc
            rw [← a2]; exact List.drop_eq_getElem_cons a1
          have e3 : s.drop fr = (s.take i).drop fr ++ s.drop i := by
            conv => lhs; rw [e1]
            rw [List.drop_append_of_le_length (by simp; omega)]
          rw [e3, e2]
        cases hsp : isSp c with
        | false =>
          have step : m_spec_WordsOf_0 (s, out, (fr : Int), (i : Int)) = some (.nx (s, out, (fr : Int), ((i + 1 : Nat) : Int))) := by
            simp only [m_spec_WordsOf_0, cond_dec, atI_nat]
            rw [if_pos (by omega), if_pos (by omega), hc, bind_some, space_eq, bind_some, hsp, w64 (by omega) (by omega)]
            rfl
          rw [loopO_nx step]
          refine ih (i + 1) fr out (by omega) (by omega) (by omega) (fun d hd => ?_) ho
          rw [List.take_add_one, hc, List.drop_append_of_le_length (by simp; omega)] at hd
          simp at hd
          rcases hd with hd | rfl
          · exact hw d hd
          · exact hsp
        | true =>
          by_cases hf : fr < i
          · have ho1 := ho
            rw [hsplit, wordsL_app hw hsp, if_neg (fun e => (hne.1 e) hf)] at ho1
            have happ := happ (by simp at ho1; omega)
            have step : m_spec_WordsOf_0 (s, out, (fr : Int), (i : Int)) = some (.nx (s, out ++ [(s.take i).drop fr], ((i + 1 : Nat) : Int), ((i + 1 : Nat) : Int))) := by
              simp only [m_spec_WordsOf_0, cond_dec, atI_nat]
              rw [if_pos (by omega), if_pos (by omega), hc, bind_some, space_eq, bind_some, hsp]
              simp only [Bool.not_true, cond_false]
              rw [if_pos (by omega), hsub, bind_some, happ, bind_some, w64 (by omega) (by omega)]
              rfl
            rw [loopO_nx step, ih (i + 1) (i + 1) _ (by omega) (by omega) (by omega) (by simp) (by simpa using ho1), hsplit, wordsL_app hw hsp, if_neg (fun e => (hne.1 e) hf)]
            simp
          · have ho1 := ho
            rw [hsplit, wordsL_app hw hsp, if_pos (hne.2 hf)] at ho1
            have step : m_spec_WordsOf_0 (s, out, (fr : Int), (i : Int)) = some (.nx (s, out, ((i + 1 : Nat) : Int), ((i + 1 : Nat) : Int))) := by
              simp only [m_spec_WordsOf_0, cond_dec, atI_nat]
              rw [if_pos (by omega), if_pos (by omega), hc, bind_some, space_eq, bind_some, hsp]
              simp only [Bool.not_true, cond_false]
              rw [if_neg (by omega), w64 (by omega) (by omega)]
              rfl
            rw [loopO_nx step, ih (i + 1) (i + 1) _ (by omega) (by omega) (by omega) (by simp) (by simpa using ho1), hsplit, wordsL_app hw hsp, if_pos (hne.2 hf)]
            simp
      · obtain rfl : i = s.length := by omega
        rw [List.take_length] at hw hsub happ hne
        have out1 : ∀ o : List (List UInt8), m_spec_WordsOf_0 (s, o, ((s.length + 1 : Nat) : Int), ((s.length + 1 : Nat) : Int)) = some (.out o) := fun o => by
          simp only [m_spec_WordsOf_0, cond_dec]
          rw [if_neg (by omega)]
        by_cases hf : fr < s.length
        · have ho1 := ho
          rw [wordsL_flat hw, if_neg (fun e => (hne.1 e) hf)] at ho1
          have happ := happ (by simp at ho1; omega)
          have step : m_spec_WordsOf_0 (s, out, (fr : Int), (s.length : Int)) = some (.nx (s, out ++ [s.drop fr], ((s.length + 1 : Nat) : Int), ((s.length + 1 : Nat) : Int))) := by
            simp only [m_spec_WordsOf_0, cond_dec, atI_nat]
            rw [if_pos (by omega), if_neg (by omega), if_pos (by omega), hsub, bind_some, happ, bind_some, w64 (by omega) (by omega)]
            rfl
          rw [loopO_nx step, loopO_out (out1 _), wordsL_flat hw, if_neg (fun e => (hne.1 e) hf)]
        · have step : m_spec_WordsOf_0 (s, out, (fr : Int), (s.length : Int)) = some (.nx (s, out, ((s.length + 1 : Nat) : Int), ((s.length + 1 : Nat) : Int))) := by
            simp only [m_spec_WordsOf_0, cond_dec, atI_nat]
            rw [if_pos (by omega), if_neg (by omega), if_neg (by omega), w64 (by omega) (by omega)]
            rfl
          rw [loopO_nx step, loopO_out (out1 _), wordsL_flat hw, if_pos (hne.2 hf), List.append_nil]
  rw [show loopO m_spec_WordsOf_0 (s, [], (0 : Int), (0 : Int)) = _ from key (s.length + 1) 0 0 [] (by omega) (by omega) (by omega) (by simp) (by simpa using hW)]
  simp
theorem word_eqB (s w : List UInt8) (hs : s.length ≤ 1000000000000) (hW : (wordsL s).length ≤ 2147483647) (hw : w ≠ []) : m_spec_Word (s, w) = some (decide (w ∈ pcs s)) := by
  simp only [m_spec_Word]
  rw [words_eqB s hs hW, bind_some]
  have h := loop_all (body := m_spec_Word_0) (wordsL s) (fun p => !decide (p = w)) (fun k => (w, wordsL s, (k : Int))) (.inl ()) (.inr true) (fun k v hv => by
    have hk := (List.getElem?_eq_some_iff.1 hv).1
    simp only [m_spec_Word_0, cond_dec, atI_nat, Int.toNat_natCast]
    rw [if_pos (by omega), hv]
    simp only [bind_some]
    by_cases e : v = w
    · rw [if_pos e]; simp [e]
    · rw [if_neg e, w64 (by omega) (by omega)]; simp [e]) (by
    simp only [m_spec_Word_0, cond_dec]
    rw [if_neg (by omega)]) 0 (Nat.zero_le _)
  rw [show loopO m_spec_Word_0 (w, wordsL s, (0 : Int)) = _ from h, bind_some, List.drop_zero]
  by_cases hm : w ∈ pcs s
  · rw [if_neg, decide_eq_true hm]
    · rfl
    · rw [List.all_eq_true]
      intro hh
      have := hh w ((mem_wordsL hw).2 hm)
      simp at this
  · rw [if_pos, decide_eq_false hm]
    · rfl
    · rw [List.all_eq_true]
      intro p hp
      have : p ≠ w := fun e => hm ((mem_wordsL hw).1 (e ▸ hp))
      simp [this]
theorem printable_ex (v : List UInt8) (hl : v.length ≤ 2147483647) : ∃ b, m_spec_Printable v = some b ∧ (b = true → v ≠ [] ∧ ∀ c ∈ v, 33 ≤ c.toNat ∧ c.toNat ≤ 126) := by
  simp only [m_spec_Printable]
  obtain ⟨y, hy, q1, q2⟩ := loopO_rule (body := m_spec_Printable_0) (fun x => ∃ k : Nat, x = (v, (k : Int)) ∧ k ≤ v.length ∧ ∀ (i : Nat) (c : UInt8), i < k → v[i]? = some c → 33 ≤ c.toNat ∧ c.toNat ≤ 126) (fun _ y => (∀ z, y = .inl z → z = v ∧ ∀ (i : Nat) (c : UInt8), v[i]? = some c → 33 ≤ c.toNat ∧ c.toNat ≤ 126) ∧ ∀ b, y = .inr b → b = false) (fun x => ((v.length : Int) - x.2).toNat) (fun x hx => by
    obtain ⟨k, rfl, hk, h⟩ := hx
    simp only [m_spec_Printable_0, cond_dec, atI_nat]
    split
    · obtain ⟨c, hc⟩ := get_lt (l := v) (k := k) (by omega)
      rw [hc]
      simp only [bind_some]
      split
      · exact .inl ⟨_, rfl, (fun z h => by cases h), fun b h => by cases h; rfl⟩
      · split
        · exact .inl ⟨_, rfl, (fun z h => by cases h), fun b h => by cases h; rfl⟩
        · rw [w64 (by omega) (by omega)]
          refine .inr ⟨_, rfl, ⟨k + 1, rfl, by omega, fun i d hi hd => ?_⟩, by simp only; omega, fun _ h => h⟩
          rcases Nat.lt_succ_iff_lt_or_eq.1 hi with hi | rfl
          · exact h i d hi hd
          · rw [hc] at hd
            cases hd
            omega
    · exact .inl ⟨_, rfl, (fun z hz => by cases hz; exact ⟨rfl, fun i c hc => h i c (by have := (List.getElem?_eq_some_iff.1 hc).1; omega) hc⟩), fun b h => by cases h⟩) (v, (0 : Int)) ⟨0, rfl, Nat.zero_le _, fun i c hi => by omega⟩
  rw [hy, bind_some]
  rcases y with z | b
  · obtain ⟨rfl, hch⟩ := q1 z rfl
    simp only [selim_l, nil_byt]
    refine ⟨_, rfl, fun h => ⟨of_decide_eq_true h, fun c hc => ?_⟩⟩
    obtain ⟨i, hi⟩ := List.mem_iff_getElem?.1 hc
    exact hch i c hi
  · obtain rfl := q2 b rfl
    exact ⟨false, rfl, fun h => by cases h⟩
theorem nw_of {c : List UInt8} (h : c ≠ [] ∧ ∀ x ∈ c, 33 ≤ x.toNat ∧ x.toNat ≤ 126) (hl : c.length ≤ 40) : NW c := by
  refine ⟨h.1, fun x hx => ?_, fun x hx => ?_, hl⟩
  · have := h.2 x hx
    cases hb : isSp x with
    | false => rfl
    | true =>
      simp only [isSp, Bool.or_eq_true, decide_eq_true_eq] at hb
      omega
  · have := h.2 x hx
    omega
def joinB (l : List (List UInt8)) : List UInt8 := l.flatMap fun b => 32 :: b
theorem joinB_len {l : List (List UInt8)} (hl : ∀ c ∈ l, c.length ≤ 40) : (joinB l).length ≤ 41 * l.length := flat_le hl
theorem joinB_words : ∀ {l : List (List UInt8)}, (∀ c ∈ l, NW c) → wordsL (joinB l) = l
  | [], _ => by simp [joinB, wordsL_nil]
  | [a], h => by
    have e : joinB [a] = 32 :: a := by simp [joinB]
    rw [e, wordsL_front sp32, wordsL_one (h a (by simp)).ne (h a (by simp)).sp]
  | a :: b :: r, h => by
    have e : joinB (a :: b :: r) = 32 :: (a ++ 32 :: (joinB (b :: r)).tail) := by simp [joinB]
    have e2 : joinB (b :: r) = 32 :: (joinB (b :: r)).tail := by simp [joinB]
    have ih := joinB_words (l := b :: r) fun c hc => h c (by simp [List.mem_cons.1 hc])
    rw [e2, wordsL_front sp32] at ih
    rw [e, wordsL_front sp32, wordsL_app (h a (by simp)).sp sp32, if_neg (h a (by simp)).ne, ih]
    rfl
theorem joined7_eq (l : List (List UInt8)) (hn : l.length ≤ 2147483647) (hl : ∀ c ∈ l, c.length ≤ 40) : m_laws_joined7 l = some (joinB l) := by
  simp only [m_laws_joined7]
  have key : ∀ m k, l.length - k = m → k ≤ l.length → loopO m_laws_joined7_0 (l, joinB (l.take k), (k : Int)) = some (joinB l) := by
    intro m
    induction m with
    | zero =>
      intro k hk h1
      have : k = l.length := by omega
      subst this
      refine loopO_out ?_
      simp only [m_laws_joined7_0, cond_dec]
      rw [if_neg (by omega), List.take_length]
    | succ m ih =>
      intro k hk h1
      obtain ⟨c, hc⟩ := get_lt (l := l) (k := k) (by omega)
      have hcl := hl c (List.mem_of_getElem? hc)
      have htk : joinB (l.take (k + 1)) = joinB (l.take k) ++ 32 :: c := by rw [List.take_add_one, hc]; simp [joinB]
      have hjl := joinB_len (l := l.take k) fun d hd => hl d (List.mem_of_mem_take hd)
      rw [List.length_take] at hjl
      have step : m_laws_joined7_0 (l, joinB (l.take k), (k : Int)) = some (.nx (l, joinB (l.take (k + 1)), ((k + 1 : Nat) : Int))) := by
        simp only [m_laws_joined7_0, cond_dec, atI_nat, hc, bind_some]
        rw [if_pos (by omega), catS_ok (by simp; omega), bind_some, catS_ok (by simp; omega), bind_some, w64 (by omega) (by omega), htk]
        rfl
      rw [loopO_nx step, ih (k + 1) (by omega) (by omega)]
  have h0 := key l.length 0 (by omega) (Nat.zero_le _)
  rw [List.take_zero] at h0
  rw [show loopO m_laws_joined7_0 (l, [], (0 : Int)) = _ from h0]
  rfl
structure C7 (l : List (List UInt8)) : Prop where
  pos : l ≠ []
  len : l.length ≤ 8
  nw : ∀ c ∈ l, NW c
  nd : l.Nodup
theorem classes7_ex (l : List (List UInt8)) (hn : l.length ≤ 2147483647) (hl : ∀ c ∈ l, c.length ≤ 2147483647) : ∃ b, m_laws_classes7 l = some b ∧ (b = true → C7 l) := by
  simp only [m_laws_classes7]
  obtain ⟨y, hy, q1, q2⟩ := loopO_rule (body := m_laws_classes7_0) (fun x => ∃ k : Nat, x = (l, (k : Int)) ∧ k ≤ l.length ∧ (∀ (i : Nat) (c : List UInt8), i < k → l[i]? = some c → NW c ∧ c ∉ l.take i)) (fun _ y => (∀ z, y = .inl z → z = l ∧ ∀ (i : Nat) (c : List UInt8), l[i]? = some c → NW c ∧ c ∉ l.take i) ∧ ∀ b, y = .inr b → b = false) (fun x => ((l.length : Int) - x.2).toNat) (fun x hx => by
    obtain ⟨k, rfl, hk, h⟩ := hx
    simp only [m_laws_classes7_0, cond_dec, atI_nat]
    split
    · obtain ⟨c, hc⟩ := get_lt (l := l) (k := k) (by omega)
      have hcl := hl c (List.mem_of_getElem? hc)
      obtain ⟨b, hb, hb'⟩ := printable_ex c hcl
      rw [hc]
      simp only [bind_some, hb]
      cases b
      · exact .inl ⟨_, rfl, (fun z h => by cases h), fun b h => by cases h; rfl⟩
      · simp only [Bool.not_true, cond_false]
        split
        · exact .inl ⟨_, rfl, (fun z h => by cases h), fun b h => by cases h; rfl⟩
        · have hw := nw_of (hb' rfl) (by omega)
          have hall : ∀ d ∈ l.take k, NW d := fun d hd => by
            obtain ⟨i, hi⟩ := List.mem_iff_getElem?.1 hd
            rw [List.getElem?_take] at hi
            split at hi
            · rename_i hik
              exact (h i d hik hi).1
            · cases hi
          have hsub : subL l (0 : Int) (k : Int) = some (l.take k) := by
            have := subL_n l (lo := 0) (hi := k) (Nat.zero_le _) hk
            rw [show ((0 : Nat) : Int) = 0 from rfl] at this
            rw [this, List.drop_zero]
          have htl : (l.take k).length ≤ 2147483647 := by rw [List.length_take]; omega
          have hjl := joinB_len (l := l.take k) fun d hd => (hall d hd).len
          rw [hsub, bind_some, joined7_eq _ htl (fun d hd => (hall d hd).len), bind_some, word_eqB _ _ (by omega) (by rw [joinB_words hall]; exact htl) hw.ne, bind_some]
          by_cases hm : c ∈ l.take k
          · have : c ∈ pcs (joinB (l.take k)) := by rw [← mem_wordsL hw.ne, joinB_words hall]; exact hm
            rw [decide_eq_true this]
            exact .inl ⟨_, rfl, (fun z h => by cases h), fun b h => by cases h; rfl⟩
          · have : ¬ c ∈ pcs (joinB (l.take k)) := by rw [← mem_wordsL hw.ne, joinB_words hall]; exact hm
            rw [decide_eq_false this]
            simp only [cond_false]
            rw [w64 (by omega) (by omega)]
            refine .inr ⟨_, rfl, ⟨k + 1, rfl, by omega, fun i d hi hd => ?_⟩, by simp only; omega, fun _ h => h⟩
            rcases Nat.lt_succ_iff_lt_or_eq.1 hi with hi | rfl
            · exact h i d hi hd
            · rw [hc] at hd
              cases hd
              exact ⟨hw, hm⟩
    · exact .inl ⟨_, rfl, (fun z hz => by cases hz; exact ⟨rfl, fun i c hc => h i c (by have := (List.getElem?_eq_some_iff.1 hc).1; omega) hc⟩), fun b h => by cases h⟩) (l, (0 : Int)) ⟨0, rfl, Nat.zero_le _, fun i c hi => by omega⟩
  rw [hy, bind_some]
  rcases y with z | b
  · obtain ⟨rfl, hch⟩ := q1 z rfl
    simp only [selim_l, cond_dec]
    split
    · rename_i hp
      refine ⟨_, rfl, fun h => ⟨?_, ?_, fun c hc => ?_, nodup_take fun i w hw => (hch i w hw).2⟩⟩
      · intro e; rw [e] at hp; simp at hp
      · have := of_decide_eq_true h; omega
      · obtain ⟨i, hi⟩ := List.mem_iff_getElem?.1 hc
        exact (hch i c hi).1
    · exact ⟨false, rfl, fun h => by cases h⟩
  · obtain rfl := q2 b rfl
    exact ⟨false, rfl, fun h => by cases h⟩
end Go.Proofs.Ytcbmbmfenhoflaa.V
set_option linter.unusedVariables false
set_option linter.unusedSimpArgs false
namespace Go.Proofs.Ytcbmbmfenhoflaa.V
open Go Go.Proofs
abbrev p_laws_FnAttrsClass : Pt := [(0, .lst .attr), (1, .str)]
abbrev q_laws_FnAttrsClass : Pt := [(0, .bool)]
noncomputable def m_laws_FnAttrsClass : Tup p_laws_FnAttrsClass → Option (Tup q_laws_FnAttrsClass) := fun (x : List Attr × List UInt8) => Option.bind (m_laws_zzFits3 x.1) fun (r : Bool) => bif !r then some true else bif decide ((2147483647 : Int) < (↑(List.length x.2) : Int)) then some true else Option.bind (m_laws_attrs7 x.1) fun (r : Bool) => bif !r then some true else Option.bind (m_laws_classes7 [x.2]) fun (r : Bool) => bif !r then some true else Option.bind (m_laws_val7 (x.1, [(99 : UInt8), (108 : UInt8), (97 : UInt8), (115 : UInt8), (115 : UInt8)])) fun (r : List UInt8 × Bool) => Option.bind (m_impl_AttrsClass_f (x.1, x.2)) fun (r_1 : Bool) => Option.bind (m_spec_Word (r.1, x.2)) fun (r : Bool) => bif r_1 == r then Option.bind (m_impl_AttrsAdded_f (x.1, [x.2])) fun (r : List Attr) => Option.bind (m_impl_AttrsClass_f (r, x.2)) fun (r : Bool) => bif r then Option.bind (m_impl_AttrsTaken_f (x.1, [x.2])) fun (r : List Attr) => Option.bind (m_impl_AttrsClass_f (r, x.2)) fun (r : Bool) => some !r else some false else some false
noncomputable def cx_laws_FnAttrsClass : Cx := ⟨tb, lookE [(11, e_laws_zzFits3), (13, e_laws_attrs7), (14, e_laws_classes7), (15, e_laws_val7), (21, e_impl_AttrsClass_f), (17, e_spec_Word), (18, e_impl_AttrsAdded_f), (22, e_impl_AttrsTaken_f)], lookS []⟩
theorem ck_laws_FnAttrsClass : CxOK Try.prog (cx_laws_FnAttrsClass) := cx_ok tb_ok (.cons ok_laws_zzFits3 Try.call11 (.cons ok_laws_attrs7 Try.call13 (.cons ok_laws_classes7 Try.call14 (.cons ok_laws_val7 Try.call15 (.cons ok_impl_AttrsClass_f Try.call21 (.cons ok_spec_Word Try.call17 (.cons ok_impl_AttrsAdded_f Try.call18 (.cons ok_impl_AttrsTaken_f Try.call22 .nil))))))))
noncomputable def e_laws_FnAttrsClass : Ent := ⟨0, p_laws_FnAttrsClass, q_laws_FnAttrsClass, m_laws_FnAttrsClass⟩
theorem ok_laws_FnAttrsClass : FnOK Try.prog 5 e_laws_FnAttrsClass := fn_ok (L := lookL []) ck_laws_FnAttrsClass mixed Try.func5 rfl (by kernel_rfl) (by kernel_rfl) (ls_ok (l := []) (by kernel_rfl) .nil) (by intro x; kernel_rfl)
end Go.Proofs.Ytcbmbmfenhoflaa.V
set_option linter.unusedVariables false
set_option linter.unusedSimpArgs false
namespace Go.Proofs.Ytcbmbmfenhoflaa.V
open Go
theorem pad_map (v : List UInt8) : (32 :: (v ++ [32])).map tr1 = 32 :: (v.map tr1 ++ [32]) := by
  have t32 : tr1 32 = 32 := by decide
  simp [t32]
theorem hasf (l : List Attr) (c : List UInt8) : m_impl_AttrsClass_f (l, c) = (m_impl_AttrsClass (l, c, [])).map fun r => r.1 := rfl
theorem class_eq (l : List Attr) (c v : List UInt8) (hl : l.length ≤ 100) (hv : (vl l classA).getD [] = v) (hvl : v.length ≤ 9000) (hnv : NV v) (h12 : ∀ x ∈ v, x.toNat ≠ 12) (hc : NW c) : m_impl_AttrsClass_f (l, c) = some (decide (c ∈ wordsL v)) := by
  have at9 : ∀ y, (EL y).attrs = y := fun _ => rfl
  have ty : (EL (l.map ha)).ty = 3 := rfl
  obtain ⟨p1, p2, p3⟩ := pad_ok hc
  have hcl := hc.len
  have hp : m_goquery_getAttributePtr ([(99 : UInt8), (108 : UInt8), (97 : UInt8), (115 : UInt8), (115 : UInt8)], some 0, [EL (l.map ha)]) = _ := ptr_eq (l.map ha) classA (by simp; omega)
  rw [fi_fk] at hp
  have hkeys : (l.map ha).map (·.key) = l.map (·.key) := by simp [ha]
  rw [hkeys] at hp
  have stop : ∀ r : Bool, m_goquery_Selection_HasClass_0 (32 :: (c ++ [32]), c, [some 0], 1, 1, [EL (l.map ha)]) = some (.out (.inl [EL (l.map ha)])) := fun r => by
    simp only [m_goquery_Selection_HasClass_0, cond_dec]
    rw [if_neg (by decide)]
  have fin : ∀ b : Bool, (m_goquery_Selection_HasClass_0 (32 :: (c ++ [32]), c, [some 0], 1, 0, [EL (l.map ha)]) = some (if b then .out (.inr (true, [EL (l.map ha)])) else .nx (32 :: (c ++ [32]), c, [some 0], 1, 1, [EL (l.map ha)]))) → m_impl_AttrsClass_f (l, c) = some b := fun b hb => by
    rw [hasf]
    simp only [m_impl_AttrsClass, element_eq l (by omega), bind_some, m_goquery_Selection_HasClass, p1, p2]
    have : loopO m_goquery_Selection_HasClass_0 (32 :: (c ++ [32]), c, [some 0], ((List.length [some 0] : Nat) : Int), (0 : Int), [EL (l.map ha)]) = some (if b then .inr (true, [EL (l.map ha)]) else .inl [EL (l.map ha)]) := by
      show loopO m_goquery_Selection_HasClass_0 (32 :: (c ++ [32]), c, [some 0], 1, 0, [EL (l.map ha)]) = _
      cases b with
      | true => exact loopO_out hb
      | false => rw [loopO_nx hb, loopO_out (stop false)]; rfl
    rw [this]
    cases b <;> rfl
  apply fin
  cases hf : fk (l.map (·.key)) classA with
  | none =>
    rw [hf] at hp
    have hn : vl l classA = none := vl_none.2 hf
    rw [hn] at hv
    have hv : v = [] := hv.symm
    subst hv
    have : ¬ c ∈ wordsL [] := by rw [wordsL_nil]; simp
    rw [decide_eq_false this]
    simp only [m_goquery_Selection_HasClass_0, cond_dec, atI_zero, List.getElem?_cons_zero, bind_some, hp, el_get]
    rw [if_pos (by decide), ty, if_neg (by decide)]
    rfl
  | some j =>
    rw [hf] at hp
    have hg := (fk_some.1 hf).1
    rw [List.getElem?_map] at hg
    obtain ⟨a, hja, hkey⟩ := Option.map_eq_some_iff.1 hg
    have hval : vl l classA = some a.val := vl_some hf hja
    rw [hval] at hv
    have hv : a.val = v := hv
    have hja' : (l.map ha)[j]? = some (ha a) := by rw [List.getElem?_map, hja]; rfl
    have hav : (ha a).val = v := hv
    obtain ⟨b1, hb1, hb1'⟩ := contains_eq v c (by omega) (by omega)
    obtain ⟨c1, c2⟩ := cur_of hnv h12
    have hcon := contains_cur c1 hc (by simp; omega)
    rw [c2, pad_map] at hcon
    simp only [m_goquery_Selection_HasClass_0, cond_dec, atI_zero, List.getElem?_cons_zero, bind_some, hp, el_get, Option.map_some, Option.isNone_some, Bool.not_false, cond_true, at9, hja', hav, hb1]
    rw [if_pos (by decide), ty, if_neg (by decide)]
    cases b1 with
    | false =>
      have : ¬ c ∈ wordsL v := fun hm => by
        obtain ⟨_, _, x, y, e, _⟩ := wordsL_at hm
        have := hb1'.2 ⟨x, y, e⟩
        cases this
      rw [decide_eq_false this]
      rfl
    | true =>
      simp only [Bool.not_true, cond_false]
      rw [classTrim_eq v (by omega), bind_some, catS_ok (by simp; omega), bind_some, catS_ok (by simp; omega), bind_some]
      have e : [(32 : UInt8)] ++ v.map tr1 ++ [32] = 32 :: (v.map tr1 ++ [32]) := rfl
      rw [e, hcon, bind_some]
      cases decide (c ∈ wordsL v) <;> rfl
theorem remove_at (xb : List HAttr) (j : Nat) (hl : xb.length ≤ 1000) (hf : fk (xb.map (·.key)) classA = some j) (hu : ∀ i : Nat, (xb.map (·.key))[i]? = some classA → i = j) : ∃ xr, m_goquery_removeAttr (some 0, classA, [EL xb]) = some [EL xr] ∧ classA ∉ xr.map (·.key) ∧ xr.length ≤ xb.length := by
  have at9 : ∀ y, (EL y).attrs = y := fun _ => rfl
  have hg := (fk_some.1 hf).1
  rw [List.getElem?_map] at hg
  obtain ⟨a, hja, hkey⟩ := Option.map_eq_some_iff.1 hg
  have hjl := (List.getElem?_eq_some_iff.1 hja).1
  obtain ⟨z, hz⟩ := get_lt (l := xb) (k := xb.length - 1) (by omega)
  have hw : IntKind.wrap .i64 ((xb.length : Int) - (1 : Int)) = ((xb.length - 1 : Nat) : Int) := by rw [w64 (by omega) (by omega)]; omega
  have hl2 : ((xb.set j ⟨z.ns, z.key, z.val⟩).length) = xb.length := by simp
  obtain ⟨y, hy⟩ := get_lt (l := xb.set j ⟨z.ns, z.key, z.val⟩) (k := xb.length - 1) (by rw [hl2]; omega)
  refine ⟨((xb.set j ⟨z.ns, z.key, z.val⟩).set (xb.length - 1) ⟨[], [], []⟩).take (xb.length - 1), ?_, ?_, by rw [List.length_take, List.length_set, hl2]; omega⟩
  · simp only [m_goquery_removeAttr, bind_some, el_get, at9]
    have key : ∀ m i, j - i = m → i ≤ j → loopO m_goquery_removeAttr_0 (some 0, classA, (0 : Nat), (xb.length : Int), (i : Int), [EL xb]) = some (.inr [EL (((xb.set j ⟨z.ns, z.key, z.val⟩).set (xb.length - 1) ⟨[], [], []⟩).take (xb.length - 1))]) := by
      intro m
      induction m with
      | zero =>
        intro i hi h1
        have : i = j := by omega
        subst this
        refine loopO_out ?_
        have hs : subL xb (0 : Int) ((xb.length - 1 : Nat) : Int) = some (xb.take (xb.length - 1)) := by
          have := subL_n xb (lo := 0) (hi := xb.length - 1) (Nat.zero_le _) (by omega)
          rw [show ((0 : Nat) : Int) = 0 from rfl] at this
          rw [this, List.drop_zero]
        simp only [m_goquery_removeAttr_0, cond_dec, bind_some, el_get, at9, hw, atI_nat, Int.toNat_natCast, hja, hz, hs, el_set, hy]
        rw [if_pos (by omega), if_pos hkey, if_pos trivial]
      | succ m ih =>
        intro i hi h1
        obtain ⟨b, hb⟩ := get_lt (l := xb) (k := i) (by omega)
        have hne : b.key ≠ classA := fun e => by
          have := hu i (by rw [List.getElem?_map, hb, ← e]; rfl)
          omega
        have step : m_goquery_removeAttr_0 (some 0, classA, (0 : Nat), (xb.length : Int), (i : Int), [EL xb]) = some (.nx (some 0, classA, (0 : Nat), (xb.length : Int), ((i + 1 : Nat) : Int), [EL xb])) := by
          simp only [m_goquery_removeAttr_0, cond_dec, bind_some, el_get, at9, atI_nat, Int.toNat_natCast, hb]
          rw [if_pos (by omega), if_neg hne, w64 (by omega) (by omega)]
          rfl
        rw [loopO_nx step, ih (i + 1) (by omega) (by omega)]
    rw [show loopO m_goquery_removeAttr_0 (some 0, classA, (0 : Nat), (xb.length : Int), (0 : Int), [EL xb]) = _ from key j 0 (by omega) (Nat.zero_le _)]
    rfl
  · intro hin
    obtain ⟨b, hb, hbk⟩ := List.mem_map.1 hin
    obtain ⟨i, hi⟩ := List.mem_iff_getElem?.1 hb
    rw [List.getElem?_take] at hi
    split at hi
    · rename_i hlt
      rw [List.getElem?_set_ne (by omega)] at hi
      by_cases e : j = i
      · subst e
        rw [List.getElem?_set_self hjl] at hi
        have hzk : z.key = classA := by
          have : (⟨z.ns, z.key, z.val⟩ : HAttr) = b := Option.some.inj hi
          rw [← hbk, ← this]
        have := hu (xb.length - 1) (by rw [List.getElem?_map, hz, ← hzk]; rfl)
        omega
      · rw [List.getElem?_set_ne e] at hi
        have := hu i (by rw [List.getElem?_map, hi, ← hbk]; rfl)
        omega
    · cases hi
theorem removeClass_eq (xa : List HAttr) (c v : List UInt8) (hl : xa.length ≤ 99) (hv : (vl (xa.map ah) classA).getD [] = v) (hvl : v.length ≤ 9000) (hS : SC v) (hc : NW c) (hu : ∀ i j : Nat, (xa.map (·.key))[i]? = some classA → (xa.map (·.key))[j]? = some classA → i = j) :
    ∃ xc : List HAttr, m_goquery_Selection_RemoveClass ([some 0], [c], [EL xa]) = some ((), [EL xc]) ∧ xc.length ≤ 100 ∧ (vl (xc.map ah) classA = none ∨ ∃ t : List UInt8, vl (xc.map ah) classA = some t ∧ c ∉ wordsL t ∧ NV t ∧ (∀ x ∈ t, x.toNat ≠ 12) ∧ t.length ≤ v.length + 2) := by
  have hl40 : ∀ d ∈ [c], d.length ≤ 40 := fun d hd => by rw [List.mem_singleton.1 hd]; exact hc.len
  have hcs : ∀ d ∈ [c], NW d := fun d hd => by rw [List.mem_singleton.1 hd]; exact hc
  have hjw := join_words (l := [c]) fun d hd => ⟨(hcs d hd).ne, (hcs d hd).sp⟩
  have hjl := join_len hl40
  obtain ⟨t0, a0, b0, ht0, hs0, ha0, hb0⟩ := trim_eq (joinW [c]) (by simp at hjl; omega) (nv_join hcs)
  have hw0 : wordsL t0 = [c] := by rw [← trim_words hs0 ha0 hb0]; exact hjw
  have ht0n : t0 ≠ [] := fun e => by rw [e, wordsL_nil] at hw0; cases hw0
  have ht0l : t0.length ≤ 1000 := by
    have := congrArg List.length hs0
    simp at this hjl
    omega
  have hf0 : m_goquery_getClassesSlice t0 = some [c] := by
    simp only [m_goquery_getClassesSlice]
    rw [fields_eq t0 (by omega) (NV.mid (by rw [← hs0]; exact nv_join hcs)), bind_some, hw0]
  obtain ⟨xb, j, hg, hE, hE1, hE2⟩ := gca_eq xa v (by omega) hv (by omega)
  have hub : ∀ i : Nat, (xb.map (·.key))[i]? = some classA → i = j := fun i hi => by
    have hj := (fk_some.1 hE.first).1
    by_cases hno : vl (xa.map ah) classA = none
    · obtain ⟨rfl, rfl⟩ := hE1 hno
      rw [vl_none, ah_key, fk_none] at hno
      rw [List.map_append] at hi
      rcases Nat.lt_or_ge i xa.length with h | h
      · rw [List.getElem?_append_left (by simpa using h)] at hi
        exact absurd (List.mem_of_getElem? hi) hno
      · have := (List.getElem?_eq_some_iff.1 hi).1
        simp at this
        omega
    · have e := hE2 hno
      subst e
      exact hu i j hi hj
  have hbl := hE.len
  obtain ⟨c1, c2⟩ := cur_of hS.nv hS.ff
  obtain ⟨p1, p2, p3⟩ := pad_ok hc
  have hcl := hc.len
  have hrep : ∃ cur : List UInt8, m_goquery_zzReplaceAll ((32 :: (v ++ [32])).map tr1, 32 :: (c ++ [32]), [(32 : UInt8)]) = some cur ∧ c ∉ wordsL cur ∧ NV cur ∧ (∀ x ∈ cur, x.toNat ≠ 12) ∧ cur.length ≤ v.length + 2 := by
    have hnd : (wordsL ((32 :: (v ++ [32])).map tr1)).Nodup := by rw [c2]; exact hS.nd
    have hlen1 : ((32 :: (v ++ [32])).map tr1).length = v.length + 2 := by simp
    generalize hs : (32 :: (v ++ [32])).map tr1 = s at *
    have n12 : ∀ x ∈ s, x.toNat ≠ 12 := fun x hx h => by
      have := c1.blk x hx (by simp [isSp, h])
      rw [this] at h
      exact absurd h (by decide)
    have parts : ∀ a b : List UInt8, s = a ++ (32 :: (c ++ [32])) ++ b → wordsL s = wordsL a ++ c :: wordsL b := fun a b e => by
      rw [e, show a ++ (32 :: (c ++ [32])) ++ b = a ++ 32 :: (c ++ 32 :: b) by simp, wordsL_mid sp32 sp32 hc.ne hc.sp]
    have noB : ∀ a b : List UInt8, s = a ++ (32 :: (c ++ [32])) ++ b → c ∉ wordsL a ∧ c ∉ wordsL b := fun a b e => by
      have h1 := parts a b e
      rw [h1, List.nodup_append] at hnd
      obtain ⟨_, h2, h3⟩ := hnd
      rw [List.nodup_cons] at h2
      exact ⟨fun h => h3 c h c (by simp) rfl, h2.1⟩
    rcases replace_eq s (32 :: (c ++ [32])) (by omega) (by simp; omega) (fun a b e hin => by
      obtain ⟨x, y, he⟩ := hin
      have h2 := (noB a b e).2
      rw [he, show x ++ (32 :: (c ++ [32])) ++ y = x ++ 32 :: (c ++ 32 :: y) by simp, wordsL_mid sp32 sp32 hc.ne hc.sp] at h2
      exact h2 (by simp)) with ⟨hn, hr⟩ | ⟨a, b, e, hr⟩
    · refine ⟨s, hr, fun h => hn ((inf_word hc.ne hc.sp c1.blk c1.front c1.back).2 h), c1.nv, n12, by omega⟩
    · have h2 := noB a b e
      have hin : ∀ x ∈ a ++ 32 :: b, x ∈ s := fun x hx => by
        rw [e]
        rcases List.mem_append.1 hx with hx | hx
        · simp [hx]
        · rcases List.mem_cons.1 hx with rfl | hx
          · simp
          · simp [hx]
      have hle := congrArg List.length e
      simp at hle
      refine ⟨a ++ 32 :: b, hr, ?_, fun x hx => c1.nv x (hin x hx), fun x hx => n12 x (hin x hx), by simp; omega⟩
      rw [wordsL_cat sp32, List.mem_append]
      rintro (h | h)
      · exact h2.1 h
      · exact h2.2 h
  obtain ⟨cur, hcur, hcn, hcv, hc12, hcurl⟩ := hrep
  obtain ⟨t, a, b, ht, hs, hta, htb⟩ := trim_eq cur (by omega) hcv
  have hwt : wordsL t = wordsL cur := (trim_words hs hta htb).symm
  have htl : t.length ≤ v.length + 2 := by
    have := congrArg List.length hs
    simp at this
    omega
  have go : ∀ xc : List HAttr, m_goquery_setClasses (some 0, some (0, j), cur, [EL xb]) = some [EL xc] → m_goquery_Selection_RemoveClass ([some 0], [c], [EL xa]) = some ((), [EL xc]) := fun xc hset => by
    have step : m_goquery_Selection_RemoveClass_0 ([some 0], [c], false, [some 0], 1, 0, [EL xa]) = some (.nx ([some 0], [c], false, [some 0], 1, 1, [EL xc])) := by
      have inner1 : m_goquery_Selection_RemoveClass_0_0 ([some 0], [c], false, some 0, (32 :: (v ++ [32])).map tr1, some (0, j), [some 0], 1, 0, (), 1, 0, [EL xb]) = some (.nx ([some 0], [c], false, some 0, cur, some (0, j), [some 0], 1, 0, (), 1, 1, [EL xb])) := by
        simp only [m_goquery_Selection_RemoveClass_0_0, cond_dec, atI_zero, Int.toNat_zero, List.getElem?_cons_zero, bind_some, p1, p2, hcur]
        rw [if_pos (by decide)]
        rfl
      have inner2 : m_goquery_Selection_RemoveClass_0_0 ([some 0], [c], false, some 0, cur, some (0, j), [some 0], 1, 0, (), 1, 1, [EL xb]) = some (.out ([some 0], [c], false, some 0, cur, some (0, j), [some 0], 1, 0, [EL xb])) := by
        simp only [m_goquery_Selection_RemoveClass_0_0, cond_dec]
        rw [if_neg (by decide)]
      simp only [m_goquery_Selection_RemoveClass_0, cond_dec, atI_zero, List.getElem?_cons_zero, bind_some, cond_false, hg]
      rw [if_pos (by decide), show loopO m_goquery_Selection_RemoveClass_0_0 ([some 0], [c], false, some 0, (32 :: (v ++ [32])).map tr1, some (0, j), [some 0], 1, 0, (), ((List.length [c] : Nat) : Int), (0 : Int), [EL xb]) = some ([some 0], [c], false, some 0, cur, some (0, j), [some 0], 1, 0, [EL xb]) from (by
        show loopO m_goquery_Selection_RemoveClass_0_0 ([some 0], [c], false, some 0, (32 :: (v ++ [32])).map tr1, some (0, j), [some 0], 1, 0, (), 1, 0, [EL xb]) = _
        rw [loopO_nx inner1, loopO_out inner2]), bind_some]
      simp only [hset, bind_some]
      rfl
    have stop : m_goquery_Selection_RemoveClass_0 ([some 0], [c], false, [some 0], 1, 1, [EL xc]) = some (.out ([some 0], [EL xc])) := by
      simp only [m_goquery_Selection_RemoveClass_0, cond_dec]
      rw [if_neg (by decide)]
    simp only [m_goquery_Selection_RemoveClass, join_eq [c] (by simp) hl40, bind_some, ht0, nil_byt]
    rw [decide_eq_false ht0n]
    simp only [Bool.not_false, cond_true]
    rw [hf0, bind_some]
    have : loopO m_goquery_Selection_RemoveClass_0 ([some 0], [c], false, [some 0], ((List.length [some 0] : Nat) : Int), (0 : Int), [EL xa]) = some ([some 0], [EL xc]) := by
      show loopO m_goquery_Selection_RemoveClass_0 ([some 0], [c], false, [some 0], 1, 0, [EL xa]) = _
      rw [loopO_nx step, loopO_out stop]
    rw [this]
    rfl
  by_cases htn : t = []
  · obtain ⟨xr, hr, hrn, hrl⟩ := remove_at xb j (by omega) hE.first hub
    refine ⟨xr, go xr ?_, by omega, .inl ?_⟩
    · simp only [m_goquery_setClasses, ht, bind_some, nil_byt, cond_dec]
      rw [if_pos htn, show m_goquery_removeAttr (some 0, [(99 : UInt8), (108 : UInt8), (97 : UInt8), (115 : UInt8), (115 : UInt8)], [EL xb]) = some [EL xr] from hr]
      rfl
    · rw [vl_none, ah_key, fk_none]
      exact hrn
  · obtain ⟨y, hy, _⟩ := hE.val
    refine ⟨xb.set j ⟨y.ns, y.key, t⟩, go _ ?_, by simp; omega, .inr ⟨t, (hE.put hy).cls, by rw [hwt]; exact hcn, NV.mid (by rw [← hs]; exact hcv), fun x hx => hc12 x (by rw [hs]; simp [hx]), htl⟩⟩
    have at9 : (EL xb).attrs = xb := rfl
    simp only [m_goquery_setClasses, ht, bind_some, nil_byt, cond_dec]
    rw [if_neg htn]
    simp only [el_get, bind_some, at9, hy, el_set]
theorem takenf (l : List Attr) (cs : List (List UInt8)) : m_impl_AttrsTaken_f (l, cs) = (m_impl_AttrsTaken (l, cs, [])).map fun r => r.1 := rfl
theorem fn_attrsClass (l : List Attr) (c : List UInt8) : m_laws_FnAttrsClass (l, c) = some true := by
  simp only [m_laws_FnAttrsClass, zz3, bind_some, not_cond, cond_dec]
  cases hf : fits3 l
  · rfl
  simp only [Bool.false_eq_true, if_false, if_true]
  split
  · rfl
  rename_i hcl
  obtain ⟨b7, h7, h7'⟩ := attrs7_ex l hf
  rw [h7, bind_some]
  cases b7
  · rfl
  simp only [Bool.false_eq_true, if_false, if_true]
  have hA := h7' rfl
  obtain ⟨bc, hc, hc'⟩ := classes7_ex [c] (by simp) (fun d hd => by rw [List.mem_singleton.1 hd]; omega)
  rw [hc, bind_some]
  cases bc
  · rfl
  simp only [Bool.false_eq_true, if_false, if_true]
  have hC := hc' rfl
  have hw : NW c := hC.nw c (by simp)
  have hlen := hA.len
  have hS : SC ((vl l classA).getD []) ∧ ((vl l classA).getD []).length ≤ 200 := by
    cases hv : vl l classA with
    | none =>
      refine ⟨⟨fun c hc => ?_, fun c hc => ?_, ?_⟩, by simp⟩
      · simp at hc
      · simp at hc
      · simp [wordsL_nil]
    | some v =>
      obtain ⟨j, a, _, ha, rfl, hk⟩ := vl_ex hv
      have := hA.val j a ha
      exact ⟨this.2.2 hk, this.2.1⟩
  obtain ⟨hS, hSl⟩ := hS
  have hv : ∃ b, m_laws_val7 (l, [(99 : UInt8), (108 : UInt8), (97 : UInt8), (115 : UInt8), (115 : UInt8)]) = some ((vl l classA).getD [], b) := by
    have : m_laws_val7 (l, [(99 : UInt8), (108 : UInt8), (97 : UInt8), (115 : UInt8), (115 : UInt8)]) = _ := attr_vl l classA (by omega)
    rw [this]
    cases vl l classA with
    | none => exact ⟨false, rfl⟩
    | some v => exact ⟨true, rfl⟩
  obtain ⟨bv, hv⟩ := hv
  generalize hvd : (vl l classA).getD [] = v at *
  rw [hv, bind_some, class_eq l c v (by omega) hvd (by omega) hS.nv hS.ff hw, bind_some]
  simp only
  rw [wordS v c (by omega) hw.ne, bind_some]
  obtain ⟨out, t, g1, g2, g3, g4, g5, g6, g7, g8⟩ := added_eq l [c] v (by omega) hvd (by omega) hS.nv hS.ff (by simp) (by simp) (fun d hd => by rw [List.mem_singleton.1 hd]; exact hw)
  have htl : t.length ≤ 9000 := by simp at g7; omega
  rw [g1, bind_some, class_eq out c t (by omega) (by rw [g2]; rfl) htl g5 g6 hw, bind_some]
  have hin : c ∈ wordsL t := by
    rw [g8]
    simp only [addW]
    split
    · assumption
    · simp
  rw [decide_eq_true hin]
  have hu : ∀ i j : Nat, ((l.map ha).map (·.key))[i]? = some classA → ((l.map ha).map (·.key))[j]? = some classA → i = j := fun i j hi hj => by
    have hkeys : (l.map ha).map (·.key) = l.map (·.key) := by simp [ha]
    rw [hkeys, List.getElem?_map] at hi hj
    obtain ⟨a, ha1, ha2⟩ := Option.map_eq_some_iff.1 hi
    obtain ⟨b, hb1, hb2⟩ := Option.map_eq_some_iff.1 hj
    rcases Nat.lt_trichotomy i j with h | h | h
    · exact absurd (ha2.trans hb2.symm) (hA.uniq i j a b h ha1 hb1)
    · exact h
    · exact absurd (hb2.trans ha2.symm) (hA.uniq j i b a h hb1 ha1)
  obtain ⟨xc, k1, k2, k3⟩ := removeClass_eq (l.map ha) c v (by simp; omega) (by rw [ha_ah]; exact hvd) (by omega) hS hw hu
  have ht : m_impl_AttrsTaken_f (l, [c]) = some (xc.map ah) := by
    rw [takenf]
    simp only [m_impl_AttrsTaken, element_eq l (by omega), bind_some, k1, attrs_eq xc (by omega)]
    rfl
  have hno : m_impl_AttrsClass_f (xc.map ah, c) = some false := by
    rcases k3 with h | ⟨t2, h1, h2, h3, h4, h5⟩
    · rw [class_eq (xc.map ah) c [] (by simpa using k2) (by rw [h]; rfl) (by simp) (fun x hx => by cases hx) (fun x hx => by cases hx) hw, decide_eq_false (by rw [wordsL_nil]; simp)]
    · have h6 : m_impl_AttrsClass_f (xc.map ah, c) = some (decide (c ∈ wordsL t2)) := by
        exact class_eq (xc.map ah) c t2 (by simpa using k2) (by rw [h1]; rfl) (by omega) h3 h4 hw
      rw [h6, decide_eq_false h2]
  rw [ht]
  simp only [beq_self_eq_true, if_true, bind_some, cond_true]
  rw [hno]
  rfl
end Go.Proofs.Ytcbmbmfenhoflaa.V
