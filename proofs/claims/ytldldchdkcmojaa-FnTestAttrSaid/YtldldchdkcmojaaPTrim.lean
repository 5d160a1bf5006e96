/-
  What is not blank is not trimmed away. Plain facts.
-/
import Derived.Test.YtldldchdkcmojaaPPoint
import Derived.Test.YtldldchdkcmojaaCascT
set_option linter.unusedVariables false
set_option linter.unusedSimpArgs false
namespace Go.Proofs.Ytldldchdkcmojaa.V
open Go

/-- White space of all kinds. -/
def wsp (r : Int) : Prop := (9 ≤ r ∧ r ≤ 13) ∨ r = 32 ∨ r = 133 ∨ r = 160 ∨ r = 5760 ∨ (8192 ≤ r ∧ r ≤ 8202) ∨ r = 8232 ∨ r = 8233 ∨ r = 8239 ∨ r = 8287 ∨ r = 12288
instance (r : Int) : Decidable (wsp r) := inferInstanceAs (Decidable (_ ∨ _))
theorem isSpace_eq (r : Int) : m_cascadia_zzIsSpace r = some (decide (wsp r)) := by
  simp only [m_cascadia_zzIsSpace, cond_dec]
  by_cases h : wsp r
  · rw [decide_eq_true h]
    unfold wsp at h
    repeat' (refine ite_p (P := fun o : Option Bool => o = some true) (fun _ => ?_) (fun _ => ?_))
    all_goals first | rfl | (congr 1; rw [decide_eq_true_eq]; omega) | omega
  · rw [decide_eq_false h]
    unfold wsp at h
    repeat' (refine ite_p (P := fun o : Option Bool => o = some false) (fun _ => ?_) (fun _ => ?_))
    all_goals first | rfl | (congr 1; rw [decide_eq_false_iff_not]; omega) | omega
theorem blank_step (s : List UInt8) (k : Nat) (hk : k < s.length) {p n : Int} (h : m_spec_Point (s, (k : Int)) = some (p, n)) (hn : n ≠ 0) (hl : s.length ≤ 2147483647) (hkn : (k : Int) + n ≤ s.length) (h1 : 1 ≤ n) : m_spec_blankAll_0 (s, (k : Int)) = some (if wsp p then .nx (s, ((k + n.toNat : Nat) : Int)) else .out (.inr false)) := by
  have hnx : ∀ (p : Prop) [Decidable p] (a b : Option (Stp (Tup p_spec_blankAll_0) (SumT (x_spec_blankAll_0.map (·.2))))), cond (!decide p) a b = if p then b else a := fun p _ a b => by by_cases h : p <;> simp [h]
  simp only [m_spec_blankAll_0, cond_dec]
  rw [if_pos (by omega), h]
  simp only [bind_some, hnx]
  rw [if_neg hn, w64 (n := (k : Int) + n) (by omega) (by omega), show (k : Int) + n = ((k + n.toNat : Nat) : Int) by omega]
  by_cases hw : wsp p
  · rw [if_pos hw]
    unfold wsp at hw
    repeat' (refine ite_p (P := fun o => o = _) (fun _ => ?_) (fun _ => ?_))
    all_goals first | rfl | omega
  · rw [if_neg hw]
    unfold wsp at hw
    repeat' (refine ite_p (P := fun o => o = _) (fun _ => ?_) (fun _ => ?_))
    all_goals first | rfl | omega
theorem plain_step (s : List UInt8) (k : Nat) (hk : k < s.length) (hl : s.length ≤ 2147483647) (h : loopO m_spec_Plain_0 (s, (k : Int)) = some (.inl ())) : ∃ p n : Int, m_spec_Point (s, (k : Int)) = some (p, n) ∧ n ≠ 0 ∧ 1 ≤ n ∧ (k : Int) + n ≤ s.length ∧ dec8 s k = (p.toNat, n.toNat) ∧ 0 ≤ p ∧ loopO m_spec_Plain_0 (s, ((k + n.toNat : Nat) : Int)) = some (.inl ()) := by
  obtain ⟨p, n, h1, h2, h3⟩ := point_ex s k hk hl
  by_cases hn : n = 0
  · have : m_spec_Plain_0 (s, (k : Int)) = some (.out (.inr false)) := by
      simp only [m_spec_Plain_0, cond_dec]
      rw [if_pos (by omega), h1]
      simp only [bind_some]
      rw [if_pos hn]
    rw [loopO_out this] at h
    cases h
  · obtain ⟨g1, g2, g3, g4⟩ := point_dec s k hk hl h1 hn
    by_cases hp : p = 0
    · have : m_spec_Plain_0 (s, (k : Int)) = some (.out (.inr false)) := by
        simp only [m_spec_Plain_0, cond_dec]
        rw [if_pos (by omega), h1]
        simp only [bind_some]
        rw [if_neg hn, if_pos hp]
      rw [loopO_out this] at h
      cases h
    · have : m_spec_Plain_0 (s, (k : Int)) = some (.nx (s, ((k + n.toNat : Nat) : Int))) := by
        simp only [m_spec_Plain_0, cond_dec]
        rw [if_pos (by omega), h1]
        simp only [bind_some]
        rw [if_neg hn, if_neg hp, w64 (by omega) (by omega), show (k : Int) + n = ((k + n.toNat : Nat) : Int) by omega]
      rw [loopO_nx this] at h
      exact ⟨p, n, h1, hn, g3, g4, g1, g2, h⟩
theorem trim_in (s : List UInt8) (fr : Int) (it : List UInt8 × Nat) (hl : s.length ≤ 2147483647) : ∀ m (to : Nat), s.length - to ≤ m → to ≤ s.length → ∃ to2 : Nat, loopO m_cascadia_zzTrimSpace_0_0 (s, fr, (to : Int), it) = some (s, fr, (to2 : Int), it) ∧ to ≤ to2 ∧ to2 ≤ s.length := by
  intro m
  induction m with
  | zero =>
    intro to h1 h2
    refine ⟨to, loopO_out ?_, Nat.le_refl _, h2⟩
    simp only [m_cascadia_zzTrimSpace_0_0, cond_dec]
    rw [if_neg (by omega)]
  | succ m ih =>
    intro to h1 h2
    by_cases hlt : to < s.length
    · obtain ⟨c, hc⟩ := get_lt hlt
      by_cases h3 : 128 ≤ c.toNat ∧ c.toNat < 192
      · obtain ⟨to2, g1, g2, g3⟩ := ih (to + 1) (by omega) (by omega)
        refine ⟨to2, ?_, by omega, g3⟩
        rw [← g1]
        refine loopO_nx ?_
        simp only [m_cascadia_zzTrimSpace_0_0, cond_dec, atI_nat, hc, bind_some]
        rw [if_pos (by omega), if_pos (by omega), if_pos (by omega), w64 (by omega) (by omega)]
        rfl
      · refine ⟨to, loopO_out ?_, Nat.le_refl _, h2⟩
        simp only [m_cascadia_zzTrimSpace_0_0, cond_dec, atI_nat, hc, bind_some]
        rw [if_pos (by omega)]
        by_cases h4 : 128 ≤ c.toNat
        · rw [if_pos (by omega), if_neg (by omega)]
        · rw [if_neg (by omega)]
    · refine ⟨to, loopO_out ?_, Nat.le_refl _, h2⟩
      simp only [m_cascadia_zzTrimSpace_0_0, cond_dec]
      rw [if_neg (by omega)]
theorem trim_loop (s : List UInt8) (hl : s.length ≤ 2147483647) : ∀ m (k fr to : Nat), s.length - k ≤ m → k ≤ s.length → (fr = s.length ∧ to = 0 ∨ fr < to ∧ to ≤ s.length) → loopO m_spec_Plain_0 (s, (k : Int)) = some (.inl ()) → (fr < to ∨ loopO m_spec_blankAll_0 (s, (k : Int)) = some (.inr false)) →
    ∃ fr2 to2 : Nat, loopO m_cascadia_zzTrimSpace_0 (s, (fr : Int), (to : Int), s, k) = some (s, (fr2 : Int), (to2 : Int)) ∧ fr2 < to2 ∧ to2 ≤ s.length := by
  have done : ∀ k fr to : Nat, s.length ≤ k → m_cascadia_zzTrimSpace_0 (s, (fr : Int), (to : Int), s, k) = some (.out (s, (fr : Int), (to : Int))) := fun k fr to hk => by
    simp only [m_cascadia_zzTrimSpace_0, cond_dec]
    rw [if_neg (by omega)]
  have bl : ∀ k : Nat, s.length ≤ k → loopO m_spec_blankAll_0 (s, (k : Int)) = some (.inr false) → False := fun k hk h => by
    have : m_spec_blankAll_0 (s, (k : Int)) = some (.out (.inl ())) := by
      simp only [m_spec_blankAll_0, cond_dec]
      rw [if_neg (by omega)]
    rw [loopO_out this] at h
    cases h
  intro m
  induction m with
  | zero =>
    intro k fr to h1 h2 h3 h4 h5
    rcases h5 with h5 | h5
    · exact ⟨fr, to, loopO_out (done k fr to (by omega)), h5, by omega⟩
    · exact (bl k (by omega) h5).elim
  | succ m ih =>
    intro k fr to h1 h2 h3 h4 h5
    by_cases hk : k < s.length
    · obtain ⟨p, n, a1, a2, a3, a4, a5, a6, a7⟩ := plain_step s k hk hl h4
      have hb := blank_step s k hk a1 a2 hl a4 a3
      have ex : m_cascadia_zzTrimSpace_0 (s, (fr : Int), (to : Int), s, k) = Option.bind (some (decide (wsp p))) fun r => cond (!r) (Option.bind (loopO m_cascadia_zzTrimSpace_0_0 (s, (if (k : Int) < (fr : Int) then (k : Int) else (fr : Int)), ((k + 1 : Nat) : Int), s, k + n.toNat)) fun y => some (.nx (y.1, y.2.1, y.2.2.1, y.2.2.2.1, y.2.2.2.2))) (some (.nx (s, (fr : Int), (to : Int), s, k + n.toNat))) := by
        simp only [m_cascadia_zzTrimSpace_0, cond_dec, a5]
        rw [if_pos hk, Int.toNat_of_nonneg a6, isSpace_eq, bind_some, bind_some, w64 (by omega) (by omega)]
        rfl
      rw [bind_some] at ex
      by_cases hw : wsp p
      · rw [decide_eq_true hw] at ex
        rw [if_pos hw] at hb
        rw [loopO_nx (show m_cascadia_zzTrimSpace_0 (s, (fr : Int), (to : Int), s, k) = some (.nx (s, (fr : Int), (to : Int), s, k + n.toNat)) from ex)]
        refine ih (k + n.toNat) fr to (by omega) (by omega) h3 a7 ?_
        rcases h5 with h5 | h5
        · exact .inl h5
        · rw [loopO_nx hb] at h5
          exact .inr h5
      · rw [decide_eq_false hw] at ex
        obtain ⟨to2, b1, b2, b3⟩ := trim_in s (if (k : Int) < (fr : Int) then (k : Int) else (fr : Int)) (s, k + n.toNat) hl s.length (k + 1) (by omega) (by omega)
        obtain ⟨fr', hfr, hle⟩ : ∃ fr' : Nat, (if (k : Int) < (fr : Int) then (k : Int) else (fr : Int)) = (fr' : Int) ∧ fr' ≤ k := by
          by_cases e : k < fr
          · exact ⟨k, by rw [if_pos (by omega)], Nat.le_refl _⟩
          · exact ⟨fr, by rw [if_neg (by omega)], by omega⟩
        rw [hfr] at ex b1
        have b1' : loopO m_cascadia_zzTrimSpace_0_0 (s, (fr' : Int), ((k + 1 : Nat) : Int), s, k + n.toNat) = some (s, (fr' : Int), (to2 : Int), s, k + n.toNat) := b1
        rw [b1', bind_some] at ex
        rw [loopO_nx (show m_cascadia_zzTrimSpace_0 (s, (fr : Int), (to : Int), s, k) = some (.nx (s, (fr' : Int), (to2 : Int), s, k + n.toNat)) from ex)]
        exact ih (k + n.toNat) fr' to2 (by omega) (by omega) (.inr ⟨by omega, b3⟩) a7 (.inl (by omega))
    · rcases h5 with h5 | h5
      · exact ⟨fr, to, loopO_out (done k fr to (by omega)), h5, by omega⟩
      · exact (bl k (by omega) h5).elim
theorem plain_loop (s : List UInt8) (hl : s.length ≤ 2147483647) (h : m_spec_Plain s = some true) : loopO m_spec_Plain_0 (s, ((0 : Nat) : Int)) = some (.inl ()) := by
  obtain ⟨y, h1, h2⟩ := loopO_rule (body := m_spec_Plain_0) (fun x => ∃ k : Nat, x = (s, (k : Int)) ∧ k ≤ s.length) (fun _ y => y = .inl () ∨ y = .inr false) (fun x => ((s.length : Int) - x.2).toNat) (fun x hx => by
    obtain ⟨k, rfl, hk⟩ := hx
    simp only [m_spec_Plain_0, cond_dec]
    split
    · rename_i h1
      obtain ⟨p, n, h2, h3, h4⟩ := point_ex s k (by omega) hl
      rw [h2, bind_some]
      simp only
      split
      · exact .inl ⟨_, rfl, .inr rfl⟩
      · split
        · exact .inl ⟨_, rfl, .inr rfl⟩
        · refine .inr ⟨_, rfl, ⟨k + n.toNat, by rw [w64 (by omega) (by omega), show (k : Int) + n = ((k + n.toNat : Nat) : Int) by omega], by omega⟩, ?_, fun _ h => h⟩
          simp only
          rw [w64 (by omega) (by omega)]
          omega
    · exact .inl ⟨_, rfl, .inl rfl⟩) (s, ((0 : Nat) : Int)) ⟨0, rfl, Nat.zero_le _⟩
  rcases h2 with rfl | rfl
  · exact h1
  · simp only [m_spec_Plain] at h
    rw [show loopO m_spec_Plain_0 (s, (0 : Int)) = _ from h1, bind_some, selim_r] at h
    cases h
theorem blank_ex (s : List UInt8) (hl : s.length ≤ 2147483647) (hp : loopO m_spec_Plain_0 (s, ((0 : Nat) : Int)) = some (.inl ())) : loopO m_spec_blankAll_0 (s, ((0 : Nat) : Int)) = some (.inl ()) ∨ loopO m_spec_blankAll_0 (s, ((0 : Nat) : Int)) = some (.inr false) := by
  have key : ∀ m (k : Nat), s.length - k ≤ m → k ≤ s.length → loopO m_spec_Plain_0 (s, (k : Int)) = some (.inl ()) → loopO m_spec_blankAll_0 (s, (k : Int)) = some (.inl ()) ∨ loopO m_spec_blankAll_0 (s, (k : Int)) = some (.inr false) := by
    have done : ∀ k : Nat, s.length ≤ k → loopO m_spec_blankAll_0 (s, (k : Int)) = some (.inl ()) := fun k hk => loopO_out (by
      simp only [m_spec_blankAll_0, cond_dec]
      rw [if_neg (by omega)])
    intro m
    induction m with
    | zero => exact fun k h1 h2 _ => .inl (done k (by omega))
    | succ m ih =>
      intro k h1 h2 h4
      by_cases hk : k < s.length
      · obtain ⟨p, n, a1, a2, a3, a4, a5, a6, a7⟩ := plain_step s k hk hl h4
        have hb := blank_step s k hk a1 a2 hl a4 a3
        by_cases hw : wsp p
        · rw [if_pos hw] at hb
          rw [loopO_nx hb]
          exact ih _ (by omega) (by omega) a7
        · rw [if_neg hw] at hb
          exact .inr (loopO_out hb)
      · exact .inl (done k (by omega))
  exact key s.length 0 (by omega) (Nat.zero_le _) hp
/-- What is plain and not blank is not trimmed to nothing. -/
theorem trim_ne (s : List UInt8) (hl : s.length ≤ 2147483647) (hp : m_spec_Plain s = some true) : m_spec_blankAll s = some true ∨ m_spec_blankAll s = some false ∧ ∃ m, m_cascadia_zzTrimSpace s = some m ∧ m ≠ [] := by
  have hpl := plain_loop s hl hp
  rcases blank_ex s hl hpl with hb | hb
  · refine .inl ?_
    simp only [m_spec_blankAll]
    rw [show loopO m_spec_blankAll_0 (s, (0 : Int)) = _ from hb]
    rfl
  · refine .inr ⟨?_, ?_⟩
    · simp only [m_spec_blankAll]
      rw [show loopO m_spec_blankAll_0 (s, (0 : Int)) = _ from hb]
      rfl
    · obtain ⟨fr, to, h1, h2, h3⟩ := trim_loop s hl s.length 0 s.length 0 (by omega) (Nat.zero_le _) (.inl ⟨rfl, rfl⟩) hpl (.inr hb)
      refine ⟨(s.take to).drop fr, ?_, fun e => ?_⟩
      · simp only [m_cascadia_zzTrimSpace, cond_dec]
        rw [show loopO m_cascadia_zzTrimSpace_0 (s, (s.length : Int), (0 : Int), s, 0) = _ from h1, bind_some]
        simp only
        rw [if_neg (by omega), subL_nat' s (by omega) h3]
        rfl
      · have := congrArg List.length e
        simp at this
        omega
end Go.Proofs.Ytldldchdkcmojaa.V
