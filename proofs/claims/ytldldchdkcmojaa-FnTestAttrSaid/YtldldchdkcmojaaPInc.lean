/-
  A word of a value. Plain facts.
-/
import Derived.Test.YtldldchdkcmojaaPDec
import Derived.Test.YtldldchdkcmojaaCascA
set_option linter.unusedVariables false
set_option linter.unusedSimpArgs false
namespace Go.Proofs.Ytldldchdkcmojaa.V
open Go

/-- The white space that is looked for. -/
def spL : List UInt8 := [(32 : UInt8), (9 : UInt8), (13 : UInt8), (10 : UInt8), (12 : UInt8)]
theorem idx_in (i c : Int) (it : List UInt8 × Nat) : loopO m_cascadia_zzIndexAny_0_0 (spL, i, c, it, spL, (0 : Nat)) = some (if c = 32 ∨ c = 9 ∨ c = 13 ∨ c = 10 ∨ c = 12 then .inr i else .inl (spL, it.1, it.2)) := by
  have body : ∀ (k : Nat) (d : UInt8), spL[k]? = some d → d.toNat < 128 → m_cascadia_zzIndexAny_0_0 (spL, i, c, it, spL, k) = if c = (d.toNat : Int) then some (.out (.inr i)) else some (.nx (spL, i, c, it, spL, k + 1)) := fun k d hd hl => by
    have hk := (List.getElem?_eq_some_iff.1 hd).1
    simp only [m_cascadia_zzIndexAny_0_0, cond_dec, dec8_low hd hl]
    rw [if_pos (by simpa using hk)]
  have b0 := body 0 32 rfl (by decide)
  have b1 := body 1 9 rfl (by decide)
  have b2 := body 2 13 rfl (by decide)
  have b3 := body 3 10 rfl (by decide)
  have b4 := body 4 12 rfl (by decide)
  by_cases h0 : c = 32
  · rw [if_pos (by exact h0)] at b0
    rw [loopO_out b0, if_pos (.inl h0)]
  · rw [if_neg (by exact h0)] at b0
    rw [loopO_nx b0]
    by_cases h1 : c = 9
    · rw [if_pos (by exact h1)] at b1
      rw [loopO_out b1, if_pos (.inr (.inl h1))]
    · rw [if_neg (by exact h1)] at b1
      rw [loopO_nx b1]
      by_cases h2 : c = 13
      · rw [if_pos (by exact h2)] at b2
        rw [loopO_out b2, if_pos (.inr (.inr (.inl h2)))]
      · rw [if_neg (by exact h2)] at b2
        rw [loopO_nx b2]
        by_cases h3 : c = 10
        · rw [if_pos (by exact h3)] at b3
          rw [loopO_out b3, if_pos (.inr (.inr (.inr (.inl h3))))]
        · rw [if_neg (by exact h3)] at b3
          rw [loopO_nx b3]
          by_cases h4 : c = 12
          · rw [if_pos (by exact h4)] at b4
            rw [loopO_out b4, if_pos (.inr (.inr (.inr (.inr h4))))]
          · rw [if_neg (by exact h4)] at b4
            rw [loopO_nx b4, if_neg (by rintro (h | h | h | h | h) <;> contradiction)]
            refine loopO_out ?_
            simp only [m_cascadia_zzIndexAny_0_0, cond_dec]
            rw [if_neg (by decide)]
/-- Where the first white space stands. -/
theorem idx_ok (s : List UInt8) : ∃ r, m_cascadia_zzIndexAny (s, spL) = some r ∧ ((r = -1 ∧ ∀ c ∈ s, isSp c = false) ∨ ∃ w c u, s = w ++ c :: u ∧ r = (w.length : Int) ∧ (∀ d ∈ w, isSp d = false) ∧ isSp c = true) := by
  simp only [m_cascadia_zzIndexAny]
  obtain ⟨y, hy, q1, q2⟩ := loopO_rule (body := m_cascadia_zzIndexAny_0) (fun x => ∃ k : Nat, x = (spL, s, k) ∧ k ≤ s.length ∧ ∀ d ∈ s.take k, isSp d = false) (fun _ y => (y = .inl () → ∀ c ∈ s, isSp c = false) ∧ ∀ r, y = .inr r → ∃ w c u, s = w ++ c :: u ∧ r = (w.length : Int) ∧ (∀ d ∈ w, isSp d = false) ∧ isSp c = true) (fun x => s.length - x.2.2) (fun x hx => by
    obtain ⟨k, rfl, hk, hw⟩ := hx
    simp only [m_cascadia_zzIndexAny_0, cond_dec]
    by_cases hk2 : k < s.length
    · rw [if_pos hk2]
      obtain ⟨c, hc⟩ := get_lt hk2
      have hdr : s.drop k = c :: s.drop (k + 1) := by
        obtain ⟨h1, h2⟩ := List.getElem?_eq_some_iff.1 hc
        rw [← h2]; exact List.drop_eq_getElem_cons h1
      rw [idx_in, bind_some]
      by_cases hl : c.toNat < 128
      · rw [dec8_low hc hl]
        simp only
        by_cases hsp : isSp c = true
        · have := hsp
          simp only [isSp, Bool.or_eq_true, decide_eq_true_eq] at this
          rw [if_pos (by omega), selim_r]
          refine .inl ⟨_, rfl, (fun e => by cases e), fun r e => ?_⟩
          cases e
          refine ⟨s.take k, c, s.drop (k + 1), ?_, by rw [List.length_take]; congr 1; omega, hw, hsp⟩
          rw [← hdr, List.take_append_drop]
        · have := hsp
          simp only [isSp, Bool.or_eq_true, decide_eq_true_eq] at this
          rw [if_neg (by omega), selim_l]
          refine .inr ⟨_, rfl, ⟨k + 1, rfl, by omega, fun d hd => ?_⟩, by simp only; omega, fun b hb => hb⟩
          rw [List.take_add_one, hc] at hd
          simp at hd
          rcases hd with hd | rfl
          · exact hw d hd
          · simpa using hsp
      · obtain ⟨g1, g2, g3, g4⟩ := dec8_high hc (by omega)
        generalize dec8 s k = r at g1 g2 g3 g4
        rw [if_neg (by omega), selim_l]
        refine .inr ⟨_, rfl, ⟨k + r.2, rfl, by omega, fun d hd => ?_⟩, by simp only; omega, fun b hb => hb⟩
        obtain ⟨j, hj⟩ := List.mem_iff_getElem?.1 hd
        rw [List.getElem?_take] at hj
        split at hj
        · rename_i hjl
          by_cases hjk : j < k
          · exact hw d (List.mem_iff_getElem?.2 ⟨j, by rw [List.getElem?_take, if_pos hjk]; exact hj⟩)
          · obtain ⟨d', h1, h2⟩ := g4 j (by omega) hjl
            rw [hj] at h1
            cases h1
            cases hsp : isSp d with
            | false => rfl
            | true => have := isSp_lt hsp; omega
        · cases hj
    · rw [if_neg hk2]
      refine .inl ⟨_, rfl, fun _ => ?_, fun r e => by cases e⟩
      rw [List.take_of_length_le (by omega)] at hw
      exact hw) (spL, s, (0 : Nat)) ⟨0, rfl, Nat.zero_le _, by simp⟩
  rw [hy, bind_some]
  rcases y with u | r
  · exact ⟨-1, rfl, .inl ⟨rfl, q1 rfl⟩⟩
  · exact ⟨r, rfl, .inr (q2 r rfl)⟩
theorem include_eq (val : List UInt8) (ig : Bool) (eqv : List UInt8 → Bool) (n : Nat) (hn : n ≤ 2147483647) (h0 : eqv [] = false) (he : ∀ m : List UInt8, m.length ≤ n → m_cascadia_matchInsensitiveValue (m, val, ig) = some (eqv m)) (s : List UInt8) (hs : s.length ≤ n) : m_cascadia_matchInclude (val, s, ig) = some ((pcs s).any eqv) := by
  simp only [m_cascadia_matchInclude]
  have key : ∀ (m : Nat) (s : List UInt8), s.length ≤ m → s.length ≤ n → ∃ y, loopO m_cascadia_matchInclude_0 (val, s, ig) = some y ∧ selim (fun (_ : Unit) => some false) (fun (y : Bool) => some y) y = some ((pcs s).any eqv) := by
    intro m
    induction m with
    | zero =>
      intro s h1 _
      have : s = [] := List.length_eq_zero_iff.1 (by omega)
      subst this
      refine ⟨_, loopO_out (b := .inl ()) ?_, by simp [selim, pcs, h0]⟩
      simp only [m_cascadia_matchInclude_0, cond_dec]
      rw [if_neg (by simp)]
    | succ m ih =>
      intro s h1 h2
      by_cases hs0 : s = []
      · subst hs0
        refine ⟨_, loopO_out (b := .inl ()) ?_, by simp [selim, pcs, h0]⟩
        simp only [m_cascadia_matchInclude_0, cond_dec]
        rw [if_neg (by simp)]
      · obtain ⟨r, hr, hcase⟩ := idx_ok s
        have hpos : 0 < s.length := List.length_pos_iff.2 hs0
        rcases hcase with ⟨rfl, hno⟩ | ⟨w, c, u, rfl, rfl, hno, hsp⟩
        · refine ⟨_, loopO_out (b := .inr (eqv s)) ?_, by simp [selim, pcs_flat hno]⟩
          simp only [m_cascadia_matchInclude_0, cond_dec]
          rw [if_pos (by simpa using hs0), show m_cascadia_zzIndexAny (s, [(32 : UInt8), (9 : UInt8), (13 : UInt8), (10 : UInt8), (12 : UInt8)]) = _ from hr, bind_some, if_pos rfl, he s h2, bind_some]
        · have hsub : subL (w ++ c :: u) (0 : Int) (w.length : Int) = some w := by
            rw [show subL (w ++ c :: u) (0 : Int) (w.length : Int) = _ from subL_nat' (lo := 0) (w ++ c :: u) (Nat.zero_le _) (by simp)]
            simp
          have hsub2 : subL (w ++ c :: u) ((w.length + 1 : Nat) : Int) ((w ++ c :: u).length : Int) = some u := by
            rw [subL_nat' (w ++ c :: u) (by simp) (Nat.le_refl _), List.take_length]
            simp
          have hwl : w.length ≤ n := by simp at h2; omega
          rw [pcs_app hno hsp, List.any_cons]
          have e0 : m_cascadia_matchInclude_0 (val, w ++ c :: u, ig) = bif eqv w then some (.out (.inr true)) else some (.nx (val, u, ig)) := by
            simp only [m_cascadia_matchInclude_0, cond_dec]
            rw [if_pos (by simp), show m_cascadia_zzIndexAny (w ++ c :: u, [(32 : UInt8), (9 : UInt8), (13 : UInt8), (10 : UInt8), (12 : UInt8)]) = _ from hr, bind_some, if_neg (by omega), hsub, bind_some, he w hwl, bind_some, w64 (by omega) (by simp at h2; omega)]
            rw [show ((w.length : Int) + 1) = ((w.length + 1 : Nat) : Int) by omega, hsub2, bind_some]
          cases hw : eqv w with
          | true =>
            rw [hw] at e0
            exact ⟨_, loopO_out e0, rfl⟩
          | false =>
            rw [hw] at e0
            obtain ⟨y, hy1, hy2⟩ := ih u (by simp at h1; omega) (by simp at h2; omega)
            exact ⟨y, by rw [loopO_nx e0]; exact hy1, by rw [hy2]; simp⟩
  obtain ⟨y, h1, h2⟩ := key s.length s (Nat.le_refl _) hs
  rw [h1, bind_some]
  exact h2
theorem include_plain (val s : List UInt8) (hv : val ≠ []) (hs : s.length ≤ 2147483647) : m_cascadia_matchInclude (val, s, false) = some (decide (val ∈ pcs s)) := by
  rw [include_eq val false (fun m => decide (m = val)) 2147483647 (Nat.le_refl _) (by simpa using fun e => hv e) (fun m _ => rfl) s hs]
  congr 1
  rw [Bool.eq_iff_iff, List.any_eq_true, decide_eq_true_eq]
  constructor
  · rintro ⟨x, hx, h⟩
    have : x = val := by simpa using h
    exact this ▸ hx
  · exact fun h => ⟨val, h, by simp⟩
end Go.Proofs.Ytldldchdkcmojaa.V
