/-
  A code point that the reference reads is the one that the language reads. Plain facts.
-/
import Derived.Test.YtldldchdkcmojaaPDec
set_option linter.unusedVariables false
set_option linter.unusedSimpArgs false
namespace Go.Proofs.Ytldldchdkcmojaa.V
open Go

def cnt (d : UInt8) : Prop := 128 ≤ d.toNat ∧ d.toNat < 192
instance (d : UInt8) : Decidable (cnt d) := inferInstanceAs (Decidable (_ ∧ _))
theorem pstep (s : List UInt8) (a k : Nat) (p least r : Int) {d : UInt8} (hd : s[a + k]? = some d) (hk : (k : Int) ≤ r) (hp : 0 ≤ p) (hp2 : p < 1073741824) (hl : s.length ≤ 2147483647) :
    m_spec_Point_0 (s, (a : Int), p, least, r, (k : Int)) = some (if cnt d then .nx (s, (a : Int), p * 64 + ((d.toNat : Int) - 128), least, r, ((k + 1 : Nat) : Int)) else .out (.inr (0, 0))) := by
  have hak := (List.getElem?_eq_some_iff.1 hd).1
  have hd2 := d.toNat_lt
  simp only [m_spec_Point_0, cond_dec]
  rw [if_pos hk, w64 (n := (a : Int) + (k : Int)) (by omega) (by omega), show (a : Int) + (k : Int) = ((a + k : Nat) : Int) by omega, atI_nat, hd]
  simp only [bind_some]
  rw [w64 (n := (d.toNat : Int)) (by omega) (by omega)]
  have hs : shlI .i64 p 6 = some (p * 64) := by
    simp only [shlI]
    rw [if_neg (by omega), w64 (by simp [IntKind.bits]; omega) (by simp [IntKind.bits]; omega)]
    simp [IntKind.bits]
  by_cases h1 : 128 ≤ d.toNat
  · rw [if_neg (by omega)]
    by_cases h2 : d.toNat < 192
    · rw [if_neg (by omega), hs, bind_some, if_pos (show cnt d from ⟨h1, h2⟩), w64 (n := p * 64 + (d.toNat : Int)) (by omega) (by omega), w64 (n := p * 64 + (d.toNat : Int) - 128) (by omega) (by omega), w64 (n := (k : Int) + 1) (by omega) (by omega)]
      rw [show p * 64 + (d.toNat : Int) - 128 = p * 64 + ((d.toNat : Int) - 128) by omega, show (k : Int) + 1 = ((k + 1 : Nat) : Int) by omega]
    · rw [if_pos (by omega), if_neg (fun h : cnt d => h2 h.2)]
  · rw [if_pos (by omega), if_neg (fun h : cnt d => h1 h.1)]
theorem pend (s : List UInt8) (a : Int) (k p least r : Int) (hk : r < k) : m_spec_Point_0 (s, a, p, least, r, k) = some (.out (.inl (p, least, r))) := by
  simp only [m_spec_Point_0, cond_dec]
  rw [if_neg (by omega)]
theorem ploop1 (s : List UInt8) (a : Nat) (p least : Int) {d : UInt8} (hd : s[a + 1]? = some d) (hp : 0 ≤ p) (hp2 : p < 4096) (hl : s.length ≤ 2147483647) :
    loopO m_spec_Point_0 (s, (a : Int), p, least, (1 : Int), (1 : Int)) = some (if cnt d then .inl (p * 64 + ((d.toNat : Int) - 128), least, 1) else .inr (0, 0)) := by
  have h := pstep s a 1 p least 1 hd (by omega) hp (by omega) hl
  by_cases hc : cnt d
  · rw [if_pos hc] at h
    rw [if_pos hc, show loopO m_spec_Point_0 (s, (a : Int), p, least, (1 : Int), (1 : Int)) = _ from loopO_nx h]
    exact loopO_out (pend _ _ _ _ _ _ (by omega))
  · rw [if_neg hc] at h
    rw [if_neg hc]
    exact loopO_out h
theorem ploop2 (s : List UInt8) (a : Nat) (p least : Int) {d e : UInt8} (hd : s[a + 1]? = some d) (he : s[a + 2]? = some e) (hp : 0 ≤ p) (hp2 : p < 4096) (hl : s.length ≤ 2147483647) :
    loopO m_spec_Point_0 (s, (a : Int), p, least, (2 : Int), (1 : Int)) = some (if cnt d ∧ cnt e then .inl ((p * 64 + ((d.toNat : Int) - 128)) * 64 + ((e.toNat : Int) - 128), least, 2) else .inr (0, 0)) := by
  have h := pstep s a 1 p least 2 hd (by omega) hp (by omega) hl
  have hd2 := d.toNat_lt
  by_cases hc : cnt d
  · rw [if_pos hc] at h
    have hc' := hc
    unfold cnt at hc'
    have h2 := pstep s a 2 (p * 64 + ((d.toNat : Int) - 128)) least 2 he (by omega) (by omega) (by omega) hl
    rw [show loopO m_spec_Point_0 (s, (a : Int), p, least, (2 : Int), (1 : Int)) = _ from loopO_nx h]
    by_cases he' : cnt e
    · rw [if_pos he'] at h2
      rw [if_pos ⟨hc, he'⟩, show loopO m_spec_Point_0 (s, (a : Int), p * 64 + ((d.toNat : Int) - 128), least, (2 : Int), ((1 + 1 : Nat) : Int)) = _ from loopO_nx h2]
      exact loopO_out (pend _ _ _ _ _ _ (by omega))
    · rw [if_neg he'] at h2
      rw [if_neg (fun h => he' h.2)]
      exact loopO_out h2
  · rw [if_neg hc] at h
    rw [if_neg (fun h => hc h.1)]
    exact loopO_out h
theorem ploop3 (s : List UInt8) (a : Nat) (p least : Int) {d e f : UInt8} (hd : s[a + 1]? = some d) (he : s[a + 2]? = some e) (hf : s[a + 3]? = some f) (hp : 0 ≤ p) (hp2 : p < 4096) (hl : s.length ≤ 2147483647) :
    loopO m_spec_Point_0 (s, (a : Int), p, least, (3 : Int), (1 : Int)) = some (if cnt d ∧ cnt e ∧ cnt f then .inl (((p * 64 + ((d.toNat : Int) - 128)) * 64 + ((e.toNat : Int) - 128)) * 64 + ((f.toNat : Int) - 128), least, 3) else .inr (0, 0)) := by
  have h := pstep s a 1 p least 3 hd (by omega) hp (by omega) hl
  have hd2 := d.toNat_lt
  have he2 := e.toNat_lt
  by_cases hc : cnt d
  · rw [if_pos hc] at h
    have hc' := hc
    unfold cnt at hc'
    have h2 := pstep s a 2 (p * 64 + ((d.toNat : Int) - 128)) least 3 he (by omega) (by omega) (by omega) hl
    rw [show loopO m_spec_Point_0 (s, (a : Int), p, least, (3 : Int), (1 : Int)) = _ from loopO_nx h]
    by_cases he' : cnt e
    · rw [if_pos he'] at h2
      have he'' := he'
      unfold cnt at he''
      have h3 := pstep s a 3 ((p * 64 + ((d.toNat : Int) - 128)) * 64 + ((e.toNat : Int) - 128)) least 3 hf (by omega) (by omega) (by omega) hl
      rw [show loopO m_spec_Point_0 (s, (a : Int), p * 64 + ((d.toNat : Int) - 128), least, (3 : Int), ((1 + 1 : Nat) : Int)) = _ from loopO_nx h2]
      by_cases hf' : cnt f
      · rw [if_pos hf'] at h3
        rw [if_pos ⟨hc, he', hf'⟩, show loopO m_spec_Point_0 (s, (a : Int), (p * 64 + ((d.toNat : Int) - 128)) * 64 + ((e.toNat : Int) - 128), least, (3 : Int), ((2 + 1 : Nat) : Int)) = _ from loopO_nx h3]
        exact loopO_out (pend _ _ _ _ _ _ (by omega))
      · rw [if_neg hf'] at h3
        rw [if_neg (fun h => hf' h.2.2)]
        exact loopO_out h3
    · rw [if_neg he'] at h2
      rw [if_neg (fun h => he' h.2.1)]
      exact loopO_out h2
  · rw [if_neg hc] at h
    rw [if_neg (fun h => hc h.1)]
    exact loopO_out h
theorem dec8_dd {l : List UInt8} {i : Nat} {b0 b1 b2 b3 : UInt8} (h0 : l[i]? = some b0) (h1 : (l[i + 1]?).getD 0 = b1) (h2 : (l[i + 2]?).getD 0 = b2) (h3 : (l[i + 3]?).getD 0 = b3) :
    dec8 l i = dd b0.toNat b1.toNat b2.toNat b3.toNat (decide (i + 1 < l.length) && b1.toNat / 64 == 2) (decide (i + 2 < l.length) && b2.toNat / 64 == 2) (decide (i + 3 < l.length) && b3.toNat / 64 == 2) Utf8.valid Utf8.runeError := by
  have hsz : (ByteArray.mk l.toArray).size = l.length := by simp [ByteArray.size]
  have e : dec8 l i = dd ((ByteArray.mk l.toArray).get! (i + 0)).toNat ((ByteArray.mk l.toArray).get! (i + 1)).toNat ((ByteArray.mk l.toArray).get! (i + 2)).toNat ((ByteArray.mk l.toArray).get! (i + 3)).toNat
    (decide (i + 1 < (ByteArray.mk l.toArray).size) && ((ByteArray.mk l.toArray).get! (i + 1)).toNat / 64 == 2) (decide (i + 2 < (ByteArray.mk l.toArray).size) && ((ByteArray.mk l.toArray).get! (i + 2)).toNat / 64 == 2) (decide (i + 3 < (ByteArray.mk l.toArray).size) && ((ByteArray.mk l.toArray).get! (i + 3)).toNat / 64 == 2) Utf8.valid Utf8.runeError := rfl
  rw [e, getb, getb, getb, getb, hsz, h1, h2, h3, Nat.add_zero, h0, Option.getD_some]
/-- A code point that is there is what the language reads. -/
theorem point_dec (s : List UInt8) (a : Nat) (ha : a < s.length) (hl : s.length ≤ 2147483647) {p n : Int} (h : m_spec_Point (s, (a : Int)) = some (p, n)) (hn : n ≠ 0) : dec8 s a = (p.toNat, n.toNat) ∧ 0 ≤ p ∧ 1 ≤ n ∧ (a : Int) + n ≤ s.length := by
  obtain ⟨c, hc⟩ := get_lt ha
  have hc2 := c.toNat_lt
  simp only [m_spec_Point, cond_dec, atI_nat, hc, bind_some] at h
  rw [w64 (n := (c.toNat : Int)) (by omega) (by omega), w64 (n := (s.length : Int) - (a : Int)) (by omega) (by omega)] at h
  have fin : ∀ (o : Option (Int × Int)), o = some (0, 0) → o = some (p, n) → False := fun o h1 h2 => by
    rw [h1] at h2
    cases h2
    exact hn rfl
  by_cases h1 : c.toNat < 128
  · rw [if_pos (by omega)] at h
    cases h
    rw [dec8_low hc h1]
    refine ⟨by simp, by omega, by omega, by omega⟩
  · rw [if_neg (by omega)] at h
    by_cases h2 : 192 ≤ c.toNat
    · rw [if_pos (by omega)] at h
      rw [dec8_dd (i := a) hc rfl rfl rfl]
      unfold dd
      rw [if_neg h1]
      by_cases h3 : c.toNat < 224
      · rw [if_pos (by omega)] at h
        by_cases h4 : (s.length : Int) - (a : Int) ≤ 1
        · rw [if_pos h4] at h; exact (fin _ rfl h).elim
        · rw [if_neg h4, w64 (n := (c.toNat : Int) - 192) (by omega) (by omega)] at h
          obtain ⟨d, hd⟩ := get_lt (l := s) (k := a + 1) (by omega)
          rw [ploop1 s a _ 128 hd (by omega) (by omega) hl, bind_some] at h
          by_cases hcd : cnt d
          · rw [if_pos hcd] at h
            unfold cnt at hcd
            simp only [selim_l] at h
            by_cases h5 : ((c.toNat : Int) - 192) * 64 + ((d.toNat : Int) - 128) < 128
            · rw [if_pos h5] at h; exact (fin _ rfl h).elim
            · rw [if_neg h5, if_neg (by omega), if_neg (by omega)] at h
              rw [hd, Option.getD_some, show (c.toNat / 32 == 6) = true by simp; omega, show (decide (a + 1 < s.length) && d.toNat / 64 == 2) = true by simp; omega]
              simp only [Bool.and_self, if_true]
              rw [if_pos (by omega)]
              cases h
              refine ⟨by rw [show IntKind.wrap .i64 (1 + 1) = 2 from by decide]; congr 1; omega, by omega, by decide, by rw [show IntKind.wrap .i64 (1 + 1) = 2 from by decide]; omega⟩
          · rw [if_neg hcd] at h; exact (fin _ rfl h).elim
      · rw [if_neg (by omega), if_pos (by omega)] at h
        by_cases h3' : c.toNat < 240
        · rw [if_pos (by omega)] at h
          by_cases h4 : (s.length : Int) - (a : Int) ≤ 2
          · rw [if_pos h4] at h; exact (fin _ rfl h).elim
          · rw [if_neg h4, w64 (n := (c.toNat : Int) - 224) (by omega) (by omega)] at h
            obtain ⟨d, hd⟩ := get_lt (l := s) (k := a + 1) (by omega)
            obtain ⟨e, he⟩ := get_lt (l := s) (k := a + 2) (by omega)
            rw [ploop2 s a _ 2048 hd he (by omega) (by omega) hl, bind_some] at h
            by_cases hcd : cnt d ∧ cnt e
            · rw [if_pos hcd] at h
              unfold cnt at hcd
              simp only [selim_l] at h
              by_cases h5 : (((c.toNat : Int) - 224) * 64 + ((d.toNat : Int) - 128)) * 64 + ((e.toNat : Int) - 128) < 2048
              · rw [if_pos h5] at h; exact (fin _ rfl h).elim
              · rw [if_neg h5, if_neg (by omega)] at h
                have h8 : ¬ ((55296 : Int) ≤ (((c.toNat : Int) - 224) * 64 + ((d.toNat : Int) - 128)) * 64 + ((e.toNat : Int) - 128) ∧ (((c.toNat : Int) - 224) * 64 + ((d.toNat : Int) - 128)) * 64 + ((e.toNat : Int) - 128) < 57344) := fun g => by
                  rw [if_pos g.1, if_pos g.2] at h; exact (fin _ rfl h).elim
                have h9 : p = (((c.toNat : Int) - 224) * 64 + ((d.toNat : Int) - 128)) * 64 + ((e.toNat : Int) - 128) ∧ n = 3 := by
                  split at h
                  · split at h
                    · exact (fin _ rfl h).elim
                    · cases h; exact ⟨rfl, by decide⟩
                  · cases h; exact ⟨rfl, by decide⟩
                obtain ⟨h9, h10⟩ := h9
                rw [hd, he, Option.getD_some, Option.getD_some, show (c.toNat / 32 == 6) = false by simp; omega, show (c.toNat / 16 == 14) = true by simp; omega, show (decide (a + 1 < s.length) && d.toNat / 64 == 2) = true by simp; omega, show (decide (a + 2 < s.length) && e.toNat / 64 == 2) = true by simp; omega]
                simp only [Bool.false_and, Bool.and_self, if_true, Bool.false_eq_true, if_false]
                rw [if_pos (by simp [Utf8.valid]; omega)]
                refine ⟨by rw [h10, h9]; congr 1; omega, by omega, by omega, by omega⟩
            · rw [if_neg hcd] at h; exact (fin _ rfl h).elim
        · rw [if_neg (by omega), if_pos (by omega)] at h
          by_cases h3'' : c.toNat < 248
          · rw [if_pos (by omega)] at h
            by_cases h4 : (s.length : Int) - (a : Int) ≤ 3
            · rw [if_pos h4] at h; exact (fin _ rfl h).elim
            · rw [if_neg h4, w64 (n := (c.toNat : Int) - 240) (by omega) (by omega)] at h
              obtain ⟨d, hd⟩ := get_lt (l := s) (k := a + 1) (by omega)
              obtain ⟨e, he⟩ := get_lt (l := s) (k := a + 2) (by omega)
              obtain ⟨f, hf⟩ := get_lt (l := s) (k := a + 3) (by omega)
              rw [ploop3 s a _ 65536 hd he hf (by omega) (by omega) hl, bind_some] at h
              by_cases hcd : cnt d ∧ cnt e ∧ cnt f
              · rw [if_pos hcd] at h
                unfold cnt at hcd
                simp only [selim_l] at h
                by_cases h5 : ((((c.toNat : Int) - 240) * 64 + ((d.toNat : Int) - 128)) * 64 + ((e.toNat : Int) - 128)) * 64 + ((f.toNat : Int) - 128) < 65536
                · rw [if_pos h5] at h; exact (fin _ rfl h).elim
                · rw [if_neg h5] at h
                  by_cases h6 : (1114111 : Int) < ((((c.toNat : Int) - 240) * 64 + ((d.toNat : Int) - 128)) * 64 + ((e.toNat : Int) - 128)) * 64 + ((f.toNat : Int) - 128)
                  · rw [if_pos h6] at h; exact (fin _ rfl h).elim
                  · rw [if_neg h6, if_pos (by omega), if_neg (by omega)] at h
                    cases h
                    rw [hd, he, hf, Option.getD_some, Option.getD_some, Option.getD_some, show (c.toNat / 32 == 6) = false by simp; omega, show (c.toNat / 16 == 14) = false by simp; omega, show (c.toNat / 8 == 30) = true by simp; omega, show (decide (a + 1 < s.length) && d.toNat / 64 == 2) = true by simp; omega, show (decide (a + 2 < s.length) && e.toNat / 64 == 2) = true by simp; omega, show (decide (a + 3 < s.length) && f.toNat / 64 == 2) = true by simp; omega]
                    simp only [Bool.false_and, Bool.and_self, if_true, Bool.false_eq_true, if_false]
                    rw [if_pos (by simp [Utf8.valid]; omega)]
                    refine ⟨by rw [show IntKind.wrap .i64 (3 + 1) = 4 from by decide]; congr 1; omega, by omega, by decide, by rw [show IntKind.wrap .i64 (3 + 1) = 4 from by decide]; omega⟩
              · rw [if_neg hcd] at h; exact (fin _ rfl h).elim
          · rw [if_neg (by omega)] at h; exact (fin _ rfl h).elim
    · rw [if_neg (by omega)] at h
      rw [if_neg (by omega), if_neg (by omega)] at h
      exact (fin _ rfl h).elim
end Go.Proofs.Ytldldchdkcmojaa.V
