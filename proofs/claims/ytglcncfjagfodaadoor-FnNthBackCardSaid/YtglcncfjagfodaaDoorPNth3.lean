/-
  FnNthBack: what is read back. Plain facts.
-/
import Derived.Test.YtglcncfjagfodaaDoorPNth2
set_option linter.unusedVariables false
set_option linter.unusedSimpArgs false
namespace Go.Proofs.YtglcncfjagfodaaDoor.V
open Go

theorem wu8' {n : Int} (h1 : 0 ≤ n) (h2 : n < 256) : IntKind.wrap .u8 n = n := by
  simp [IntKind.wrap, IntKind.bits, IntKind.signed]
  omega
theorem sub_nat' {α : Type} (l : List α) {lo hi : Nat} (h1 : lo ≤ hi) (h2 : hi ≤ l.length) : subL l (lo : Int) (hi : Int) = some ((l.take hi).drop lo) := by
  unfold subL
  rw [if_pos (by omega)]
  rfl
theorem atoi_eq (l : List UInt8) (h0 : 0 < l.length) (h1 : l.length ≤ 7) (hd : ∀ c ∈ l, 48 ≤ c.toNat ∧ c.toNat ≤ 57) : m_strconv_Atoi l = some (((dval l 0 : Nat) : Int), false) := by
  have key : ∀ m k, l.length - k = m → k ≤ l.length → loopO m_internal_strconv_Atoi_0 (l, ((dval (l.take k) 0 : Nat) : Int), l, (l.length : Int), (k : Int)) = some (.inl (l, ((dval l 0 : Nat) : Int))) := by
    intro m
    induction m with
    | zero =>
      intro k hm hk
      refine loopO_out ?_
      simp only [m_internal_strconv_Atoi_0, cond_dec]
      rw [if_neg (by omega), List.take_of_length_le (by omega)]
    | succ m ih =>
      intro k hm hk
      obtain ⟨c, hc⟩ := get_lt (l := l) (k := k) (by omega)
      have hcd := hd c (List.mem_of_getElem? hc)
      have hlt := dval_lt (l.take k) 0 fun c hc => hd c (List.mem_of_mem_take hc)
      have h5 : (l.take k).length ≤ 7 := by rw [List.length_take]; omega
      have hp : 10 ^ (l.take k).length ≤ 10 ^ 7 := Nat.pow_le_pow_right (by omega) h5
      have e : dval (l.take (k + 1)) 0 = 10 * dval (l.take k) 0 + (c.toNat - 48) := by
        rw [List.take_add_one, hc]
        simp [dval, List.foldl_append]
      have ev : ((dval (l.take k) 0 : Nat) : Int) * 10 + ((c.toNat : Int) - 48) = ((dval (l.take (k + 1)) 0 : Nat) : Int) := by rw [e]; omega
      have step : m_internal_strconv_Atoi_0 (l, ((dval (l.take k) 0 : Nat) : Int), l, (l.length : Int), (k : Int)) = some (.nx (l, ((dval (l.take (k + 1)) 0 : Nat) : Int), l, (l.length : Int), ((k + 1 : Nat) : Int))) := by
        simp only [m_internal_strconv_Atoi_0, cond_dec, atI_nat, Int.toNat_natCast, hc, bind_some]
        rw [if_pos (by omega), wu8' (n := (c.toNat : Int) - 48) (by omega) (by omega), if_neg (by omega)]
        rw [w64 (n := ((dval (l.take k) 0 : Nat) : Int) * 10) (by omega) (by omega), w64 (n := (c.toNat : Int) - 48) (by omega) (by omega), w64 (n := ((dval (l.take k) 0 : Nat) : Int) * 10 + ((c.toNat : Int) - 48)) (by omega) (by omega), w64 (n := (k : Int) + 1) (by omega) (by omega), ev]
        rfl
      rw [loopO_nx step]
      exact ih (k + 1) (by omega) (by omega)
  obtain ⟨c, hc⟩ := get_lt (l := l) (k := 0) (by omega)
  have hcd := hd c (List.mem_of_getElem? hc)
  simp only [m_strconv_Atoi, m_internal_strconv_Atoi, cond_dec, atI_zero, hc, bind_some]
  rw [if_pos (by omega), if_pos (by omega), if_neg (by omega), if_neg (by omega)]
  rw [show loopO m_internal_strconv_Atoi_0 (l, (0 : Int), l, (l.length : Int), (0 : Int)) = _ from key _ 0 rfl (Nat.zero_le _), bind_some, selim_l]
  simp only [hc, bind_some]
  rw [if_neg (by omega), bind_some]
  rfl
theorem int_eq (pre r : List UInt8) (n : Nat) (hn : n < 100000) (hl : pre.length + r.length ≤ 100) (hr : ∀ c, r[0]? = some c → ¬ (48 ≤ c.toNat ∧ c.toNat ≤ 57)) (dp : Int) (ac : Bool) :
    m_cascadia_parser_parseInteger (pre ++ digs n ++ r, (pre.length : Int), dp, ac) = some ((n : Int), false, pre ++ digs n ++ r, ((pre.length + (digs n).length : Nat) : Int), dp, ac) := by
  have hd := digs_dig 5 n (by omega)
  have hlen := digs_len 5 n (by omega)
  have hv := digs_val 5 n (by omega)
  generalize digs n = l at hd hlen hv ⊢
  have hsl : (pre ++ l ++ r).length = pre.length + l.length + r.length := by simp; omega
  have hget : ∀ k, k < l.length → (pre ++ l ++ r)[pre.length + k]? = l[k]? := fun k hk => by
    rw [List.append_assoc, List.getElem?_append_right (by omega), List.getElem?_append_left (by omega)]
    congr 1
    omega
  have hend : (pre ++ l ++ r)[pre.length + l.length]? = r[0]? := by
    rw [List.getElem?_append_right (by simp)]
    congr 1
    simp
  have key : ∀ m k, l.length - k = m → k ≤ l.length → loopO m_cascadia_parser_parseInteger_0 ((pre ++ l ++ r, (pre.length : Int), dp, ac), ((pre.length + k : Nat) : Int), (pre.length : Int)) = some ((pre ++ l ++ r, (pre.length : Int), dp, ac), ((pre.length + l.length : Nat) : Int), (pre.length : Int)) := by
    intro m
    induction m with
    | zero =>
      intro k hm hk
      have : k = l.length := by omega
      subst this
      refine loopO_out ?_
      simp only [m_cascadia_parser_parseInteger_0, cond_dec, atI_nat, hend]
      cases hc : r[0]? with
      | none =>
        have := List.getElem?_eq_none_iff.1 hc
        rw [if_neg (by omega)]
      | some c =>
        have hlt := (List.getElem?_eq_some_iff.1 hc).1
        have := hr c hc
        rw [if_pos (by omega), bind_some]
        by_cases a1 : 48 ≤ c.toNat
        · rw [if_pos (by omega), bind_some, if_neg (by omega)]
        · rw [if_neg (by omega)]
    | succ m ih =>
      intro k hm hk
      obtain ⟨c, hc⟩ := get_lt (l := l) (k := k) (by omega)
      have hcd := hd c (List.mem_of_getElem? hc)
      have step : m_cascadia_parser_parseInteger_0 ((pre ++ l ++ r, (pre.length : Int), dp, ac), ((pre.length + k : Nat) : Int), (pre.length : Int)) = some (.nx ((pre ++ l ++ r, (pre.length : Int), dp, ac), ((pre.length + (k + 1) : Nat) : Int), (pre.length : Int))) := by
        simp only [m_cascadia_parser_parseInteger_0, cond_dec, atI_nat, hget k (by omega), hc, bind_some]
        rw [if_pos (by omega), if_pos (by omega), if_pos (by omega), w64 (by omega) (by omega)]
        rfl
      rw [loopO_nx step]
      exact ih (k + 1) (by omega) (by omega)
  have hsub : subL (pre ++ l ++ r) (pre.length : Int) ((pre.length + l.length : Nat) : Int) = some l := by
    rw [sub_nat' _ (by omega) (by omega)]
    congr 1
    rw [List.append_assoc, List.take_length_add_append, List.drop_left, List.take_left]
  simp only [m_cascadia_parser_parseInteger]
  rw [show loopO m_cascadia_parser_parseInteger_0 ((pre ++ l ++ r, (pre.length : Int), dp, ac), (pre.length : Int), (pre.length : Int)) = _ from key _ 0 rfl (Nat.zero_le _), bind_some]
  simp only [cond_dec]
  rw [if_neg (by omega), hsub, bind_some, atoi_eq l hlen.2 (by omega) hd, bind_some, hv]
  rfl
/-- No white space comes next. -/
theorem skip_eq (s : List UInt8) (i : Nat) (c : UInt8) (hs : s.length ≤ 1000) (hc : s[i]? = some c) (h : 48 ≤ c.toNat ∨ c.toNat = 43 ∨ c.toNat = 45) (dp : Int) (ac : Bool) : m_cascadia_parser_skipWhitespace (s, (i : Int), dp, ac) = some (false, s, (i : Int), dp, ac) := by
  have hi := (List.getElem?_eq_some_iff.1 hc).1
  have hl : loopO m_cascadia_parser_skipWhitespace_0 ((s, (i : Int), dp, ac), (i : Int)) = some ((s, (i : Int), dp, ac), (i : Int)) := by
    refine loopO_out ?_
    simp only [m_cascadia_parser_skipWhitespace_0, cond_dec, atI_nat, hc, bind_some]
    rw [if_pos (by omega), if_neg (by omega), if_neg (by omega), if_neg (by omega), if_neg (by omega), if_neg (by omega), if_neg (by omega)]
  simp only [m_cascadia_parser_skipWhitespace, hl, bind_some, cond_dec]
  rw [if_neg (by omega)]
/-! The blocks -/
theorem b1_digit (s : List UInt8) (i dp : Int) (ac : Bool) (c : Nat) (h : 48 ≤ c ∧ c ≤ 57) : m_cascadia_parser_parseNth_b1 ((s, i, dp, ac), (c : Int)) = Option.bind (m_cascadia_parser_parseInteger (s, i, dp, ac)) fun r => cond (!!r.2.1) (some (Sum.inr (Sum.inr (Sum.inr ((r.2.2.1, r.2.2.2.1, r.2.2.2.2.1, r.2.2.2.2.2), 0, 0, r.2.1))))) (some (Sum.inr (Sum.inr (Sum.inl ((r.2.2.1, r.2.2.2.1, r.2.2.2.2.1, r.2.2.2.2.2), r.1))))) := by
  obtain ⟨h1, h2⟩ := h
  have : c = 48 ∨ c = 49 ∨ c = 50 ∨ c = 51 ∨ c = 52 ∨ c = 53 ∨ c = 54 ∨ c = 55 ∨ c = 56 ∨ c = 57 := by omega
  rcases this with rfl | rfl | rfl | rfl | rfl | rfl | rfl | rfl | rfl | rfl <;> rfl
theorem b2_digit (s : List UInt8) (i dp : Int) (ac : Bool) (c : Nat) (h : 48 ≤ c ∧ c ≤ 57) : m_cascadia_parser_parseNth_b2 ((s, i, dp, ac), (c : Int)) = Option.bind (m_cascadia_parser_parseInteger (s, i, dp, ac)) fun r => cond (!!r.2.1) (some (Sum.inr (Sum.inr (Sum.inr ((r.2.2.1, r.2.2.2.1, r.2.2.2.2.1, r.2.2.2.2.2), 0, 0, r.2.1))))) (some (Sum.inr (Sum.inr (Sum.inl ((r.2.2.1, r.2.2.2.1, r.2.2.2.2.1, r.2.2.2.2.2), IntKind.wrap .i64 (0 - r.1)))))) := by
  obtain ⟨h1, h2⟩ := h
  have : c = 48 ∨ c = 49 ∨ c = 50 ∨ c = 51 ∨ c = 52 ∨ c = 53 ∨ c = 54 ∨ c = 55 ∨ c = 56 ∨ c = 57 := by omega
  rcases this with rfl | rfl | rfl | rfl | rfl | rfl | rfl | rfl | rfl | rfl <;> rfl
theorem b0_digit (s : List UInt8) (i dp : Int) (ac : Bool) (c : Nat) (h : 48 ≤ c ∧ c ≤ 57) : m_cascadia_parser_parseNth_b0 ((s, i, dp, ac), (c : Int)) = some (Sum.inr (Sum.inl (s, i, dp, ac))) := by
  obtain ⟨h1, h2⟩ := h
  have : c = 48 ∨ c = 49 ∨ c = 50 ∨ c = 51 ∨ c = 52 ∨ c = 53 ∨ c = 54 ∨ c = 55 ∨ c = 56 ∨ c = 57 := by omega
  rcases this with rfl | rfl | rfl | rfl | rfl | rfl | rfl | rfl | rfl | rfl <;> rfl
end Go.Proofs.YtglcncfjagfodaaDoor.V
