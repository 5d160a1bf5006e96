/-
  Bytes of names, escapes: what the readers of selectors' texts do with them. Plain facts.
-/
import Derived.Test.YtlgabeiaheoniaaDoorPBase
import Derived.Test.YtlgabeiaheoniaaDoorLwRead
set_option linter.unusedVariables false
set_option linter.unusedSimpArgs false
namespace Go.Proofs.YtlgabeiaheoniaaDoor.V
open Go

def nameN (n : Nat) : Bool := (97 ≤ n && n ≤ 122) || (65 ≤ n && n ≤ 90) || n == 95 || 128 ≤ n || n == 45 || (48 ≤ n && n ≤ 57)
def hexN (n : Nat) : Bool := (48 ≤ n && n ≤ 57) || (97 ≤ n && n ≤ 102) || (65 ≤ n && n ≤ 70)
def hexV (n : Nat) : Nat := if n ≤ 57 then n - 48 else if n ≤ 70 then n - 55 else n - 87
theorem nameChar_all : ∀ n : Fin 256, m_cascadia_nameChar (n.val : Int) = some (nameN n.val) := by decide +kernel
theorem nameByte_all : ∀ n : Fin 256, m_spec_nameByte (n.val : Int) = some (nameN n.val) := by decide +kernel
theorem hexDigit_all : ∀ n : Fin 256, m_cascadia_hexDigit (n.val : Int) = some (hexN n.val) := by decide +kernel
theorem hexadecimal_all : ∀ n : Fin 256, m_spec_hexadecimal (n.val : Int) = some (if hexN n.val then (hexV n.val : Int) else -1) := by decide +kernel
theorem lower_all : ∀ n : Fin 256, hexN n.val = true → 57 < n.val → m_internal_strconv_lower (n.val : Int) = some ((hexV n.val : Int) + 87) := by decide +kernel
theorem hexV_all : ∀ n : Fin 256, hexN n.val = true → hexV n.val < 16 := by decide +kernel
theorem hexB_all : ∀ n : Fin 256, hexN n.val = true → 57 < n.val → 10 ≤ hexV n.val := by decide +kernel
theorem hex95_all : ∀ n : Fin 256, hexN n.val = true → n.val ≠ 95 ∧ 48 ≤ n.val ∧ (n.val ≤ 57 → hexV n.val = n.val - 48) := by decide +kernel
theorem hexName_all : ∀ n : Fin 256, hexN n.val = true → nameN n.val = true ∧ n.val < 128 := by decide +kernel
theorem name92_all : ∀ n : Fin 256, nameN n.val = true → n.val ≠ 92 ∧ n.val ≠ 10 ∧ n.val ≠ 13 ∧ n.val ≠ 12 ∧ n.val ≠ 34 ∧ n.val ≠ 39 := by decide +kernel
theorem high_all : ∀ n : Fin 256, 128 ≤ n.val → nameN n.val = true ∧ hexN n.val = false := by decide +kernel
def fin (c : UInt8) : Fin 256 := ⟨c.toNat, c.toNat_lt⟩
theorem nameChar_eq (c : UInt8) : m_cascadia_nameChar (c.toNat : Int) = some (nameN c.toNat) := nameChar_all (fin c)
theorem nameByte_eq (c : UInt8) : m_spec_nameByte (c.toNat : Int) = some (nameN c.toNat) := nameByte_all (fin c)
theorem hexDigit_eq (c : UInt8) : m_cascadia_hexDigit (c.toNat : Int) = some (hexN c.toNat) := hexDigit_all (fin c)
theorem hexadecimal_eq (c : UInt8) : m_spec_hexadecimal (c.toNat : Int) = some (if hexN c.toNat then (hexV c.toNat : Int) else -1) := hexadecimal_all (fin c)
theorem high (c : UInt8) (h : 128 ≤ c.toNat) : nameN c.toNat = true ∧ hexN c.toNat = false := high_all (fin c) h
theorem wu64 {n : Int} (h1 : 0 ≤ n) (h2 : n < 18446744073709551616) : IntKind.wrap .u64 n = n := by
  simp [IntKind.wrap, IntKind.bits, IntKind.signed]
  omega
theorem wu8 {n : Int} (h1 : 0 ≤ n) (h2 : n < 256) : IntKind.wrap .u8 n = n := by
  simp [IntKind.wrap, IntKind.bits, IntKind.signed]
  omega
theorem catS_some {l m : List UInt8} (h : l.length + m.length ≤ 9223372036854775807) : catS l m = some (l ++ m) := by simp [catS, h]
theorem sub_nat {α : Type} (l : List α) {lo hi : Nat} (h1 : lo ≤ hi) (h2 : hi ≤ l.length) : subL l (lo : Int) (hi : Int) = some ((l.take hi).drop lo) := by
  unfold subL
  rw [if_pos (by omega)]
  rfl
theorem sub_one {α : Type} {l : List α} {i : Nat} {c : α} (h : l[i]? = some c) : subL l (i : Int) ((i : Int) + 1) = some [c] := by
  have hi := (List.getElem?_eq_some_iff.1 h).1
  rw [show ((i : Int) + 1) = ((i + 1 : Nat) : Int) by omega, sub_nat l (by omega) (by omega), List.take_add_one, h]
  rw [List.drop_append_of_le_length (by rw [List.length_take]; omega), List.drop_of_length_le (by rw [List.length_take]; omega)]
  rfl

/-! Digits -/
def hval (l : List UInt8) (a : Nat) : Nat := l.foldl (fun a c => 16 * a + hexV c.toNat) a
theorem hval_lt : ∀ (l : List UInt8) (a : Nat), (∀ c ∈ l, hexN c.toNat = true) → hval l a < 16 ^ l.length * (a + 1)
  | [], a, _ => by simp [hval]
  | c :: l, a, h => by
    have h1 := hval_lt l (16 * a + hexV c.toNat) fun d hd => h d (List.mem_cons_of_mem _ hd)
    have h2 := hexV_all (fin c) (h c (by simp))
    have h2 : hexV c.toNat < 16 := h2
    show hval l (16 * a + hexV c.toNat) < _
    refine Nat.lt_of_lt_of_le h1 ?_
    rw [List.length_cons, Nat.pow_succ, Nat.mul_assoc]
    exact Nat.mul_le_mul_left _ (by omega)
/-- Digits from a place on, at most k: where they end, and their value. -/
def hexs (s : List UInt8) : Nat → Nat → Nat → Nat × Nat
  | 0, i, a => (i, a)
  | k + 1, i, a => match s[i]? with
    | some c => if hexN c.toNat then hexs s k (i + 1) (16 * a + hexV c.toNat) else (i, a)
    | none => (i, a)
theorem hexs_spec (s : List UInt8) : ∀ (k i a : Nat), ∃ l r, s.drop i = l ++ r ∧ (∀ c ∈ l, hexN c.toNat = true) ∧ l.length ≤ k ∧ hexs s k i a = (i + l.length, hval l a)
  | 0, i, a => ⟨[], s.drop i, rfl, (fun _ h => by cases h), Nat.le_refl _, rfl⟩
  | k + 1, i, a => by
    simp only [hexs]
    cases hc : s[i]? with
    | none => exact ⟨[], s.drop i, rfl, (fun _ h => by cases h), Nat.zero_le _, rfl⟩
    | some c =>
      simp only
      cases hh : hexN c.toNat with
      | false => exact ⟨[], s.drop i, rfl, (fun _ h => by cases h), Nat.zero_le _, rfl⟩
      | true =>
        obtain ⟨l, r, h1, h2, h3, h4⟩ := hexs_spec s k (i + 1) (16 * a + hexV c.toNat)
        have hd : s.drop i = c :: s.drop (i + 1) := by
          obtain ⟨g1, g2⟩ := List.getElem?_eq_some_iff.1 hc
          rw [← g2]
          exact List.drop_eq_getElem_cons g1
        refine ⟨c :: l, r, by rw [hd, h1]; rfl, fun d hd => ?_, by simp; omega, ?_⟩
        · rcases List.mem_cons.1 hd with rfl | hd
          · exact hh
          · exact h2 d hd
        · simp only [if_true]
          rw [h4]
          simp only [List.length_cons, hval, List.foldl_cons, Prod.mk.injEq, and_true]
          omega
theorem hexs_le (s : List UInt8) (k i a : Nat) (hi : i ≤ s.length) : i ≤ (hexs s k i a).1 ∧ (hexs s k i a).1 ≤ s.length ∧ (hexs s k i a).1 ≤ i + k := by
  obtain ⟨l, r, h1, h2, h3, h4⟩ := hexs_spec s k i a
  rw [h4]
  have := congrArg List.length h1
  simp at this
  simp only
  omega
/-- White space behind an escape. -/
def sp (s : List UInt8) (j : Nat) : Nat := match s[j]? with
  | some c => if c.toNat = 13 then (match s[j + 1]? with
      | some d => if d.toNat = 10 then j + 2 else j + 1
      | none => j + 1) else if c.toNat = 32 ∨ c.toNat = 9 ∨ c.toNat = 10 ∨ c.toNat = 12 then j + 1 else j
  | none => j
theorem sp_le (s : List UInt8) (j : Nat) (hj : j ≤ s.length) : j ≤ sp s j ∧ sp s j ≤ s.length := by
  unfold sp
  cases h : s[j]? with
  | none => simp only; omega
  | some c =>
    have hl := (List.getElem?_eq_some_iff.1 h).1
    simp only
    split
    · cases h2 : s[j + 1]? with
      | none => simp only; omega
      | some d =>
        have hl2 := (List.getElem?_eq_some_iff.1 h2).1
        simp only
        split <;> omega
    · split <;> omega
/-! ParseUint, base 16 -/
theorem pu_step (bytes s0 : List UInt8) (n k : Nat) (c : UInt8) (hk : bytes[k]? = some c) (hl : bytes.length ≤ 1000) (hn : n < 16777216) (hc : hexN c.toNat = true) :
    m_internal_strconv_ParseUint_16_0 ((), false, s0, 1152921504606846976, 18446744073709551615, false, (n : Int), bytes, (bytes.length : Int), (k : Int)) = some (.nx ((), false, s0, 1152921504606846976, 18446744073709551615, false, ((16 * n + hexV c.toNat : Nat) : Int), bytes, (bytes.length : Int), ((k + 1 : Nat) : Int))) := by
  have hb := (List.getElem?_eq_some_iff.1 hk).1
  have hv := hexV_all (fin c) hc
  have hv : hexV c.toNat < 16 := hv
  obtain ⟨q1, q2, q3⟩ := hex95_all (fin c) hc
  have q1 : c.toNat ≠ 95 := q1
  have q2 : 48 ≤ c.toNat := q2
  have q3 : c.toNat ≤ 57 → hexV c.toNat = c.toNat - 48 := q3
  have hlt := c.toNat_lt
  simp only [m_internal_strconv_ParseUint_16_0, cond_dec, atI_nat, Int.toNat_natCast]
  rw [if_pos (by omega), hk]
  simp only [bind_some]
  rw [if_neg (by omega), if_pos (by omega)]
  have e16 : IntKind.wrap .u64 16 = 16 := wu64 (by omega) (by omega)
  have e8 : IntKind.wrap .u8 16 = 16 := wu8 (by omega) (by omega)
  have ek : IntKind.wrap .i64 ((k : Int) + 1) = ((k + 1 : Nat) : Int) := by rw [w64 (by omega) (by omega)]; omega
  have em : IntKind.wrap .u64 ((n : Int) * 16) = (n : Int) * 16 := wu64 (by omega) (by omega)
  have ev : IntKind.wrap .u64 (hexV c.toNat : Int) = (hexV c.toNat : Int) := wu64 (by omega) (by omega)
  have ea : IntKind.wrap .u64 ((n : Int) * 16 + (hexV c.toNat : Int)) = ((16 * n + hexV c.toNat : Nat) : Int) := by rw [wu64 (by omega) (by omega)]; omega
  by_cases h57 : c.toNat ≤ 57
  · have e1 : IntKind.wrap .u8 ((c.toNat : Int) - 48) = (hexV c.toNat : Int) := by rw [wu8 (by omega) (by omega), q3 h57]; omega
    rw [if_pos (by omega), e1, e8, e16, em, ev, ea, ek]
    rw [if_neg (by omega), if_neg (by omega), if_neg (by omega), if_neg (by omega)]
  · have hlow : m_internal_strconv_lower (c.toNat : Int) = some ((hexV c.toNat : Int) + 87) := lower_all (fin c) hc (by show 57 < c.toNat; omega)
    have h10 : 10 ≤ hexV c.toNat := by
      exact hexB_all (fin c) hc (by show 57 < c.toNat; omega)
    have e1 : IntKind.wrap .u8 (IntKind.wrap .u8 ((hexV c.toNat : Int) + 87 - 97) + 10) = (hexV c.toNat : Int) := by
      rw [wu8 (n := (hexV c.toNat : Int) + 87 - 97) (by omega) (by omega), wu8 (by omega) (by omega)]; omega
    rw [if_neg (by omega)]
    rw [hlow, bind_some, if_pos (by omega), bind_some, if_pos (by omega), bind_some, e1, e8, e16, em, ev, ea, ek]
    rw [if_neg (by omega), if_neg (by omega), if_neg (by omega), if_neg (by omega)]
theorem pu16_eq (l : List UInt8) (hl : l ≠ []) (h6 : l.length ≤ 6) (hh : ∀ c ∈ l, hexN c.toNat = true) : m_strconv_ParseUint_16 (l, (), ()) = some (((hval l 0 : Nat) : Int), false) := by
  have key : ∀ m k, l.length - k = m → k ≤ l.length → loopO m_internal_strconv_ParseUint_16_0 ((), false, l, 1152921504606846976, 18446744073709551615, false, ((hval (l.take k) 0 : Nat) : Int), l, (l.length : Int), (k : Int)) = some (.inl (l, false, ((hval l 0 : Nat) : Int))) := by
    intro m
    induction m with
    | zero =>
      intro k hm hk
      refine loopO_out ?_
      simp only [m_internal_strconv_ParseUint_16_0, cond_dec]
      rw [if_neg (by omega), List.take_of_length_le (by omega)]
    | succ m ih =>
      intro k hm hk
      obtain ⟨c, hc⟩ := get_lt (l := l) (k := k) (by omega)
      have hlt := hval_lt (l.take k) 0 fun c hc => hh c (List.mem_of_mem_take hc)
      have h5 : (l.take k).length ≤ 5 := by rw [List.length_take]; omega
      have hp : 16 ^ (l.take k).length ≤ 16 ^ 5 := Nat.pow_le_pow_right (by omega) h5
      have step := pu_step l l (hval (l.take k) 0) k c hc (by omega) (by omega) (hh c (List.mem_of_getElem? hc))
      have e : 16 * hval (l.take k) 0 + hexV c.toNat = hval (l.take (k + 1)) 0 := by
        rw [List.take_add_one, hc]
        simp [hval, List.foldl_append]
      rw [e] at step
      rw [loopO_nx step]
      exact ih (k + 1) (by omega) (by omega)
  have hs : shlI .u64 1 (IntKind.wrap .u64 64) = some 0 := by decide +kernel
  have hw : IntKind.wrap .u64 (0 - 1) = 18446744073709551615 := by decide +kernel
  simp only [m_strconv_ParseUint_16, m_internal_strconv_ParseUint_16, cond_dec]
  rw [if_neg (fun e => hl (by rw [e])), hs, bind_some, hw]
  rw [show (decide ((16 : Int) = 0)) = false from rfl]
  rw [show loopO m_internal_strconv_ParseUint_16_0 ((), false, l, 1152921504606846976, 18446744073709551615, false, (0 : Int), l, (l.length : Int), (0 : Int)) = _ from key _ 0 rfl (Nat.zero_le _), bind_some, selim_l]
  rfl
/-! Letters of a code point -/
theorem enc8_ne (n : Int) : enc8 n ≠ [] := by
  unfold enc8 Utf8.encode
  simp only
  generalize (if Utf8.valid n = true then n.toNat else Utf8.runeError) = c
  by_cases h1 : c < 128
  · simp [h1]
  · by_cases h2 : c < 2048
    · simp [h1, h2]
    · by_cases h3 : c < 65536 <;> simp [h1, h2, h3]
theorem enc8_len (n : Int) : (enc8 n).length ≤ 4 := by
  unfold enc8 Utf8.encode
  simp only
  generalize (if Utf8.valid n = true then n.toNat else Utf8.runeError) = c
  by_cases h1 : c < 128
  · simp [h1]
  · by_cases h2 : c < 2048
    · simp [h1, h2]
    · by_cases h3 : c < 65536 <;> simp [h1, h2, h3]
theorem encoded_eq (n : Int) : m_spec_Encoded n = some (enc8 (IntKind.wrap .i32 n)) := by
  simp only [m_spec_Encoded, castE, bind_some]
  simp [encs8]
end Go.Proofs.YtlgabeiaheoniaaDoor.V
