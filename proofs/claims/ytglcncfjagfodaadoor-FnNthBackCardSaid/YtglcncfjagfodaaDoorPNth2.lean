/-
  FnNthBack. Plain facts.
-/
import Derived.Test.YtglcncfjagfodaaDoorPBase
import Derived.Test.YtglcncfjagfodaaDoorLwNth
set_option linter.unusedVariables false
set_option linter.unusedSimpArgs false
namespace Go.Proofs.YtglcncfjagfodaaDoor.V
open Go

def dg (n : Nat) : UInt8 := UInt8.ofNat (48 + n)
def digs (n : Nat) : List UInt8 := if n < 10 then [dg n] else digs (n / 10) ++ [dg (n % 10)]
termination_by n
theorem dg_all : ∀ n : Fin 10, (dg n.val).toNat = 48 + n.val := by decide +kernel
theorem dg_nat {n : Nat} (h : n < 10) : (dg n).toNat = 48 + n := dg_all ⟨n, h⟩
theorem digit_all : ∀ n : Fin 10, subL [48, 49, 50, 51, 52, 53, 54, 55, 56, 57] (n.val : Int) (IntKind.wrap .i64 ((n.val : Int) + 1)) = some [dg n.val] := by decide +kernel
theorem digs_small {n : Nat} (h : n < 10) : digs n = [dg n] := by rw [digs, if_pos h]
theorem digs_big {n : Nat} (h : ¬ n < 10) : digs n = digs (n / 10) ++ [dg (n % 10)] := by rw [digs, if_neg h]
theorem digs_len : ∀ (k n : Nat), n < 10 ^ k → (digs n).length ≤ k + 1 ∧ 0 < (digs n).length
  | 0, n, h => by rw [digs_small (by simp at h; omega)]; simp
  | k + 1, n, h => by
    by_cases h1 : n < 10
    · rw [digs_small h1]; simp
    · have := digs_len k (n / 10) (by rw [Nat.pow_succ] at h; omega)
      rw [digs_big h1, List.length_append]
      simp
      omega
theorem digs_dig : ∀ (k n : Nat), n < 10 ^ k → ∀ c ∈ digs n, 48 ≤ c.toNat ∧ c.toNat ≤ 57
  | 0, n, h, c, hc => by
    rw [digs_small (by simp at h; omega)] at hc
    simp at hc
    subst hc
    rw [dg_nat (by simp at h; omega)]
    simp at h
    omega
  | k + 1, n, h, c, hc => by
    by_cases h1 : n < 10
    · rw [digs_small h1] at hc
      simp at hc
      subst hc
      rw [dg_nat h1]
      omega
    · rw [digs_big h1, List.mem_append] at hc
      rcases hc with hc | hc
      · exact digs_dig k (n / 10) (by rw [Nat.pow_succ] at h; omega) c hc
      · simp at hc
        subst hc
        rw [dg_nat (by omega)]
        omega
def dval (l : List UInt8) (a : Nat) : Nat := l.foldl (fun a c => 10 * a + (c.toNat - 48)) a
theorem digs_val : ∀ (k n : Nat), n < 10 ^ k → dval (digs n) 0 = n
  | 0, n, h => by
    have h1 : n < 10 := by simp at h; omega
    rw [digs_small h1]
    simp [dval, dg_nat h1]
  | k + 1, n, h => by
    by_cases h1 : n < 10
    · rw [digs_small h1]
      simp [dval, dg_nat h1]
    · have ih := digs_val k (n / 10) (by rw [Nat.pow_succ] at h; omega)
      rw [digs_big h1]
      unfold dval at ih ⊢
      rw [List.foldl_append, ih]
      simp [dg_nat (show n % 10 < 10 by omega)]
      omega
theorem dval_lt : ∀ (l : List UInt8) (a : Nat), (∀ c ∈ l, 48 ≤ c.toNat ∧ c.toNat ≤ 57) → dval l a < 10 ^ l.length * (a + 1)
  | [], a, _ => by simp [dval]
  | c :: l, a, h => by
    have h1 := dval_lt l (10 * a + (c.toNat - 48)) fun d hd => h d (List.mem_cons_of_mem _ hd)
    have h2 := h c (by simp)
    show dval l (10 * a + (c.toNat - 48)) < _
    refine Nat.lt_of_lt_of_le h1 ?_
    rw [List.length_cons, Nat.pow_succ, Nat.mul_assoc]
    exact Nat.mul_le_mul_left _ (by omega)
theorem cat_some {l m : List UInt8} (h : l.length + m.length ≤ 9223372036854775807) : catS l m = some (l ++ m) := by simp [catS, h]
/-! The specification's numbers -/
theorem decimal_small (f n : Nat) (h : n < 10) : m_spec_decimal (f + 1) (n : Int) = some [dg n] := by
  show b_spec_decimal (m_spec_decimal f) (n : Int) = _
  simp only [b_spec_decimal, cond_dec]
  rw [if_pos (by omega), show subL _ _ _ = _ from digit_all ⟨n, h⟩, bind_some]
theorem decimal_eq : ∀ (f n : Nat), n < 10 ^ f → n < 100000 → m_spec_decimal (f + 1) (n : Int) = some (digs n)
  | 0, n, h, _ => by
    have h1 : n < 10 := by simp at h; omega
    rw [decimal_small 0 n h1, digs_small h1]
  | f + 1, n, h, h5 => by
    by_cases h1 : n < 10
    · rw [decimal_small _ n h1, digs_small h1]
    · have h2 : n / 10 < 10 ^ f := by rw [Nat.pow_succ] at h; omega
      have ih := decimal_eq f (n / 10) h2 (by omega)
      have hl := digs_len 5 (n / 10) (by omega)
      have hr := decimal_small f (n % 10) (by omega)
      show b_spec_decimal (m_spec_decimal (f + 1)) (n : Int) = _
      simp only [b_spec_decimal, cond_dec]
      have e1 : divI .i64 (n : Int) 10 = some ((n / 10 : Nat) : Int) := by
        unfold divI
        rw [if_neg (by omega)]
        congr 1
        rw [show (n : Int).tdiv 10 = ((n / 10 : Nat) : Int) from by rw [Int.tdiv_eq_ediv_of_nonneg (by omega)]; rfl, w64 (by omega) (by omega)]
      have e2 : remI (n : Int) 10 = some ((n % 10 : Nat) : Int) := by
        unfold remI
        rw [if_neg (by omega)]
        rfl
      rw [if_neg (by omega), e1, bind_some, ih, bind_some, e2, bind_some, hr, bind_some, cat_some (by simp; omega), bind_some, digs_big h1]
theorem decimal_big (n : Nat) (h : n < 100000) : m_spec_decimal big (n : Int) = some (digs n) := by
  obtain ⟨g, hg⟩ : ∃ g, big = (g + 5) + 1 := ⟨1099511627770, rfl⟩
  rw [hg]
  refine decimal_eq (g + 5) n ?_ h
  have : 10 ^ 5 ≤ 10 ^ (g + 5) := Nat.pow_le_pow_right (by omega) (by omega)
  omega
def sgn (a : Int) : List UInt8 := if a < 0 then [45] else []
def sg (a : Int) : UInt8 := if a < 0 then 45 else 43
/-- How an+b is written, with a letter. -/
def Wn (nc : UInt8) (a b : Int) : List UInt8 := sgn a ++ digs a.natAbs ++ [nc] ++ [sg b] ++ digs b.natAbs
theorem counted_eq (a b : Int) (ha : a.natAbs < 100000) (hb : b.natAbs < 100000) : m_spec_Counted (a, b) = some (Wn 110 a b) := by
  have la := digs_len 5 a.natAbs (by omega)
  have lb := digs_len 5 b.natAbs (by omega)
  have hs : m_spec_signed b = some ([sg b] ++ digs b.natAbs) := by
    simp only [m_spec_signed, cond_dec, sg]
    split
    · rename_i h
      have e : IntKind.wrap .i64 (0 - b) = (b.natAbs : Int) := by rw [w64 (by omega) (by omega)]; omega
      rw [e, decimal_big _ hb, bind_some, cat_some (by simp; omega), bind_some]
    · rename_i h
      have e : b = (b.natAbs : Int) := by omega
      have e1 : m_spec_decimal big b = some (digs b.natAbs) := by
        conv => lhs; rw [e]
        exact decimal_big _ hb
      rw [e1, bind_some, cat_some (by simp; omega), bind_some]
  simp only [m_spec_Counted, cond_dec, hs, Wn, sgn]
  split
  · rename_i h
    have e : IntKind.wrap .i64 (0 - a) = (a.natAbs : Int) := by rw [w64 (by omega) (by omega)]; omega
    rw [e, decimal_big _ ha, bind_some, cat_some (by simp; omega), bind_some, cat_some (by simp; omega), bind_some, bind_some, cat_some (by simp; omega), bind_some]
    simp
  · rename_i h
    have e : a = (a.natAbs : Int) := by omega
    have e1 : m_spec_decimal big a = some (digs a.natAbs) := by
      conv => lhs; rw [e]
      exact decimal_big _ ha
    rw [e1, bind_some, cat_some (by simp; omega), bind_some, bind_some, cat_some (by simp; omega), bind_some]
    simp
/-! Capital letters -/
def upB (c : UInt8) : UInt8 := if 97 ≤ c.toNat ∧ c.toNat ≤ 122 then UInt8.ofNat (c.toNat - 32) else c
theorem byteI_all : ∀ n : Fin 256, 97 ≤ n.val → n.val ≤ 122 → byteI (IntKind.wrap .u8 ((n.val : Int) - 32)) = some (UInt8.ofNat (n.val - 32)) := by decide +kernel
theorem upper_eq (l : List UInt8) (hl : l.length ≤ 1000) : m_spec_Upper l = some (l.map upB) := by
  have key : ∀ m k, l.length - k = m → k ≤ l.length → loopO m_spec_Upper_0 ((l.take k).map upB ++ l.drop k, (k : Int)) = some (l.map upB) := by
    intro m
    induction m with
    | zero =>
      intro k hm hk
      refine loopO_out ?_
      simp only [m_spec_Upper_0, cond_dec]
      rw [if_neg (by simp; omega), List.take_of_length_le (by omega), List.drop_of_length_le (by omega), List.append_nil]
    | succ m ih =>
      intro k hm hk
      obtain ⟨c, hc⟩ := get_lt (l := l) (k := k) (by omega)
      have hlen : ((l.take k).map upB).length = k := by rw [List.length_map, List.length_take]; omega
      have hd : l.drop k = c :: l.drop (k + 1) := by
        obtain ⟨h1, h2⟩ := List.getElem?_eq_some_iff.1 hc
        rw [← h2]
        exact List.drop_eq_getElem_cons h1
      have hget : ((l.take k).map upB ++ l.drop k)[k]? = some c := by
        rw [List.getElem?_append_right (by omega), hlen, hd]
        simp
      have ht : (l.take (k + 1)).map upB ++ l.drop (k + 1) = (l.take k).map upB ++ upB c :: l.drop (k + 1) := by
        rw [List.take_add_one, hc]
        simp
      have hset : ((l.take k).map upB ++ l.drop k).set k (upB c) = (l.take (k + 1)).map upB ++ l.drop (k + 1) := by
        rw [ht, hd, List.set_append_right _ _ (by omega), hlen]
        simp
      have hsame : ¬ (97 ≤ c.toNat ∧ c.toNat ≤ 122) → (l.take k).map upB ++ l.drop k = (l.take (k + 1)).map upB ++ l.drop (k + 1) := fun h => by
        rw [ht, hd, upB, if_neg h]
      have ek : IntKind.wrap .i64 ((k : Int) + 1) = ((k + 1 : Nat) : Int) := by rw [w64 (by omega) (by omega)]; omega
      have hlt : (k : Int) < (((l.take k).map upB ++ l.drop k).length : Int) := by
        rw [List.length_append, hlen, List.length_drop]; omega
      have step : m_spec_Upper_0 ((l.take k).map upB ++ l.drop k, (k : Int)) = some (.nx ((l.take (k + 1)).map upB ++ l.drop (k + 1), ((k + 1 : Nat) : Int))) := by
        simp only [m_spec_Upper_0, cond_dec, atI_nat, Int.toNat_natCast, hget, bind_some]
        rw [if_pos hlt]
        by_cases a1 : 97 ≤ c.toNat
        · rw [if_pos (by omega)]
          by_cases a2 : c.toNat ≤ 122
          · rw [if_pos (by omega), show byteI _ = _ from byteI_all ⟨c.toNat, c.toNat_lt⟩ a1 a2, bind_some, ek]
            have e : UInt8.ofNat (c.toNat - 32) = upB c := by rw [upB, if_pos ⟨a1, a2⟩]
            rw [show (UInt8.ofNat ((⟨c.toNat, c.toNat_lt⟩ : Fin 256).val - 32)) = upB c from e, hset]
          · rw [if_neg (by omega), ek, ← hsame (by omega)]
        · rw [if_neg (by omega), ek, ← hsame (by omega)]
      rw [loopO_nx step]
      exact ih (k + 1) (by omega) (by omega)
  simp only [m_spec_Upper]
  rw [show loopO m_spec_Upper_0 (l, (0 : Int)) = _ from key l.length 0 (by omega) (Nat.zero_le _), bind_some]
  simp only [castE]
  rfl
end Go.Proofs.YtglcncfjagfodaaDoor.V
