/-
  Texts: small letters, beginnings. Plain facts.
-/
import Derived.Test.YtldldchdkcmojaaPSpecA
set_option linter.unusedVariables false
set_option linter.unusedSimpArgs false
namespace Go.Proofs.Ytldldchdkcmojaa.V
open Go

/-- A capital letter made small. -/
def low (c : UInt8) : UInt8 := if 65 ≤ c.toNat ∧ c.toNat ≤ 90 then UInt8.ofNat (c.toNat + 32) else c
theorem wrap_u8 {n : Int} (h1 : 0 ≤ n) (h2 : n < 256) : IntKind.wrap .u8 n = n := by
  simp [IntKind.wrap, IntKind.bits, IntKind.signed]
  omega
theorem byteI_nat {n : Nat} (h : n < 256) : byteI (n : Int) = some (UInt8.ofNat n) := by
  unfold byteI
  rw [if_pos (by omega)]
  rfl
theorem castE_self {e : E} (xs : List e.T) : castE e e xs = some xs := by
  unfold castE
  rw [dif_pos rfl]
theorem small_eq (s : List UInt8) (hs : s.length ≤ 2147483647) : m_spec_small s = some (s.map low) := by
  simp only [m_spec_small]
  have key : ∀ m k, s.length - k = m → k ≤ s.length → loopO m_spec_small_0 ((s.take k).map low ++ s.drop k, (k : Int)) = some (s.map low) := by
    intro m
    induction m with
    | zero =>
      intro k hm hk
      have : k = s.length := by omega
      subst this
      refine loopO_out ?_
      simp only [m_spec_small_0, cond_dec]
      rw [if_neg (by simp)]
      simp
    | succ m ih =>
      intro k hm hk
      obtain ⟨c, hc⟩ := get_lt (l := s) (k := k) (by omega)
      have hd : s.drop k = c :: s.drop (k + 1) := by
        obtain ⟨h1, h2⟩ := List.getElem?_eq_some_iff.1 hc
        rw [← h2]
        exact List.drop_eq_getElem_cons h1
      have hlen : ((s.take k).map low ++ s.drop k).length = s.length := by simp; omega
      have hget : ((s.take k).map low ++ s.drop k)[k]? = some c := by
        rw [List.getElem?_append_right (by simp; omega), List.length_map, List.length_take, Nat.min_eq_left hk, Nat.sub_self, hd]
        rfl
      have hnx : ∀ c', (s.take k).map low ++ c' :: s.drop (k + 1) = (s.take k).map low ++ [c'] ++ s.drop (k + 1) := fun c' => by simp
      have htk : (s.take (k + 1)).map low = (s.take k).map low ++ [low c] := by rw [List.take_add_one, hc]; simp
      have step : m_spec_small_0 ((s.take k).map low ++ s.drop k, (k : Int)) = some (.nx ((s.take (k + 1)).map low ++ s.drop (k + 1), ((k + 1 : Nat) : Int))) := by
        simp only [m_spec_small_0, cond_dec, atI_nat, hlen, hget, Int.toNat_natCast]
        rw [if_pos (by omega)]
        simp only [bind_some]
        rw [w64 (by omega) (by omega), htk]
        by_cases h1 : 65 ≤ c.toNat
        · rw [if_pos (by omega)]
          by_cases h2 : c.toNat ≤ 90
          · rw [if_pos (by omega), wrap_u8 (by omega) (by omega), show ((c.toNat : Int) + 32) = ((c.toNat + 32 : Nat) : Int) by omega, byteI_nat (by omega), bind_some]
            have hlow : low c = UInt8.ofNat (c.toNat + 32) := by unfold low; rw [if_pos ⟨h1, h2⟩]
            have hset : ((s.take k).map low ++ s.drop k).set k (UInt8.ofNat (c.toNat + 32)) = (s.take k).map low ++ [low c] ++ s.drop (k + 1) := by
              rw [List.set_append_right _ _ (by simp; omega), List.length_map, List.length_take, Nat.min_eq_left hk, Nat.sub_self, hd, hlow, List.set_cons_zero]
              simp
            rw [hset]
            rfl
          · rw [if_neg (by omega)]
            have hlow : low c = c := by unfold low; rw [if_neg (by omega)]
            rw [hlow, hd, hnx]
            rfl
        · rw [if_neg (by omega)]
          have hlow : low c = c := by unfold low; rw [if_neg (by omega)]
          rw [hlow, hd, hnx]
          rfl
      rw [loopO_nx step]
      exact ih (k + 1) (by omega) (by omega)
  rw [show loopO m_spec_small_0 (s, (0 : Int)) = _ from key s.length 0 (by omega) (Nat.zero_le _), bind_some, castE_self, bind_some]
def isAscii (s : List UInt8) : Bool := s.all fun c => decide (c.toNat < 128)
theorem ascii_eq (s : List UInt8) (hs : s.length ≤ 2147483647) : m_spec_ascii s = some (isAscii s) := by
  simp only [m_spec_ascii]
  have h := loop_all (body := m_spec_ascii_0) s (fun c => decide (c.toNat < 128)) (fun k => (s, (k : Int))) (.inl ()) (.inr false) (fun k v hv => by
    have hk := (List.getElem?_eq_some_iff.1 hv).1
    simp only [m_spec_ascii_0, cond_dec, atI_nat]
    rw [if_pos (by omega), hv, bind_some, w64 (by omega) (by omega)]
    by_cases e : v.toNat < 128
    · rw [if_neg (by omega), decide_eq_true e]; rfl
    · rw [if_pos (by omega), decide_eq_false e]; rfl) (by
    simp only [m_spec_ascii_0, cond_dec]
    rw [if_neg (by omega)]) 0 (Nat.zero_le _)
  rw [show loopO m_spec_ascii_0 (s, (0 : Int)) = _ from h, bind_some, List.drop_zero]
  unfold isAscii
  cases s.all fun c => decide (c.toNat < 128) <;> rfl
/-- A text begins with another one. -/
def pre (s p : List UInt8) : Bool := decide (s.take p.length = p)
theorem subL_nat {α : Type} (l : List α) {lo hi : Nat} (h1 : lo ≤ hi) (h2 : hi ≤ l.length) : subL l (lo : Int) (hi : Int) = some ((l.take hi).drop lo) := by
  unfold subL
  rw [if_pos (by omega)]
  rfl
theorem catS_some (l m : List UInt8) (h : l.length + m.length ≤ 9223372036854775807) : catS l m = some (l ++ m) := by
  unfold catS
  rw [if_pos h]
theorem pre_long {s p : List UInt8} (h : s.length < p.length) : pre s p = false := by
  unfold pre
  rw [decide_eq_false]
  intro e
  have := congrArg List.length e
  rw [List.length_take] at this
  omega
theorem stands_eq (s p : List UInt8) (k : Nat) (hs : s.length ≤ 2147483647) (hp : p.length ≤ 2147483648) (hk : k ≤ s.length) : m_spec_stands (s, (k : Int), p) = some (pre (s.drop k) p) := by
  simp only [m_spec_stands, cond_dec]
  rw [if_pos (by omega), w64 (by omega) (by omega)]
  by_cases h : k + p.length ≤ s.length
  · rw [if_pos (by omega), show ((k : Int) + (p.length : Int)) = ((k + p.length : Nat) : Int) by omega, subL_nat s (by omega) h, bind_some]
    unfold pre
    rw [List.take_add, List.drop_left' (by rw [List.length_take]; omega)]
  · rw [if_neg (by omega), pre_long (s := s.drop k) (p := p) (by rw [List.length_drop]; omega)]
end Go.Proofs.Ytldldchdkcmojaa.V
