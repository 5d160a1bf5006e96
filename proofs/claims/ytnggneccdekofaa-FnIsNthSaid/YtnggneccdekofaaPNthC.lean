/-
  The number of a kid among the kids, from the one end and from the other. Plain facts.
-/
import Derived.Test.YtnggneccdekofaaPNthS
namespace Go.Proofs.Ytnggneccdekofaa.V
open Go

/-- A kid that counts. -/
def hitK (t : List Node) (a : Nat) (ty : Bool) (c : Nat) : Bool := kindN t c == 3 && (!ty || tagN t c == tagN t a)
/-- How many count among the first k; and from the k-th on. -/
def cF (t : List Node) (a : Nat) (ty : Bool) (p k : Nat) : Nat := (((kidsN t p).take k).filter (hitK t a ty)).length
def cL (t : List Node) (a : Nat) (ty : Bool) (p k : Nat) : Nat := (((kidsN t p).drop k).filter (hitK t a ty)).length
theorem cF_zero (t : List Node) (a : Nat) (ty : Bool) (p : Nat) : cF t a ty p 0 = 0 := by simp [cF]
theorem cL_end {t : List Node} {a : Nat} {ty : Bool} {p k : Nat} (h : (kidsN t p).length ≤ k) : cL t a ty p k = 0 := by simp [cL, List.drop_eq_nil_of_le h]
theorem cF_succ {t : List Node} {a : Nat} {ty : Bool} {p k c : Nat} (h : (kidsN t p)[k]? = some c) : cF t a ty p (k + 1) = cF t a ty p k + if hitK t a ty c then 1 else 0 := by
  simp only [cF, List.take_add_one, h, List.filter_append, List.length_append]
  cases hc : hitK t a ty c <;> simp [hc]
theorem cL_succ {t : List Node} {a : Nat} {ty : Bool} {p k c : Nat} (h : (kidsN t p)[k]? = some c) : cL t a ty p k = cL t a ty p (k + 1) + if hitK t a ty c then 1 else 0 := by
  obtain ⟨h1, h2⟩ := List.getElem?_eq_some_iff.1 h
  simp only [cL]
  rw [List.drop_eq_getElem_cons h1, h2, List.filter_cons]
  cases hc : hitK t a ty c <;> simp
theorem cF_cL (t : List Node) (a : Nat) (ty : Bool) (p k : Nat) : cF t a ty p k + cL t a ty p k = cF t a ty p (kidsN t p).length := by
  simp only [cF, cL, List.take_length]
  rw [← List.length_append, ← List.filter_append, List.take_append_drop]
theorem cF_le (t : List Node) (a : Nat) (ty : Bool) (p k : Nat) : cF t a ty p k ≤ (kidsN t p).length := by
  unfold cF
  have h1 := List.length_filter_le (hitK t a ty) ((kidsN t p).take k)
  have h2 := List.length_take_le' k (kidsN t p)
  omega
theorem cL_le (t : List Node) (a : Nat) (ty : Bool) (p k : Nat) : cL t a ty p k ≤ (kidsN t p).length := by
  have := cF_cL t a ty p k
  have := cF_le t a ty p (kidsN t p).length
  omega
theorem cF_mono {t : List Node} {a : Nat} {ty : Bool} {p k l : Nat} (h : k ≤ l) : cF t a ty p k ≤ cF t a ty p l := by
  unfold cF
  have : (kidsN t p).take k = ((kidsN t p).take l).take k := by rw [List.take_take, Nat.min_eq_left h]
  rw [this]
  exact ((List.take_sublist k ((kidsN t p).take l)).filter _).length_le
section
variable {t : List Node} {a p j : Nat}
theorem hit_self (ty : Bool) (h3 : kindN t a = 3) : hitK t a ty a = true := by simp [hitK, h3]
theorem num_parts (ty la : Bool) : numN t a p ty la = (((kidsN t p).filter (hitK t a ty)).filter fun c => if la then decide (a ≤ c) else decide (c ≤ a)).length := by
  unfold numN elems
  rw [List.filter_filter, List.filter_filter]
  congr 1
  refine List.filter_congr fun c _ => ?_
  simp only [okN, hitK]
  cases kindN t c == 3 <;> simp [Bool.and_comm]
theorem num_first (hL : Lam t p (p + sz t p)) (ty : Bool) (hj : (kidsN t p)[j]? = some a) : numN t a p ty false = cF t a ty p (j + 1) := by
  rw [num_parts, List.filter_filter]
  unfold cF
  have hs : kidsN t p = (kidsN t p).take (j + 1) ++ (kidsN t p).drop (j + 1) := (List.take_append_drop _ _).symm
  conv => lhs; rw [hs]
  rw [List.filter_append, List.length_append]
  have e2 : ((kidsN t p).drop (j + 1)).filter (fun c => (if false = true then decide (a ≤ c) else decide (c ≤ a)) && hitK t a ty c) = [] := by
    refine List.filter_eq_nil_iff.2 fun c hc => ?_
    obtain ⟨i, hi⟩ := List.mem_iff_getElem?.1 hc
    rw [List.getElem?_drop] at hi
    have := kids_get_lt hL (by omega : j < j + 1 + i) hj hi
    simp
    intro h
    omega
  rw [e2, List.length_nil, Nat.add_zero]
  congr 1
  refine List.filter_congr fun c hc => ?_
  obtain ⟨i, hi⟩ := List.mem_iff_getElem?.1 hc
  have hlt := (List.getElem?_eq_some_iff.1 hi).1
  rw [List.length_take] at hlt
  rw [List.getElem?_take_of_lt (by omega)] at hi
  have : c ≤ a := by
    by_cases e : i = j
    · subst e; rw [hi] at hj; cases hj; omega
    · have := kids_get_lt hL (by omega : i < j) hi hj
      omega
  simp [this]
theorem num_last (hL : Lam t p (p + sz t p)) (ty : Bool) (hj : (kidsN t p)[j]? = some a) : numN t a p ty true = cL t a ty p j := by
  rw [num_parts, List.filter_filter]
  unfold cL
  have hs : kidsN t p = (kidsN t p).take j ++ (kidsN t p).drop j := (List.take_append_drop _ _).symm
  conv => lhs; rw [hs]
  rw [List.filter_append, List.length_append]
  have e2 : ((kidsN t p).take j).filter (fun c => (if true = true then decide (a ≤ c) else decide (c ≤ a)) && hitK t a ty c) = [] := by
    refine List.filter_eq_nil_iff.2 fun c hc => ?_
    obtain ⟨i, hi⟩ := List.mem_iff_getElem?.1 hc
    have hlt := (List.getElem?_eq_some_iff.1 hi).1
    rw [List.length_take] at hlt
    rw [List.getElem?_take_of_lt (by omega)] at hi
    have := kids_get_lt hL (by omega : i < j) hi hj
    simp
    intro h
    omega
  rw [e2, List.length_nil, Nat.zero_add]
  congr 1
  refine List.filter_congr fun c hc => ?_
  obtain ⟨i, hi⟩ := List.mem_iff_getElem?.1 hc
  rw [List.getElem?_drop] at hi
  have : a ≤ c := by
    by_cases e : i = 0
    · subst e; rw [Nat.add_zero, hj] at hi; cases hi; omega
    · have := kids_get_lt hL (by omega : j < j + i) hj hi
      omega
  simp [this]
end
end Go.Proofs.Ytnggneccdekofaa.V
