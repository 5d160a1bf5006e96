/-
  A node's kids as a list, and how the made nodes lead from the one to the next. Plain facts.
-/
import Derived.Test.YtpedmnlpccngiaaDoorPKind
import Derived.Test.YtpedmnlpccngiaaDoorPGrow
set_option linter.unusedVariables false
set_option linter.unusedSimpArgs false
namespace Go.Proofs.YtpedmnlpccngiaaDoor.V
open Go

theorem base_ty (v : Node) : (base v).ty = if v.kind = 1 then 2 else if v.kind = 2 then 5 else if v.kind = 4 then 1 else if v.kind = 5 then 4 else 3 := by
  unfold base
  repeat' split
  all_goals rfl
theorem rc_ty {t : List Node} {a e i : Nat} {v : Node} (hv : t[i]? = some v) : (rc t a e i).ty = (base v).ty := by simp [rc, bs0, hv]
theorem rc_el {t : List Node} (hR : RT t) {i : Nat} {v : Node} (hv : t[i]? = some v) {a e : Nat} : (rc t a e i).ty = 3 ↔ v.kind = 3 := by
  have hk := (hR.node i v hv).kd
  rw [rc_ty hv, base_ty]
  rcases hk with h | h | h | h | h <;> simp [h]
theorem rc_par {t : List Node} {e i : Nat} : (rc t 0 e i).par = par t i := by
  simp only [rc]
  by_cases h : i = 0
  · subst h
    simp [par, parF]
  · rw [if_neg h]

theorem kidsF_head {t : List Node} {hi : Nat} : ∀ {f k : Nat}, hi ≤ k + f → (kidsF t f k hi)[0]? = if k < hi then some k else none
  | 0, k, h => by rw [if_neg (by omega)]; rfl
  | f + 1, k, h => by
    simp only [kidsF]
    split <;> rfl
theorem kidsF_next {t : List Node} {lo hi : Nat} (hL : Lam t lo hi) : ∀ {f k j c : Nat}, lo ≤ k → hi ≤ k + f → (kidsF t f k hi)[j]? = some c → (kidsF t f k hi)[j + 1]? = if c + sz t c < hi then some (c + sz t c) else none
  | 0, k, j, c, _, h, hc => by simp [kidsF] at hc
  | f + 1, k, j, c, hk, h, hc => by
    simp only [kidsF] at hc ⊢
    split at hc
    · rename_i hlt
      rw [if_pos hlt]
      obtain ⟨_, _, _, h1, _⟩ := hL.ok k hk hlt
      cases j with
      | zero =>
        simp only [List.getElem?_cons_zero, Option.some.injEq] at hc
        subst hc
        rw [List.getElem?_cons_succ]
        exact kidsF_head (by omega)
      | succ j =>
        rw [List.getElem?_cons_succ] at hc ⊢
        exact kidsF_next hL (by omega) (by omega) hc
    · simp at hc
theorem kidsF_sorted {t : List Node} {lo hi : Nat} (hL : Lam t lo hi) : ∀ {f k : Nat}, lo ≤ k → (kidsF t f k hi).Pairwise (· < ·)
  | 0, k, _ => List.Pairwise.nil
  | f + 1, k, hk => by
    simp only [kidsF]
    split
    · rename_i hlt
      obtain ⟨_, _, _, h1, _⟩ := hL.ok k hk hlt
      refine List.Pairwise.cons (fun c hc => ?_) (kidsF_sorted hL (by omega))
      have := (kidsF_mem hL (by omega) hc).1
      omega
    · exact List.Pairwise.nil
section
variable {t : List Node} {p : Nat}
theorem Ch.one : Ch t p (p + 1) := fun q g1 g2 => by omega
theorem kidsF_ch (hL : Lam t p (p + sz t p)) : ∀ {f k c : Nat}, p < k → Ch t p k → c ∈ kidsF t f k (p + sz t p) → par t c = some p
  | 0, k, c, _, _, hc => by simp [kidsF] at hc
  | f + 1, k, c, hk, hC, hc => by
    simp only [kidsF] at hc
    split at hc
    · rename_i hlt
      obtain ⟨_, _, _, h1, _⟩ := hL.ok k (by omega) hlt
      rcases List.mem_cons.1 hc with e | hc
      · subst e; exact hC.par hk hlt
      · exact kidsF_ch hL (by omega) (Ch.next hL hC hk hlt) hc
    · simp at hc
theorem kidsF_in (hL : Lam t p (p + sz t p)) {a : Nat} (ha : par t a = some p) : ∀ {f k : Nat}, p < k → k ≤ a → p + sz t p ≤ k + f → a ∈ kidsF t f k (p + sz t p)
  | 0, k, hk, hka, hf => by have := (par_some ha).2.1; omega
  | f + 1, k, hk, hka, hf => by
    have h2 := (par_some ha).2.1
    simp only [kidsF]
    rw [if_pos (by omega)]
    by_cases e : a = k
    · subst e; exact List.mem_cons_self
    · obtain ⟨_, _, _, h1, _⟩ := hL.ok k (by omega) (by omega)
      have := (Ch.of_par ha) k hk (by omega)
      exact List.mem_cons_of_mem _ (kidsF_in hL ha (by omega) this (by omega))
theorem kids_par (hL : Lam t p (p + sz t p)) {c : Nat} (hc : c ∈ kidsN t p) : par t c = some p := kidsF_ch hL (by omega) Ch.one hc
theorem kids_in (hL : Lam t p (p + sz t p)) {a : Nat} (ha : par t a = some p) : a ∈ kidsN t p := kidsF_in hL ha (by omega) (par_some ha).1 (by omega)
theorem kids_sorted (hL : Lam t p (p + sz t p)) : (kidsN t p).Pairwise (· < ·) := kidsF_sorted hL (by omega)
theorem kids_get_lt (hL : Lam t p (p + sz t p)) {i j c d : Nat} (hij : i < j) (hc : (kidsN t p)[i]? = some c) (hd : (kidsN t p)[j]? = some d) : c < d := by
  obtain ⟨h1, e1⟩ := List.getElem?_eq_some_iff.1 hc
  obtain ⟨h2, e2⟩ := List.getElem?_eq_some_iff.1 hd
  have := List.pairwise_iff_getElem.1 (kids_sorted hL) i j h1 h2 hij
  omega
/-- The first kid. -/
theorem kid_fst (hL : Lam t p (p + sz t p)) {e : Nat} (he : p + sz t p ≤ e) : (rc t 0 e p).fst = (kidsN t p)[0]? := by
  have h0 : (kidsN t p)[0]? = _ := kidsF_head (t := t) (f := sz t p) (k := p + 1) (hi := p + sz t p) (by omega)
  rw [h0]
  simp only [rc]
  by_cases h : p + 1 < p + sz t p
  · rw [if_pos h, if_pos ⟨by omega, by omega⟩]
  · rw [if_neg h, if_neg (by omega)]
/-- The kid after a kid. -/
theorem kid_nxt (hL : Lam t p (p + sz t p)) {e : Nat} (he : p + sz t p ≤ e) {j c : Nat} (hc : (kidsN t p)[j]? = some c) : (rc t 0 e c).nxt = (kidsN t p)[j + 1]? := by
  have hp := kids_par hL (List.mem_of_getElem? hc)
  have h1 := par_some hp
  have hn : (kidsN t p)[j + 1]? = _ := kidsF_next (t := t) (f := sz t p) (k := p + 1) hL (by omega) (by omega) hc
  rw [hn]
  simp only [rc, nxtF, hp]
  rw [if_neg (by omega)]
  by_cases h : c + sz t c < p + sz t p
  · rw [if_pos h, if_pos ⟨by omega, h⟩]
  · rw [if_neg h, if_neg (by omega)]
theorem lastF_kid (hL : Lam t p (p + sz t p)) {e c : Nat} (hce : c < e) (hc : c ∈ kidsN t p) (hno : ∀ d ∈ kidsN t p, d < e → d ≤ c) : lastF t p e = some c :=
  lastF_mk hce (kids_par hL hc) fun d h1 h2 h3 => by have := hno d (kids_in hL h3) h2; omega
/-- The last kid. -/
theorem kid_lst (hL : Lam t p (p + sz t p)) {e : Nat} (he : p + sz t p ≤ e) : (rc t 0 e p).lst = (kidsN t p)[(kidsN t p).length - 1]? := by
  simp only [rc]
  cases hK : (kidsN t p)[(kidsN t p).length - 1]? with
  | none =>
    have hnil : (kidsN t p).length = 0 := by
      have := List.getElem?_eq_none_iff.1 hK
      omega
    cases hl : lastF t p e with
    | none => rfl
    | some c =>
      have := kids_in hL (lastF_some hl).2.1
      rw [List.length_eq_zero_iff.1 hnil] at this
      cases this
  | some c =>
    have hm := List.mem_of_getElem? hK
    have h1 := par_some (kids_par hL hm)
    refine lastF_kid hL (by omega) hm fun d hd _ => ?_
    obtain ⟨i, hi⟩ := List.mem_iff_getElem?.1 hd
    have hlt := (List.getElem?_eq_some_iff.1 hi).1
    by_cases e : i = (kidsN t p).length - 1
    · subst e; rw [hi] at hK; cases hK; omega
    · have := kids_get_lt hL (by omega : i < (kidsN t p).length - 1) hi hK
      omega
/-- The kid before a kid. -/
theorem kid_prv (hL : Lam t p (p + sz t p)) {e : Nat} {j c : Nat} (hc : (kidsN t p)[j]? = some c) : (rc t 0 e c).prv = if j = 0 then none else (kidsN t p)[j - 1]? := by
  have hp := kids_par hL (List.mem_of_getElem? hc)
  have h1 := par_some hp
  have hjl := (List.getElem?_eq_some_iff.1 hc).1
  simp only [rc, prvF, hp]
  rw [if_neg (by omega)]
  have le : ∀ d ∈ kidsN t p, d < c → ∃ i, i < j ∧ (kidsN t p)[i]? = some d := fun d hd hdc => by
    obtain ⟨i, hi⟩ := List.mem_iff_getElem?.1 hd
    refine ⟨i, ?_, hi⟩
    rcases Nat.lt_trichotomy i j with h | h | h
    · exact h
    · subst h; rw [hi] at hc; cases hc; omega
    · have := kids_get_lt hL h hc hi; omega
  split
  · rename_i h0
    cases hl : lastF t p c with
    | none => rfl
    | some d =>
      obtain ⟨g1, g2, _⟩ := lastF_some hl
      obtain ⟨i, hi, _⟩ := le d (kids_in hL g2) g1
      omega
  · rename_i h0
    obtain ⟨d, hd⟩ := get_lt (l := kidsN t p) (k := j - 1) (by omega)
    rw [hd]
    refine lastF_kid hL (kids_get_lt hL (by omega) hd hc) (List.mem_of_getElem? hd) fun x hx hxc => ?_
    obtain ⟨i, hi, hi2⟩ := le x hx hxc
    by_cases e : i = j - 1
    · subst e; rw [hd] at hi2; cases hi2; omega
    · have := kids_get_lt hL (by omega : i < j - 1) hi2 hd
      omega
end
end Go.Proofs.YtpedmnlpccngiaaDoor.V
