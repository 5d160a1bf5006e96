/-
  Ways through lists: from nothing to the first, from each to the next; skipping some. Plain facts.
-/
import Derived.Test.YtlgabeiaheoniaaPKids
namespace Go.Proofs.Ytlgabeiaheoniaa.V
open Go

/-- From nothing to the first, from each to the next. -/
structure Way (it : Option Nat → Option (Option Nat)) (F : List Nat) : Prop where
  fst : it none = some F.head?
  nxt : ∀ A c B, F = A ++ c :: B → it (some c) = some B.head?
theorem last_app {α : Type} (A : List α) (c : α) : (A ++ [c]).getLast? = some c := by simp
/-- A loop that goes on until one will do. -/
theorem skip_loop {X B : Type} {body : X → Option (Stp X B)} (st : Option Nat → X) (out : Option Nat → B) (ok : Nat → Bool) (W : List Nat)
    (h : ∀ A C, W = A ++ C → body (st A.getLast?) = some (match C with
      | [] => .out (out none)
      | r :: _ => if ok r = true then .out (out (some r)) else .nx (st (some r)))) : ∀ C A, W = A ++ C → loopO body (st A.getLast?) = some (out (C.find? ok))
  | [], A, hw => by
    rw [loopO_out (h A [] hw)]
    rfl
  | r :: C, A, hw => by
    have hb := h A (r :: C) hw
    simp only at hb
    cases hr : ok r with
    | true =>
      rw [hr, if_pos rfl] at hb
      rw [loopO_out hb, List.find?_cons_of_pos hr]
    | false =>
      rw [hr, if_neg (by simp)] at hb
      have := skip_loop st out ok W h C (A ++ [r]) (by rw [hw]; simp)
      rw [last_app] at this
      rw [loopO_nx hb, this, List.find?_cons_of_neg (by simp [hr])]
theorem way_of {it : Option Nat → Option (Option Nat)} {W : List Nat} {ok : Nat → Bool} (h : ∀ C A, W = A ++ C → it A.getLast? = some (C.find? ok)) : Way it (W.filter ok) := by
  refine ⟨?_, fun A c B hf => ?_⟩
  · rw [List.head?_filter]
    exact h W [] rfl
  · obtain ⟨W1, W2, rfl, h1, h2⟩ := List.filter_eq_append_iff.1 hf
    obtain ⟨V1, V2, rfl, h3, h4, h5⟩ := List.filter_eq_cons_iff.1 h2
    rw [← h5, List.head?_filter]
    have := h V2 (W1 ++ V1 ++ [c]) (by simp)
    rwa [last_app] at this
section
variable {t : List Node} {p : Nat}
theorem way_nxt (hL : Lam t p (p + sz t p)) {e : Nat} (he : p + sz t p ≤ e) {A B : List Nat} {c : Nat} (h : kidsN t p = A ++ c :: B) : (rc t 0 e c).nxt = B.head? := by
  rw [kid_nxt hL he (j := A.length) (by rw [h]; simp), h]
  cases B <;> simp
theorem way_prv (hL : Lam t p (p + sz t p)) {e : Nat} {A B : List Nat} {c : Nat} (h : kidsN t p = A ++ c :: B) : (rc t 0 e c).prv = A.getLast? := by
  rw [kid_prv hL (j := A.length) (by rw [h]; simp), h]
  rcases List.eq_nil_or_concat A with rfl | ⟨A, d, rfl⟩
  · rfl
  · rw [List.concat_eq_append, last_app, if_neg (by simp)]
    simp
theorem way_fst (hL : Lam t p (p + sz t p)) {e : Nat} (he : p + sz t p ≤ e) : (rc t 0 e p).fst = (kidsN t p).head? := by
  rw [kid_fst hL he, List.head?_eq_getElem?]
theorem kids_split (hL : Lam t p (p + sz t p)) {a : Nat} (h : par t a = some p) : ∃ A B, kidsN t p = A ++ a :: B := List.append_of_mem (kids_in hL h)
theorem kids_nodup (hL : Lam t p (p + sz t p)) : (kidsN t p).Nodup := (kids_sorted hL).imp fun h => Nat.ne_of_lt h
end
end Go.Proofs.Ytlgabeiaheoniaa.V
