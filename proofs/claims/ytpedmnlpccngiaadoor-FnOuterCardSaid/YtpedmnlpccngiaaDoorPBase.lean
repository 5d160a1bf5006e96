/-
  Plain facts: loops, numbers, lists. No program in sight.
-/
import Derived.Test.YtpedmnlpccngiaaDoorKFresh
set_option linter.unusedVariables false
set_option linter.unusedSimpArgs false
namespace Go.Proofs.YtpedmnlpccngiaaDoor.V
open Go

theorem loopO_rule {X B : Type} {body : X → Option (Stp X B)} (I : X → Prop) (Q : X → B → Prop) (μ : X → Nat)
    (h : ∀ x, I x → (∃ b, body x = some (.out b) ∧ Q x b) ∨ (∃ y, body x = some (.nx y) ∧ I y ∧ μ y < μ x ∧ ∀ b, Q y b → Q x b)) : ∀ x, I x → ∃ b, loopO body x = some b ∧ Q x b := by
  have key : ∀ n x, μ x < n → I x → ∃ b, loopO body x = some b ∧ Q x b := by
    intro n
    induction n with
    | zero => intro x hx; omega
    | succ n ih =>
      intro x hx hI
      rcases h x hI with ⟨b, h1, h2⟩ | ⟨y, h1, h2, h3, h4⟩
      · exact ⟨b, loopO_out h1, h2⟩
      · obtain ⟨b, g1, g2⟩ := ih y (by omega) h2
        exact ⟨b, by rw [loopO_nx h1]; exact g1, h4 b g2⟩
  exact fun x hx => key (μ x + 1) x (by omega) hx
/-- A loop that counts up: at k it holds f k. -/
theorem loopO_fun {X B : Type} {body : X → Option (Stp X B)} (I : X → Prop) (f : X → B) (μ : X → Nat)
    (h : ∀ x, I x → body x = some (.out (f x)) ∨ (∃ y, body x = some (.nx y) ∧ I y ∧ μ y < μ x ∧ f y = f x)) (x : X) (hx : I x) : loopO body x = some (f x) := by
  obtain ⟨b, h1, h2⟩ := loopO_rule I (fun x b => b = f x) μ (fun x hx => by
    rcases h x hx with h1 | ⟨y, h1, h2, h3, h4⟩
    · exact .inl ⟨_, h1, rfl⟩
    · exact .inr ⟨y, h1, h2, h3, fun b hb => hb.trans h4⟩) x hx
  rw [h1, h2]
theorem w64 {n : Int} (h1 : -9223372036854775808 ≤ n) (h2 : n ≤ 9223372036854775807) : IntKind.wrap .i64 n = n := by
  simp [IntKind.wrap, IntKind.bits, IntKind.signed]
  omega
theorem atI_nat {α : Type} (l : List α) (k : Nat) : atI l (k : Int) = l[k]? := by simp [atI]
theorem atI_zero {α : Type} (l : List α) : atI l 0 = l[0]? := atI_nat l 0
theorem atI_neg {α : Type} (l : List α) {k : Int} (h : k < 0) : atI l k = none := by simp [atI]; omega
theorem cond_dec {α : Type} {p : Prop} [Decidable p] (a b : α) : cond (decide p) a b = if p then a else b := by by_cases h : p <;> simp [h]
theorem appL_some {α : Type} {l m : List α} (h : l.length + m.length ≤ 2147483648) : appL l m = some (l ++ m) := by simp [appL, h]
theorem bind_some {α β : Type} (a : α) (f : α → Option β) : Option.bind (some a) f = f a := rfl
theorem selim_l {α β γ : Type} (f : α → γ) (h : β → γ) (a : α) : selim f h (.inl a) = f a := rfl
theorem selim_r {α β γ : Type} (f : α → γ) (h : β → γ) (b : β) : selim f h (.inr b) = h b := rfl
theorem get_lt {α : Type} {l : List α} {k : Nat} (h : k < l.length) : ∃ v, l[k]? = some v := ⟨l[k], List.getElem?_eq_getElem h⟩
/-- A loop over the places of a list: each place is looked at, or the loop is left. -/
theorem loopO_up {X B : Type} {body : X → Option (Stp X B)} {st : Nat → X} (n : Nat) (Q : B → Prop)
    (h : ∀ k, k ≤ n → (∃ b, body (st k) = some (.out b) ∧ Q b) ∨ (k < n ∧ body (st k) = some (.nx (st (k + 1))))) : ∀ k, k ≤ n → ∃ b, loopO body (st k) = some b ∧ Q b := by
  have key : ∀ m k, n - k = m → k ≤ n → ∃ b, loopO body (st k) = some b ∧ Q b := by
    intro m
    induction m with
    | zero =>
      intro k hm hk
      rcases h k hk with ⟨b, h1, h2⟩ | ⟨h1, _⟩
      · exact ⟨b, loopO_out h1, h2⟩
      · omega
    | succ m ih =>
      intro k hm hk
      rcases h k hk with ⟨b, h1, h2⟩ | ⟨h1, h2⟩
      · exact ⟨b, loopO_out h1, h2⟩
      · obtain ⟨b, g1, g2⟩ := ih (k + 1) (by omega) (by omega)
        exact ⟨b, by rw [loopO_nx h2]; exact g1, g2⟩
  exact fun k hk => key _ k rfl hk
/-- A loop that asks of all elements of a list. -/
theorem loop_all {X B α : Type} {body : X → Option (Stp X B)} (l : List α) (p : α → Bool) (st : Nat → X) (yes no : B)
    (hs : ∀ k v, l[k]? = some v → body (st k) = some (if p v then .nx (st (k + 1)) else .out no)) (he : body (st l.length) = some (.out yes)) : ∀ k, k ≤ l.length → loopO body (st k) = some (if (l.drop k).all p then yes else no) := by
  have key : ∀ m k, l.length - k = m → k ≤ l.length → loopO body (st k) = some (if (l.drop k).all p then yes else no) := by
    intro m
    induction m with
    | zero =>
      intro k hm hk
      have : k = l.length := by omega
      subst this
      rw [loopO_out he]
      simp
    | succ m ih =>
      intro k hm hk
      obtain ⟨v, hv⟩ := get_lt (l := l) (k := k) (by omega)
      have hd : l.drop k = v :: l.drop (k + 1) := by
        obtain ⟨h1, h2⟩ := List.getElem?_eq_some_iff.1 hv
        rw [← h2]
        exact List.drop_eq_getElem_cons h1
      have h := hs k v hv
      rw [hd, List.all_cons]
      cases hp : p v with
      | true =>
        rw [hp] at h
        rw [loopO_nx h, ih (k + 1) (by omega) (by omega)]
        simp
      | false =>
        rw [hp] at h
        rw [loopO_out h]
        simp
  exact fun k hk => key _ k rfl hk
theorem not_cond {α : Type} (b : Bool) (x y : α) : cond (!b) x y = if b then y else x := by cases b <;> rfl
end Go.Proofs.YtpedmnlpccngiaaDoor.V
