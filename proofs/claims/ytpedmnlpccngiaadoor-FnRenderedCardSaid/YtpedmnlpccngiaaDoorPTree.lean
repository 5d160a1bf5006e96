/-
  Trees as lists: sizes, kids, parents. Plain facts.
-/
import Derived.Test.YtpedmnlpccngiaaDoorPSpecA
set_option linter.unusedVariables false
set_option linter.unusedSimpArgs false
namespace Go.Proofs.YtpedmnlpccngiaaDoor.V
open Go

def sz (t : List Node) (i : Nat) : Nat := match t[i]? with
  | some v => v.size.toNat
  | none => 0
theorem sz_some {t : List Node} {i : Nat} {v : Node} (h : t[i]? = some v) : sz t i = v.size.toNat := by simp [sz, h]
/-- From one place up to another one nodes stand one behind the other, each with its own within. -/
structure Lam (t : List Node) (lo hi : Nat) : Prop where
  ok : ∀ i, lo ≤ i → i < hi → ∃ v, t[i]? = some v ∧ v.size = (sz t i : Int) ∧ 1 ≤ sz t i ∧ i + sz t i ≤ hi
  nest : ∀ i j, lo ≤ i → i < hi → i < j → j < i + sz t i → j + sz t j ≤ i + sz t i
section
variable {t : List Node} {a b c : Nat}
theorem Lam.nil : Lam t a a := ⟨fun i h1 h2 => by omega, fun i j h1 h2 => by omega⟩
theorem Lam.app (h1 : Lam t a b) (h2 : Lam t b c) (hb : b ≤ c) : Lam t a c := by
  refine ⟨fun i hi hi' => ?_, fun i j hi hi' hj hj' => ?_⟩
  · by_cases h : i < b
    · obtain ⟨v, g1, g2, g3, g4⟩ := h1.ok i hi h
      exact ⟨v, g1, g2, g3, by omega⟩
    · exact h2.ok i (by omega) hi'
  · by_cases h : i < b
    · exact h1.nest i j hi h hj hj'
    · exact h2.nest i j (by omega) hi' hj hj'
theorem Lam.node {v : Node} (hv : t[a]? = some v) (hs : v.size = (sz t a : Int)) (h1 : 1 ≤ sz t a) (h : Lam t (a + 1) (a + sz t a)) : Lam t a (a + sz t a) := by
  refine ⟨fun i hi hi' => ?_, fun i j hi hi' hj hj' => ?_⟩
  · by_cases e : i = a
    · subst e; exact ⟨v, hv, hs, h1, Nat.le_refl _⟩
    · exact h.ok i (by omega) hi'
  · by_cases e : i = a
    · subst e
      obtain ⟨u, _, _, _, g⟩ := h.ok j (by omega) hj'
      exact g
    · exact h.nest i j (by omega) hi' hj hj'
theorem Lam.sub (h : Lam t a c) {i : Nat} (h1 : a ≤ i) (h2 : i < c) : Lam t i (i + sz t i) := by
  obtain ⟨v, _, _, _, g⟩ := h.ok i h1 h2
  refine ⟨fun j hj hj' => ?_, fun j k hj hj' hk hk' => h.nest j k (by omega) (by omega) hk hk'⟩
  obtain ⟨u, e1, e2, e3, _⟩ := h.ok j (by omega) (by omega)
  refine ⟨u, e1, e2, e3, ?_⟩
  by_cases e : j = i
  · subst e; omega
  · exact h.nest i j h1 h2 (by omega) hj'
end
theorem sized_ok (t : List Node) (ht : t.length ≤ 1000000) : ∀ (d n a e : Nat), d < n → d < 1000 → a < e → e ≤ t.length → ∃ b, m_spec_sized n (t, (a : Int), (e : Int), (d : Int)) = some b ∧ (b = true → ∃ v, t[a]? = some v ∧ v.size = (sz t a : Int) ∧ 1 ≤ sz t a ∧ a + sz t a ≤ e ∧ Lam t a (a + sz t a)) := by
  intro d
  induction d with
  | zero =>
    intro n a e hn _ ha he
    obtain ⟨m, rfl⟩ : ∃ m, n = m + 1 := ⟨n - 1, by omega⟩
    obtain ⟨v, hv⟩ := get_lt (l := t) (k := a) (by omega)
    simp only [m_spec_sized, b_spec_sized, cond_dec, atI_nat]
    rw [hv, bind_some]
    simp
  | succ d ih =>
    intro n a e hn hd ha he
    obtain ⟨m, rfl⟩ : ∃ m, n = m + 1 := ⟨n - 1, by omega⟩
    obtain ⟨v, hv⟩ := get_lt (l := t) (k := a) (by omega)
    simp only [m_spec_sized, b_spec_sized, cond_dec, atI_nat]
    rw [hv, bind_some]
    have hs := sz_some hv
    rw [if_neg (by omega)]
    split
    · exact ⟨_, rfl, fun h => by cases h⟩
    · rename_i h1
      rw [w64 (by omega) (by omega)]
      split
      · exact ⟨_, rfl, fun h => by cases h⟩
      · rename_i h2
        have hsz : v.size = (sz t a : Int) := by omega
        have hs1 : 1 ≤ sz t a := by omega
        have hs2 : a + sz t a ≤ e := by omega
        rw [hsz, w64 (n := (a : Int) + 1) (by omega) (by omega)]
        obtain ⟨y, hy, hq1, hq2⟩ := loopO_rule (body := m_spec_sized_0 (m_spec_sized m)) (fun x => ∃ k : Nat, x = (t, (a : Int), ((d + 1 : Nat) : Int), (sz t a : Int), (k : Int)) ∧ a < k ∧ k ≤ a + sz t a ∧ Lam t (a + 1) k)
          (fun _ y => (y = .inl () → Lam t (a + 1) (a + sz t a)) ∧ ∀ b, y = .inr b → b = false) (fun x => (((a + sz t a : Nat) : Int) - x.2.2.2.2).toNat) (fun x hx => by
            obtain ⟨k, rfl, hk1, hk2, hL⟩ := hx
            simp only [m_spec_sized_0, cond_dec, atI_nat]
            rw [w64 (n := (a : Int) + (sz t a : Int)) (by omega) (by omega)]
            split
            · rename_i h3
              obtain ⟨r, hr, hr'⟩ := ih m k (a + sz t a) (by omega) (by omega) (by omega) (by omega)
              have e1 : IntKind.wrap .i64 (((d + 1 : Nat) : Int) - 1) = (d : Int) := by rw [w64 (by omega) (by omega)]; omega
              have e2 : (a : Int) + (sz t a : Int) = ((a + sz t a : Nat) : Int) := by omega
              rw [e1, e2, hr, bind_some]
              cases r
              · exact .inl ⟨_, rfl, (fun h => by cases h), fun b h => by cases h; rfl⟩
              · obtain ⟨u, g1, g2, g3, g4, g5⟩ := hr' rfl
                rw [g1, bind_some]
                simp only [Bool.not_true, cond_false]
                rw [g2, w64 (n := (k : Int) + (sz t k : Int)) (by omega) (by omega)]
                refine .inr ⟨_, rfl, ⟨k + sz t k, ?_, by omega, by omega, hL.app g5 (by omega)⟩, ?_, fun _ h => h⟩
                · have e3 : (k : Int) + (sz t k : Int) = ((k + sz t k : Nat) : Int) := by omega
                  rw [e3]
                · simp only; omega
            · rename_i h3
              have : k = a + sz t a := by omega
              subst this
              exact .inl ⟨_, rfl, fun _ => hL, fun b h => by cases h⟩) (t, (a : Int), ((d + 1 : Nat) : Int), (sz t a : Int), (a : Int) + 1) ⟨a + 1, rfl, by omega, by omega, .nil⟩
        rw [hy, bind_some]
        rcases y with u | b
        · exact ⟨_, rfl, fun _ => ⟨v, rfl, hsz, hs1, hs2, Lam.node hv hsz hs1 (hq1 rfl)⟩⟩
        · obtain rfl := hq2 b rfl
          exact ⟨_, rfl, fun h => by cases h⟩

/-! kids and parents -/
def kidsF (t : List Node) : Nat → Nat → Nat → List Nat
  | 0, _, _ => []
  | f + 1, k, hi => if k < hi then k :: kidsF t f (k + sz t k) hi else []
/-- The places of a node's kids. -/
def kidsN (t : List Node) (a : Nat) : List Nat := kidsF t (sz t a) (a + 1) (a + sz t a)
def parF (t : List Node) (j : Nat) : Nat → Option Nat
  | 0 => none
  | i + 1 => if j < i + sz t i then some i else parF t j i
/-- The place of a node's parent. -/
def par (t : List Node) (j : Nat) : Option Nat := parF t j j
theorem parF_some {t : List Node} {j i p : Nat} (h : parF t j i = some p) : p < i ∧ j < p + sz t p ∧ ∀ q, p < q → q < i → ¬ j < q + sz t q := by
  induction i with
  | zero => cases h
  | succ i ih =>
    simp only [parF] at h
    split at h
    · cases h
      exact ⟨by omega, by assumption, fun q h1 h2 => by omega⟩
    · rename_i hn
      obtain ⟨h1, h2, h3⟩ := ih h
      refine ⟨by omega, h2, fun q g1 g2 => ?_⟩
      by_cases e : q = i
      · subst e; exact hn
      · exact h3 q g1 (by omega)
theorem parF_none {t : List Node} {j i : Nat} (h : parF t j i = none) : ∀ q, q < i → ¬ j < q + sz t q := by
  induction i with
  | zero => intro q hq; omega
  | succ i ih =>
    simp only [parF] at h
    split at h
    · cases h
    · rename_i hn
      intro q hq
      by_cases e : q = i
      · subst e; exact hn
      · exact ih h q (by omega)
theorem par_some {t : List Node} {j p : Nat} (h : par t j = some p) : p < j ∧ j < p + sz t p ∧ ∀ q, p < q → q < j → ¬ j < q + sz t q := parF_some h
theorem parF_mk {t : List Node} {j p : Nat} : ∀ {i : Nat}, p < i → j < p + sz t p → (∀ q, p < q → q < i → ¬ j < q + sz t q) → parF t j i = some p
  | 0, h, _, _ => by omega
  | i + 1, h1, h2, h3 => by
    simp only [parF]
    by_cases e : p = i
    · subst e; rw [if_pos h2]
    · rw [if_neg (h3 i (by omega) (by omega)), parF_mk (by omega) h2 fun q g1 g2 => h3 q g1 (by omega)]
theorem par_mk {t : List Node} {j p : Nat} (h1 : p < j) (h2 : j < p + sz t p) (h3 : ∀ q, p < q → q < j → ¬ j < q + sz t q) : par t j = some p := parF_mk h1 h2 h3
def parI (t : List Node) (j : Nat) : Int := match par t j with
  | some p => (p : Int)
  | none => -1
theorem Kids_eq (t : List Node) (ht : t.length ≤ 1000000) {a : Nat} {lo hi : Nat} (hL : Lam t lo hi) (h1 : lo ≤ a) (h2 : a < hi) (hhi : hi ≤ t.length) : m_spec_Kids (t, (a : Int)) = some ((kidsN t a).map Int.ofNat) := by
  obtain ⟨v, hv, hvs, hv1, hv2⟩ := hL.ok a h1 h2
  simp only [m_spec_Kids]
  rw [w64 (n := (a : Int) + 1) (by omega) (by omega)]
  have key : ∀ f k (acc : List Int), a < k → k ≤ a + sz t a → a + sz t a ≤ k + f → acc.length + f ≤ 1000000 → loopO m_spec_Kids_0 (t, (a : Int), acc, (k : Int)) = some (acc ++ (kidsF t f k (a + sz t a)).map Int.ofNat) := by
    intro f
    induction f with
    | zero =>
      intro k acc g1 g2 g3 g4
      have hk : k = a + sz t a := by omega
      subst hk
      refine loopO_out ?_
      simp only [m_spec_Kids_0, cond_dec, atI_nat]
      rw [hv, bind_some, hvs, w64 (by omega) (by omega), if_neg (by omega)]
      simp [kidsF]
    | succ f ih =>
      intro k acc g1 g2 g3 g4
      by_cases hk : k < a + sz t a
      · obtain ⟨u, hu, hus, hu1, hu2⟩ := (hL.sub h1 h2).ok k (by omega) hk
        have step : m_spec_Kids_0 (t, (a : Int), acc, (k : Int)) = some (.nx (t, (a : Int), acc ++ [(k : Int)], ((k + sz t k : Nat) : Int))) := by
          simp only [m_spec_Kids_0, cond_dec, atI_nat]
          rw [hv, bind_some, hvs, w64 (by omega) (by omega), if_pos (by omega), appL_some (by simp; omega), bind_some, hu, bind_some, hus, w64 (by omega) (by omega)]
          rfl
        rw [loopO_nx step, ih (k + sz t k) _ (by omega) (by omega) (by omega) (by simp; omega)]
        simp only [kidsF, if_pos hk, List.map_cons, List.append_assoc, List.singleton_append]
        rfl
      · have hk : k = a + sz t a := by omega
        subst hk
        refine loopO_out ?_
        simp only [m_spec_Kids_0, cond_dec, atI_nat]
        rw [hv, bind_some, hvs, w64 (by omega) (by omega), if_neg (by omega)]
        simp [kidsF]
  have h := key (sz t a) (a + 1) [] (by omega) (by omega) (by omega) (by simp; omega)
  have e : ((a : Int) + 1) = ((a + 1 : Nat) : Int) := by omega
  rw [e, h, bind_some]
  simp [kidsN]
theorem Parent_eq (t : List Node) (ht : t.length ≤ 1000000) {a : Nat} {hi : Nat} (hL : Lam t 0 hi) (h2 : a < hi) (hhi : hi ≤ t.length) : m_spec_Parent (t, (a : Int)) = some (parI t a) := by
  simp only [m_spec_Parent]
  rw [w64 (n := (a : Int) - 1) (by omega) (by omega)]
  have key : ∀ i, i ≤ a → loopO m_spec_Parent_0 (t, (a : Int), (i : Int) - 1) = some (match parF t a i with | some p => .inr (p : Int) | none => .inl ()) := by
    intro i
    induction i with
    | zero =>
      intro _
      refine loopO_out ?_
      simp only [m_spec_Parent_0, cond_dec]
      rw [if_neg (by omega)]
      rfl
    | succ i ih =>
      intro hi'
      obtain ⟨u, hu, hus, hu1, hu2⟩ := hL.ok i (by omega) (by omega)
      have e : ((i + 1 : Nat) : Int) - 1 = (i : Int) := by omega
      rw [e]
      by_cases h : a < i + sz t i
      · refine loopO_out ?_
        simp only [m_spec_Parent_0, cond_dec, atI_nat]
        rw [if_pos (by omega), hu, bind_some, hus, w64 (by omega) (by omega), if_pos (by omega)]
        simp only [parF, if_pos h]
      · have step : m_spec_Parent_0 (t, (a : Int), (i : Int)) = some (.nx (t, (a : Int), (i : Int) - 1)) := by
          simp only [m_spec_Parent_0, cond_dec, atI_nat]
          rw [if_pos (by omega), hu, bind_some, hus, w64 (by omega) (by omega), if_neg (by omega), w64 (by omega) (by omega)]
        rw [loopO_nx step, ih (by omega)]
        simp only [parF, if_neg h]
  rw [key a (Nat.le_refl _), bind_some]
  unfold parI par
  cases parF t a a <;> rfl
end Go.Proofs.YtpedmnlpccngiaaDoor.V
