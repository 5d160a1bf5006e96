/-
  Nodes put together, each once: goquery's mapNodes. Plain facts.
-/
import Derived.Test.YtlgabeiaheoniaaPLists
import Derived.Test.YtlgabeiaheoniaaGoqM
namespace Go.Proofs.Ytlgabeiaheoniaa.V
open Go

open Classical in
/-- Behind a list those that are not there yet. -/
noncomputable def addAll {α : Type} (acc l : List α) : List α := l.foldl (fun a v => if v ∈ a then a else a ++ [v]) acc
section
variable {α : Type}
theorem addAll_nil (acc : List α) : addAll acc [] = acc := rfl
open Classical in
theorem addAll_cons (acc : List α) (v : α) (l : List α) : addAll acc (v :: l) = addAll (if v ∈ acc then acc else acc ++ [v]) l := rfl
theorem addAll_in {acc : List α} {v : α} (l : List α) (h : v ∈ acc) : addAll acc (v :: l) = addAll acc l := by rw [addAll_cons, if_pos h]
theorem addAll_out {acc : List α} {v : α} (l : List α) (h : v ∉ acc) : addAll acc (v :: l) = addAll (acc ++ [v]) l := by rw [addAll_cons, if_neg h]
theorem addAll_app (acc l m : List α) : addAll acc (l ++ m) = addAll (addAll acc l) m := by simp [addAll, List.foldl_append]
theorem addAll_len : ∀ (l acc : List α), (addAll acc l).length ≤ acc.length + l.length
  | [], acc => by simp [addAll_nil]
  | v :: l, acc => by
    rw [addAll_cons]
    refine Nat.le_trans (addAll_len l _) ?_
    split
    · simp
    · simp; omega
theorem addAll_mem {u : α} : ∀ {l acc : List α}, u ∈ addAll acc l ↔ u ∈ acc ∨ u ∈ l
  | [], acc => by simp [addAll_nil]
  | v :: l, acc => by
    rw [addAll_cons, addAll_mem]
    by_cases h : v ∈ acc
    · rw [if_pos h, List.mem_cons]
      constructor
      · rintro (h1 | h1)
        · exact .inl h1
        · exact .inr (.inr h1)
      · rintro (h1 | rfl | h1)
        · exact .inl h1
        · exact .inl h
        · exact .inr h1
    · rw [if_neg h, List.mem_append, List.mem_singleton, List.mem_cons, or_assoc]
theorem addAll_nodup : ∀ {l acc : List α}, acc.Nodup → (addAll acc l).Nodup
  | [], acc, h => h
  | v :: l, acc, h => by
    rw [addAll_cons]
    refine addAll_nodup ?_
    split
    · exact h
    · rename_i hv
      rw [List.nodup_append]
      refine ⟨h, by simp, fun a ha b hb => ?_⟩
      simp only [List.mem_singleton] at hb
      subst hb
      exact fun e => hv (e ▸ ha)
theorem addAll_new : ∀ {l acc : List α}, l.Nodup → (∀ v ∈ l, v ∉ acc) → addAll acc l = acc ++ l
  | [], acc, _, _ => by simp [addAll_nil]
  | v :: l, acc, hn, hd => by
    rw [List.nodup_cons] at hn
    rw [addAll_cons, if_neg (hd v (by simp)), addAll_new hn.2 fun u hu => ?_]
    · simp
    · rw [List.mem_append, List.mem_singleton]
      rintro (h | rfl)
      · exact hd u (by simp [hu]) h
      · exact hn.1 hu
theorem addAll_once {l : List α} (h : l.Nodup) : addAll [] l = l := by
  rw [addAll_new h (by simp)]
  rfl
end
theorem mget_mput (l : List (Option Nat × Bool)) (o o' : Option Nat) (b : Bool) : mget (mput l o b) o' = if o' = o then b else mget l o' := by
  induction l with
  | nil =>
    simp only [mput, mget]
  | cons p l ih =>
    obtain ⟨k, v⟩ := p
    simp only [mput]
    by_cases h : o = k
    · subst h
      rw [if_pos rfl]
      simp only [mget]
      by_cases h' : o' = o
      · rw [if_pos h', if_pos h']
      · rw [if_neg h', if_neg h', if_neg h']
    · rw [if_neg h]
      simp only [mget]
      by_cases h' : o' = k
      · subst h'
        rw [if_pos rfl, if_pos rfl, if_neg (fun e => h e.symm)]
      · rw [if_neg h', if_neg h', ih]
/-- A map says of each node whether it is in a list. -/
def Told (s : List (Option Nat × Bool)) (acc : List (Option Nat)) : Prop := ∀ u, mget s u = decide (u ∈ acc)
theorem told_nil : Told [] [] := fun u => by simp [mget]
theorem awd_eq (acc l : List (Option Nat)) (s : List (Option Nat × Bool)) (h : Told s acc) (hl : acc.length + l.length ≤ 1000000) : ∃ s', m_goquery_appendWithoutDuplicates_mp (acc, l, s) = some (addAll acc l, s') ∧ Told s' (addAll acc l) := by
  simp only [m_goquery_appendWithoutDuplicates_mp]
  obtain ⟨y, h1, h2, h3⟩ := loopO_rule (body := m_goquery_appendWithoutDuplicates_mp_2) (fun x => ∃ (k : Nat) (s : List (Option Nat × Bool)), x = (addAll acc (l.take k), s, l, (l.length : Int), (k : Int)) ∧ k ≤ l.length ∧ Told s (addAll acc (l.take k))) (fun _ y => y.1 = addAll acc l ∧ Told y.2 (addAll acc l)) (fun x => ((l.length : Int) - x.2.2.2.2).toNat) (fun x hx => by
    obtain ⟨k, s, rfl, hk, hs⟩ := hx
    simp only [m_goquery_appendWithoutDuplicates_mp_2, cond_dec, atI_nat]
    split
    · rename_i h3
      obtain ⟨v, hv⟩ := get_lt (l := l) (k := k) (by omega)
      have hd : l.take (k + 1) = l.take k ++ [v] := by rw [List.take_add_one, hv]; rfl
      have ha : addAll acc (l.take (k + 1)) = addAll (addAll acc (l.take k)) [v] := by rw [hd, addAll_app]
      rw [hv, bind_some, hs v, w64 (by omega) (by omega), not_cond]
      by_cases hm : v ∈ addAll acc (l.take k)
      · rw [decide_eq_true hm, if_pos rfl]
        rw [addAll_in _ hm, addAll_nil] at ha
        exact .inr ⟨_, rfl, ⟨k + 1, s, by rw [ha]; rfl, by omega, by rw [ha]; exact hs⟩, by simp only; omega, fun _ h => h⟩
      · rw [decide_eq_false hm, if_neg (by simp)]
        rw [addAll_out _ hm, addAll_nil] at ha
        have hlen := addAll_len (l.take k) acc
        rw [List.length_take] at hlen
        rw [appL_some (by simp only [List.length_singleton]; omega), bind_some]
        refine .inr ⟨_, rfl, ⟨k + 1, _, by rw [ha]; rfl, by omega, ?_⟩, by simp only; omega, fun _ h => h⟩
        intro u
        rw [mget_mput, ha, hs u]
        by_cases hu : u = v
        · simp [hu]
        · simp [hu]
    · rename_i h3
      have : k = l.length := by omega
      subst this
      rw [List.take_length] at hs ⊢
      exact .inl ⟨_, rfl, rfl, hs⟩) (acc, s, l, (l.length : Int), (0 : Int)) ⟨0, s, rfl, Nat.zero_le _, by simpa [addAll_nil] using h⟩
  rw [h1, bind_some]
  obtain ⟨y1, y2⟩ := y
  simp only at h2 h3
  subst h2
  exact ⟨_, rfl, h3⟩
/-- The loop of mapNodes over nodes, of which g is asked. -/
theorem mapLoop {X B : Type} {body : X → Option (Stp X B)} (l : List (Option Nat)) (g : Option Nat → List (Option Nat)) (st : Nat → List (Option Nat) → List (Option Nat × Bool) → X) (out : List (Option Nat) → B) (hl : (l.flatMap g).length ≤ 500000)
    (hs : ∀ (k : Nat) (v : Option Nat) (acc : List (Option Nat)) (s : List (Option Nat × Bool)), l[k]? = some v → Told s acc → acc.length + (g v).length ≤ 1000000 → ∃ s', body (st k acc s) = some (.nx (st (k + 1) (addAll acc (g v)) s')) ∧ Told s' (addAll acc (g v)))
    (he : ∀ acc s, body (st l.length acc s) = some (.out (out acc))) : loopO body (st 0 [] []) = some (out (addAll [] (l.flatMap g))) := by
  have key : ∀ m k s, l.length - k = m → k ≤ l.length → Told s (addAll [] ((l.take k).flatMap g)) → loopO body (st k (addAll [] ((l.take k).flatMap g)) s) = some (out (addAll [] (l.flatMap g))) := by
    intro m
    induction m with
    | zero =>
      intro k s hm hk _
      have : k = l.length := by omega
      subst this
      rw [loopO_out (he _ _), List.take_length]
    | succ m ih =>
      intro k s hm hk ht
      obtain ⟨v, hv⟩ := get_lt (l := l) (k := k) (by omega)
      have hd : l.take (k + 1) = l.take k ++ [v] := by rw [List.take_add_one, hv]; rfl
      have hf : (l.take (k + 1)).flatMap g = (l.take k).flatMap g ++ g v := by rw [hd, List.flatMap_append]; simp
      have hsub : ((l.take (k + 1)).flatMap g).length ≤ (l.flatMap g).length := by
        have h3 : (l.take (k + 1)).flatMap g ++ (l.drop (k + 1)).flatMap g = l.flatMap g := by rw [← List.flatMap_append, List.take_append_drop]
        have := congrArg List.length h3
        rw [List.length_append] at this
        omega
      rw [hf, List.length_append] at hsub
      have hlen := addAll_len ((l.take k).flatMap g) []
      simp only [List.length_nil, Nat.zero_add] at hlen
      obtain ⟨s', h1, h2⟩ := hs k v _ s hv ht (by omega)
      rw [loopO_nx h1, ← addAll_app, ← hf]
      exact ih (k + 1) s' (by omega) (by omega) (by rw [hf, addAll_app]; exact h2)
  exact key l.length 0 [] (by omega) (Nat.zero_le _) (by simpa [addAll_nil] using told_nil)
end Go.Proofs.Ytlgabeiaheoniaa.V
