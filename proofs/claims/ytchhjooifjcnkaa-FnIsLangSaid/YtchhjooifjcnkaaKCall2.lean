/-
  Calls by what is known of the callee.
-/
import Derived.Test.YtchhjooifjcnkaaKCall
namespace Go.Proofs.Ytchhjooifjcnkaa.V
open Go K

section
variable {P : Program} {C : Cx} {R : Type} {F F' F1 F2' : Frz} {ι ι' ι1 : Gh} {s s' : St} {ρ : List Value} {d : D} {v : Value} {t dt : Nat} {L0 : List Blk} {r : R} {dst : Option Tmp} {ty : TypeId} {p : String} {af : Array Edge} {gd : Option (Nat × Bool)} {h : Array Obj}

def kl (ι : Gh) (ks : List Nat) : List Blk := ks.flatMap fun t => (ι t).2
theorem lv_kl (ow : List (Nat × OB)) : lv ι ow = kl ι (ow.map (·.1)) := by simp [lv, kl, List.flatMap_map]
theorem kl_append (a b : List Nat) : kl ι (a ++ b) = kl ι a ++ kl ι b := by simp [kl]
theorem kl_perm {a b : List Nat} (h : a.Perm b) : (kl ι a).Perm (kl ι b) := h.flatMap_right _
theorem kl_sub : ∀ {a b : List Nat}, a.Sublist b → (kl ι a).Sublist (kl ι b)
  | _, _, .slnil => .slnil
  | _, _, .cons x h => by simp only [kl, List.flatMap_cons]; exact (kl_sub h).trans (List.sublist_append_right _ _)
  | _, _, .cons_cons x h => by simp only [kl, List.flatMap_cons]; exact (List.Sublist.refl _).append (kl_sub h)
theorem kl_congr {a : List Nat} (h : ∀ t ∈ a, ι' t = ι t) : kl ι' a = kl ι a := by
  unfold kl
  induction a with
  | nil => rfl
  | cons t a ih => simp only [List.flatMap_cons]; rw [h t (by simp), ih fun q hq => h q (by simp [hq])]
def without (ks T : List Nat) : List Nat := ks.filter fun k => !T.contains k
theorem perm_without {ks T : List Nat} (hk : ks.Nodup) (hT : T.Nodup) (hs : ∀ t ∈ T, t ∈ ks) : ks.Perm (T ++ without ks T) := by
  refine (List.perm_ext_iff_of_nodup hk ?_).2 fun a => ?_
  · rw [List.nodup_append]
    refine ⟨hT, hk.sublist List.filter_sublist, fun a ha b hb e => ?_⟩
    subst e
    have := (List.mem_filter.1 hb).2
    simp [ha] at this
  · simp only [List.mem_append, without, List.mem_filter, List.contains_eq_mem, Bool.not_eq_true', decide_eq_false_iff_not]
    constructor
    · intro ha
      by_cases h : a ∈ T
      · exact .inl h
      · exact .inr ⟨ha, h⟩
    · rintro (h | h)
      · exact hs a h
      · exact h.1
theorem purgeAll_keys : ∀ {T : List Nat} {s : St}, (purgeAll s T).ow.map (·.1) = without (s.ow.map (·.1)) T
  | [], s => by
    simp only [purgeAll, without, List.contains_nil, Bool.not_false]
    exact (List.filter_eq_self.2 fun _ _ => rfl).symm
  | t :: T, s => by
    simp only [purgeAll]
    rw [purgeAll_keys, purge_keys]
    simp only [without]
    have : (s.ow.filter fun p => !(p.1 == t)).map (·.1) = (s.ow.map (·.1)).filter fun k => !(k == t) := by rw [List.filter_map]; rfl
    rw [this, List.filter_filter]
    refine List.filter_congr fun x _ => ?_
    simp only [List.contains_cons]
    cases (x == t) <;> simp
theorem purgeAll_rel : ∀ {T : List Nat} {s : St} {ι : Gh}, Rel F ι s ρ → (∀ t, t ∉ T → ι' t = ι t) → Rel F ι' (purgeAll s T) ρ
  | [], s, ι, hr, he => by
    have : ι' = ι := funext fun t => he t (by simp)
    rw [this]
    exact hr
  | t :: T, s, ι, hr, he => by
    show Rel F ι' (purgeAll (s.purge t) T) ρ
    refine purgeAll_rel (ι := fun t' => if t' = t then ι' t else ι t') (hr.purge' (t := t) fun t' h => if_neg h) fun t' h => ?_
    by_cases e : t' = t
    · subst e; simp
    · simp only [e, if_false]; exact he t' (by simp [e, h])
theorem purgeAll_n : ∀ {T : List Nat} {s : St}, (purgeAll s T).n = s.n ∧ (purgeAll s T).np = s.np ∧ (purgeAll s T).nw = s.nw
  | [], _ => ⟨rfl, rfl, rfl⟩
  | _ :: T, s => by simp only [purgeAll]; rw [purgeAll_n.1, purgeAll_n.2.1, purgeAll_n.2.2]; exact ⟨rfl, rfl, rfl⟩
theorem look_key {b : OB} (h : s.look t = some b) : t ∈ s.ow.map (·.1) := List.mem_map.2 ⟨_, look_mem h, rfl⟩
theorem freezeAll_sound : ∀ {T : List Nat} {s s0 : St} {F : Frz}, Rel F ι s ρ → F.le F1 → F1.nid = F.nid → (∀ t ∈ T, ∀ q ∈ (ι t).2, isB (F1.m q.1) q) → freezeAll s T = some s0 → Rel F1 ι s0 ρ ∧ s0.ow.map (·.1) = without (s.ow.map (·.1)) T ∧ s0.n = s.n ∧ s0.np = s.np ∧ s0.nw = s.nw
  | [], s, s0, F, hr, hf, hn, _, h => by
    cases h
    refine ⟨hr.mono hf hn, ?_, rfl, rfl, rfl⟩
    simp only [without, List.contains_nil, Bool.not_false]
    exact (List.filter_eq_self.2 fun _ _ => rfl).symm
  | t :: T, s, s0, F, hr, hf, hn, hF, h => by
    simp only [freezeAll] at h
    have fin : ∀ d, Rd F1 [d] [(ι t).1] → freezeAll (s.freeze t d) T = some s0 → Rel F1 ι s0 ρ ∧ s0.ow.map (·.1) = without (s.ow.map (·.1)) (t :: T) ∧ s0.n = s.n ∧ s0.np = s.np ∧ s0.nw = s.nw := fun d hrd h => by
      have hr1 : Rel F1 ι (s.freeze t d) ρ := by
        refine ⟨hr.len, fun i => ((hr.sl i).mono hf).frz hrd, fun p hp => ?_, ?_⟩
        · simp only [St.freeze, List.mem_map, List.mem_filter] at hp
          obtain ⟨q, ⟨hq, _⟩, rfl⟩ := hp
          exact ((hr.ow q hq).mono hf fun _ => hn).frz hrd
        · rw [freeze_keys]
          exact hr.nd.sublist ((List.filter_sublist).map _)
      obtain ⟨a, b, c, d, e⟩ := freezeAll_sound hr1 (.refl F1) rfl (fun t ht => hF t (by simp [ht])) h
      refine ⟨a, ?_, c, d, e⟩
      rw [b, freeze_keys]
      simp only [without]
      have : (s.ow.filter fun p => !(p.1 == t)).map (·.1) = (s.ow.map (·.1)).filter fun k => !(k == t) := by rw [List.filter_map]; rfl
      rw [this, List.filter_filter]
      refine List.filter_congr fun x _ => ?_
      simp only [List.contains_cons]
      cases (x == t) <;> simp
    split at h
    · rename_i e T' xs hlk
      exact fin _ (own_rd (hr.look hlk) hf (hF t (by simp))) h
    · rename_i T' ds hlk
      cases hp : ds.all D.plain with
      | false => rw [hp] at h; cases h
      | true =>
        rw [hp] at h
        exact fin _ (cells_fp (hr.look hlk) hp hf (hF t (by simp))) h
    · cases h
theorem un1_tag {lax : Bool} {i : Nat} {k : Kd} {x : k.T} (h : un1 s lax i k = some x) : (∀ t ∈ tag1 s i k, ∃ b, s.look t = some b) ∧ kl (reG ι s) ((mk1 i k x).2.map (·.1)) = kl ι (tag1 s i k) := by
  cases k with
  | own e T =>
    simp only [un1] at h
    split at h
    · rename_i t hk
      cases hc : ((nkp s.np i || t == i) && !(i == NT) && !(i == NTR)) with
      | false => rw [hc] at h; cases h
      | true =>
        rw [hc] at h
        simp only [cond_true] at h
        split at h
        · rename_i hlk
          refine ⟨fun t' ht => ?_, ?_⟩
          · simp only [tag1, hk, List.mem_singleton] at ht
            subst ht
            exact ⟨_, hlk⟩
          · have hg := reG_ref (ι := ι) (o := 0) hc (.inl hk)
            simp [tag1, hk, mk1, kl, hg]
        · cases h
    · rename_i hk
      refine ⟨fun t' ht => by simp [tag1, hk] at ht, ?_⟩
      cases hc : (nkp s.np i && !(i == NT) && !(i == NTR)) with
      | false => rw [hc] at h; cases h
      | true =>
        have hg := reG_nil (ι := ι) hc hk
        simp [tag1, hk, mk1, kl, hg]
    · cases h
  | blk e T =>
    simp only [un1] at h
    split at h
    · rename_i t hk
      cases hc : ((nkp s.np i || t == i) && !(i == NT) && !(i == NTR)) with
      | false => rw [hc] at h; cases h
      | true =>
        rw [hc] at h
        simp only [cond_true] at h
        split at h
        · rename_i hlk
          refine ⟨fun t' ht => ?_, ?_⟩
          · simp only [tag1, hk, List.mem_singleton] at ht
            subst ht
            exact ⟨_, hlk⟩
          · have hg := reG_ref (ι := ι) (o := 0) hc (.inr hk)
            simp [tag1, hk, mk1, kl, hg]
        · cases h
    · cases h
  | mp =>
    simp only [un1] at h
    split at h
    · rename_i t hk
      cases hc : ((nkp s.np i || t == i) && !(i == NT) && !(i == NTR)) with
      | false => rw [hc] at h; cases h
      | true =>
        rw [hc] at h
        simp only [cond_true] at h
        split at h
        · rename_i hlk
          refine ⟨fun t' ht => ?_, ?_⟩
          · simp only [tag1, hk, List.mem_singleton] at ht
            subst ht
            exact ⟨_, hlk⟩
          · have hg := reG_ref (ι := ι) (o := 0) hc (.inl hk)
            simp [tag1, hk, mk1, kl, hg]
        · cases h
    · cases h
  | sit =>
    simp only [un1] at h
    split at h
    · rename_i t hk
      cases hc : ((nkp s.np i || t == i) && !(i == NT) && !(i == NTR)) with
      | false => rw [hc] at h; cases h
      | true =>
        rw [hc] at h
        simp only [cond_true] at h
        split at h
        · rename_i hlk
          refine ⟨fun t' ht => ?_, ?_⟩
          · simp only [tag1, hk, List.mem_singleton] at ht
            subst ht
            exact ⟨_, hlk⟩
          · have hg := reG_ref (ι := ι) (o := 0) hc (.inr hk)
            simp [tag1, hk, mk1, kl, hg]
        · cases h
    · cases h
  | ns T A =>
    simp only [un1] at h
    cases hi : (i == NT) with
    | false => rw [hi] at h; cases h
    | true =>
      rw [hi] at h
      simp only [cond_true] at h
      have hi : i = NT := by simpa using hi
      subst hi
      split at h
      · rename_i hlk
        refine ⟨fun t' ht => ?_, by simp [tag1, mk1, kl, reG_nt]⟩
        simp only [tag1, List.mem_singleton] at ht
        subst ht
        exact ⟨_, hlk⟩
      · cases h
  | nsr =>
    simp only [un1] at h
    cases hi : (i == NTR) with
    | false => rw [hi] at h; cases h
    | true =>
      have hi : i = NTR := by simpa using hi
      subst hi
      exact ⟨fun t ht => by simp [tag1] at ht, by simp [tag1, mk1, kl, reG_ntr]⟩
  | _ => exact ⟨fun t ht => by simp [tag1] at ht, rfl⟩
theorem unP_tag {lax : Bool} : ∀ {p : Pt} {x : Tup p}, unP s lax p = some x → (∀ t ∈ tags s p, ∃ b, s.look t = some b) ∧ lv (reG ι s) (mkOw p x) = kl ι (tags s p)
  | [], _, _ => ⟨fun t ht => by simp [tags] at ht, rfl⟩
  | [q], x, h => by
    obtain ⟨a, b⟩ := un1_tag (ι := ι) (show un1 s lax q.1 q.2 = some x from h)
    refine ⟨fun t ht => a t (by simpa [tags] using ht), ?_⟩
    show lv (reG ι s) (mk1 q.1 q.2 x).2 = _
    rw [lv_kl, b]
    simp [tags]
  | q :: q' :: ps, x, h => by
    simp only [unP] at h
    cases h1 : un1 s lax q.1 q.2 with
    | none => rw [h1] at h; cases h
    | some a =>
      rw [h1] at h
      simp only at h
      cases h2 : unP s lax (q' :: ps) with
      | none => rw [h2] at h; cases h
      | some b =>
        rw [h2] at h
        cases h
        obtain ⟨c, d⟩ := un1_tag (ι := ι) h1
        obtain ⟨e, f⟩ := unP_tag (p := q' :: ps) h2
        have ht : tags s (q :: q' :: ps) = tag1 s q.1 q.2 ++ tags s (q' :: ps) := by simp [tags]
        rw [ht]
        refine ⟨fun t ht => ?_, ?_⟩
        · rcases List.mem_append.1 ht with ht | ht
          · exact c t ht
          · exact e t ht
        · show lv (reG ι s) ((mk1 q.1 q.2 a).2 ++ mkOw (q' :: ps) b) = _
          rw [lv_append, f, lv_kl, d, kl_append]
theorem lent1_look {i : Nat} {k : Kd} {x : k.T} (h : un1 s true i k = some x) : ∀ t ∈ lent s [(i, k)], ∃ b, s.look t = some b := by
  intro t ht
  cases k <;> simp only [lent] at ht <;> try (simp at ht; done)
  · split at ht
    · rename_i t' hk
      simp only [List.mem_singleton] at ht
      subst ht
      simp only [un1, hk, cond_true] at h
      split at h
      · rename_i hlk; exact ⟨_, hlk⟩
      · cases h
    · simp at ht
  · split at ht
    · rename_i t' hk
      simp only [List.mem_singleton] at ht
      subst ht
      simp only [un1, hk, cond_true] at h
      split at h
      · rename_i hlk; exact ⟨_, hlk⟩
      · cases h
    · simp at ht
  · split at ht
    · simp at ht
    · split at ht
      · rename_i hlk
        simp only [List.mem_singleton] at ht
        subst ht
        exact ⟨_, hlk⟩
      · simp at ht
theorem lent_look : ∀ {p : Pt} {x : Tup p}, unP s true p = some x → ∀ t ∈ lent s p, ∃ b, s.look t = some b
  | [], _, _, t, ht => by simp [lent] at ht
  | [(i, k)], x, h, t, ht => lent1_look h t ht
  | (i, k) :: q' :: ps, x, h, t, ht => by
    simp only [unP] at h
    cases h1 : un1 s true i k with
    | none => rw [h1] at h; cases h
    | some a =>
      rw [h1] at h
      simp only at h
      cases h2 : unP s true (q' :: ps) with
      | none => rw [h2] at h; cases h
      | some b =>
        rw [lent_cons] at ht
        rcases List.mem_append.1 ht with ht | ht
        · exact lent1_look h1 t ht
        · exact lent_look (p := q' :: ps) h2 t ht
/-- The state at a loop's head, or behind a loop. -/
theorem unD_sound {p : Pt} {x : Tup p} (hr : Rel F ι s ρ) (hm : Hp h F (lv ι s.ow ++ L0)) (hu : unD s p = some x) : Rel F (reG ι s) (mkP s.n s.np s.nw p x) ρ ∧ Hp h F (lv (reG ι s) (mkOw p x) ++ L0) ∧ ∀ t, (s.np / 1000 ≤ t ∧ t < s.np % 1000) → (reG ι s t).1 = (ι t).1 := by
  unfold unD at hu
  cases hc : (nodupB (tags s p) && nodupB (p.map (·.1))) with
  | false => rw [hc] at hu; cases hu
  | true =>
    rw [hc] at hu
    simp only [cond_true] at hu
    rw [Bool.and_eq_true] at hc
    have h1 := nodupB_nodup hc.1
    have h2 := nodupB_nodup hc.2
    obtain ⟨h3, h4⟩ := unP_tag (ι := ι) hu
    refine ⟨(unP_sound hr.toV (.refl F) rfl (fun h => by cases h) hu).rel h2 hr.len, ?_, fun t ht => reG_np ht⟩
    rw [h4]
    have h5 := perm_without hr.nd h1 fun t ht => by obtain ⟨b, hb⟩ := h3 t ht; exact look_key hb
    rw [lv_kl] at hm
    have h6 := hm.perm (((kl_perm (ι := ι) h5).symm).append_right L0)
    rw [kl_append] at h6
    exact h6.sub ((List.sublist_append_left _ _).append (List.Sublist.refl _))
theorem unD_vals {σ : Nat → Value} {p : Pt} {x : Tup p} (hr : RelV F ι s σ) (hm : Hp h F (lv ι s.ow ++ L0)) (hu : unD s p = some x) : MP F (reG ι s) σ p x ∧ Hp h F (lv (reG ι s) (mkOw p x) ++ L0) := by
  unfold unD at hu
  cases hc : (nodupB (tags s p) && nodupB (p.map (·.1))) with
  | false => rw [hc] at hu; cases hu
  | true =>
    rw [hc] at hu
    simp only [cond_true] at hu
    rw [Bool.and_eq_true] at hc
    have h1 := nodupB_nodup hc.1
    have h2 := nodupB_nodup hc.2
    obtain ⟨h3, h4⟩ := unP_tag (ι := ι) hu
    refine ⟨unP_sound hr (.refl F) rfl (fun h => by cases h) hu, ?_⟩
    rw [h4]
    have h5 := perm_without hr.nd h1 fun t ht => by obtain ⟨b, hb⟩ := h3 t ht; exact look_key hb
    rw [lv_kl] at hm
    have h6 := hm.perm (((kl_perm (ι := ι) h5).symm).append_right L0)
    rw [kl_append] at h6
    exact h6.sub ((List.sublist_append_left _ _).append (List.Sublist.refl _))
end
end Go.Proofs.Ytchhjooifjcnkaa.V
