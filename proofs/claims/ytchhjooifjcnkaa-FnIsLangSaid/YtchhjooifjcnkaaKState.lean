/-
  Blocks that are made, changed, forgotten, frozen: what is told of the slots stays.
-/
import Derived.Test.YtchhjooifjcnkaaKRel
namespace Go.Proofs.Ytchhjooifjcnkaa.V
open Go K

section
variable {F F' : Frz} {ι ι' : Gh} {s s' : St} {ρ : List Value} {d : D} {v : Value} {t : Nat} {L0 : List Blk} {h : Array Obj}
theorem purge1_purge1 : ∀ d : D, (d.purge1 t).purge1 t = d.purge1 t := by
  intro d
  cases d with
  | own t' => cases hb : (t' == t) <;> simp [hb, D.purge1]
  | op t' o => cases hb : (t' == t) <;> simp [hb, D.purge1]
  | oe t' z i o => cases hb : (t' == t) <;> simp [hb, D.purge1]
  | na i => cases hb : (NT == t) <;> simp [hb, D.purge1]
  | nae i j o => cases hb : (NT == t) <;> simp [hb, D.purge1]
  | _ => rfl
theorem RdW.other (h : RdW F ι d v) (hp : d.purge1 t = d) (he : ∀ t', t' ≠ t → ι' t' = ι t') : RdW F ι' d v := by
  have := h.purge (t := t) he
  rwa [hp] at this
theorem F2.map_l {α β γ : Type} {R : α → β → Prop} {R' : γ → β → Prop} {f : α → γ} (hi : ∀ a b, R a b → R' (f a) b) : ∀ {l : List α} {m : List β}, F2 R l m → F2 R' (l.map f) m
  | _, _, .nil => .nil
  | _, _, .cons h t => .cons (hi _ _ h) (F2.map_l hi t)
theorem RdV.purge (h : RdV F ι d v) (he : ∀ t', t' ≠ t → ι' t' = ι t') : RdV F ι' (d.purge t) v := by
  cases d with
  | tup ds => obtain ⟨vs, h1, h2⟩ := h; exact ⟨vs, h1, h2.map_l fun _ _ h => h.purge he⟩
  | _ => exact .of_w ((RdV.to_w h (fun _ e => by cases e)).purge he)
theorem RdV.frz {x : D} (h : RdV F ι d v) (hx : Rd F [x] [(ι t).1]) : RdV F ι (d.frz t x) v := by
  cases d with
  | tup ds => obtain ⟨vs, h1, h2⟩ := h; exact ⟨vs, h1, h2.map_l fun _ _ h => h.frz hx⟩
  | _ => exact .of_w ((RdV.to_w h (fun _ e => by cases e)).frz hx)
theorem split_ow {b : OB} (hn : (s.ow.map (·.1)).Nodup) (hl : s.look t = some b) : ∃ A B, s.ow = A ++ (t, b) :: B ∧ (∀ p ∈ A, p.1 ≠ t) ∧ ∀ p ∈ B, p.1 ≠ t := by
  obtain ⟨A, B, h⟩ := List.append_of_mem (look_mem hl)
  rw [h, List.map_append, List.map_cons, List.nodup_append, List.nodup_cons] at hn
  refine ⟨A, B, h, fun p hp e => ?_, fun p hp e => ?_⟩
  · exact hn.2.2 p.1 (List.mem_map.2 ⟨p, hp, rfl⟩) t (by simp) e
  · exact hn.2.1.1 (e ▸ List.mem_map.2 ⟨p, hp, rfl⟩)
theorem filter_ne {A : List (Nat × OB)} (h : ∀ p ∈ A, p.1 ≠ t) : A.filter (fun p => !(p.1 == t)) = A := List.filter_eq_self.2 fun p hp => by simp [h p hp]
theorem lv_congr {A B : List (Nat × OB)} (h : A.map (·.1) = B.map (·.1)) : lv ι A = lv ι B := by
  have : ∀ A : List (Nat × OB), lv ι A = (A.map (·.1)).flatMap fun t => (ι t).2 := fun A => by simp [lv, List.flatMap_map]
  rw [this, this, h]
theorem lv_other {A : List (Nat × OB)} (h : ∀ p ∈ A, ι' p.1 = ι p.1) : lv ι' A = lv ι A := by
  unfold lv
  induction A with
  | nil => rfl
  | cons p A ih => simp only [List.flatMap_cons]; rw [h p (by simp), ih fun q hq => h q (by simp [hq])]
theorem lv_append (A B : List (Nat × OB)) : lv ι (A ++ B) = lv ι A ++ lv ι B := by simp [lv]
theorem lv_cons (p : Nat × OB) (B : List (Nat × OB)) : lv ι (p :: B) = (ι p.1).2 ++ lv ι B := by simp [lv]
theorem purge_keys (s : St) (t : Nat) : (s.purge t).ow.map (·.1) = (s.ow.filter fun p => !(p.1 == t)).map (·.1) := by simp [St.purge, List.map_map, Function.comp_def]
theorem purge_ne {p : Nat × OB} (hp : p ∈ (s.purge t).ow) : p.1 ≠ t := by
  have : p.1 ∈ (s.purge t).ow.map (·.1) := List.mem_map.2 ⟨p, hp, rfl⟩
  rw [purge_keys] at this
  obtain ⟨q, hq, he⟩ := List.mem_map.1 this
  rw [← he]
  simpa using (List.mem_filter.1 hq).2
theorem OwnR.purge {b : OB} {t' : Nat} (hne : t' ≠ t) (h : OwnR F ι t' b) (he : ∀ t', t' ≠ t → ι' t' = ι t') : OwnR F ι' t' (b.purge t) := by
  cases b with
  | rows e T xs =>
    obtain ⟨q, n, cp, rows, h1, h2, h3⟩ := h
    exact ⟨q, n, cp, rows, by rw [he _ hne]; exact h1, by rw [he _ hne]; exact h2, h3⟩
  | cells T ds =>
    obtain ⟨B, cs, h1, h2, h3⟩ := h
    exact ⟨B, cs, by rw [he _ hne]; exact h1, by rw [he _ hne]; exact h2, h3.map_l fun a b hab => hab.purge he⟩
  | nodes T A hs hole =>
    obtain ⟨h0, hds, h1, h2, h3⟩ := h
    exact ⟨h0, hds, by rw [he _ hne]; exact h1, by rw [he _ hne]; exact h2, h3⟩
  | nodesR hs => exact ⟨by rw [he _ hne]; exact h.1, h.2⟩
  | mp l =>
    obtain ⟨B, cs, h1, h2, h3⟩ := h
    exact ⟨B, cs, by rw [he _ hne]; exact h1, by rw [he _ hne]; exact h2, h3⟩
  | sit l pos =>
    obtain ⟨B, h1, h2⟩ := h
    exact ⟨B, by rw [he _ hne]; exact h1, by rw [he _ hne]; exact h2⟩
theorem Rel.purge' (hr : Rel F ι s ρ) (he : ∀ t', t' ≠ t → ι' t' = ι t') : Rel F ι' (s.purge t) ρ := by
  refine ⟨hr.len, fun i => (hr.sl i).purge he, fun p hp => ?_, ?_⟩
  · have hne := purge_ne hp
    simp only [St.purge, List.mem_map, List.mem_filter] at hp
    obtain ⟨q, ⟨hq, _⟩, rfl⟩ := hp
    exact (hr.ow q hq).purge hne he
  · rw [purge_keys]
    exact hr.nd.sublist ((List.filter_sublist).map _)
theorem Rel.purge (hr : Rel F ι s ρ) : Rel F ι (s.purge t) ρ := hr.purge' fun _ _ => rfl
theorem filter_sub (s : St) (t : Nat) : (lv ι (s.ow.filter fun p => !(p.1 == t))).Sublist (lv ι s.ow) := by
  unfold lv
  induction s.ow with
  | nil => exact .slnil
  | cons p A ih =>
    rw [List.filter_cons]
    split
    · simp only [List.flatMap_cons]; exact (List.Sublist.refl _).append ih
    · simp only [List.flatMap_cons]; exact ih.trans (List.sublist_append_right _ _)
theorem purge_sub (s : St) (t : Nat) : (lv ι (s.purge t).ow).Sublist (lv ι s.ow) := by
  rw [lv_congr (purge_keys s t)]
  exact filter_sub s t
theorem purge_lv (he : ∀ t', t' ≠ t → ι' t' = ι t') : lv ι' (s.purge t).ow = lv ι (s.purge t).ow := lv_other fun _ hp => he _ (purge_ne hp)
theorem Hp.purge (hm : Hp h F (lv ι s.ow ++ L0)) : Hp h F (lv ι (s.purge t).ow ++ L0) := hm.sub ((purge_sub s t).append (List.Sublist.refl _))
def Gh.upd (ι : Gh) (t : Nat) (x : Value × List Blk) : Gh := fun t' => if t' = t then x else ι t'
theorem Gh.upd_ne {x : Value × List Blk} {t' : Nat} (h : t' ≠ t) : ι.upd t x t' = ι t' := by simp [Gh.upd, h]
theorem Gh.upd_same {x : Value × List Blk} : ι.upd t x t = x := by simp [Gh.upd]
/-- A block that is made. -/
theorem Rel.make {b : OB} {x : Value × List Blk} (hr : Rel F ι (s.purge t) ρ) (hb : OwnR F (ι.upd t x) t b) : Rel F (ι.upd t x) ((s.purge t).make t b) ρ ∧ lv (ι.upd t x) ((s.purge t).make t b).ow = x.2 ++ lv ι (s.purge t).ow := by
  have h2 : Rel F (ι.upd t x) ((s.purge t).purge t) ρ := hr.purge' fun t' h => Gh.upd_ne h
  have hs : (s.purge t).purge t = s.purge t := by
    simp only [St.purge, St.mk.injEq, true_and]
    refine ⟨funext fun i => ?_, ?_⟩
    · cases s.sl i with
      | tup ds => simp [D.purge, purge1_purge1]
      | own t' => cases hb : (t' == t) <;> simp [hb, D.purge, D.purge1]
      | op t' o => cases hb : (t' == t) <;> simp [hb, D.purge, D.purge1]
      | oe t' z i o => cases hb : (t' == t) <;> simp [hb, D.purge, D.purge1]
      | na i => cases hb : (NT == t) <;> simp [hb, D.purge, D.purge1]
      | nae i j o => cases hb : (NT == t) <;> simp [hb, D.purge, D.purge1]
      | _ => rfl
    · rw [List.filter_map, List.filter_filter]
      simp only [List.map_map, Function.comp_def]
      have : ∀ b : OB, (b.purge t).purge t = b.purge t := fun b => by
        cases b with
        | rows e T xs => rfl
        | cells T ds => simp [OB.purge, purge1_purge1]
        | nodes T A hs hole => rfl
        | nodesR hs => rfl
        | mp l => rfl
        | sit l pos => rfl
      simp [this]
  rw [hs] at h2
  refine ⟨⟨h2.len, h2.sl, fun p hp => ?_, ?_⟩, ?_⟩
  · rcases List.mem_cons.1 hp with rfl | hp
    · exact hb
    · exact h2.ow p hp
  · simp only [St.make, List.map_cons, List.nodup_cons]
    exact ⟨fun hin => by obtain ⟨p, hp, he⟩ := List.mem_map.1 hin; exact purge_ne hp he, h2.nd⟩
  · simp only [St.make, lv_cons, Gh.upd_same]
    rw [purge_lv fun t' h => Gh.upd_ne h]
/-- A block that is changed. -/
theorem Rel.upd {b b' : OB} {x : Value × List Blk} (hr : Rel F ι s ρ) (hl : s.look t = some b) (hx : x.1 = (ι t).1) (hb : OwnR F (ι.upd t x) t b') : Rel F (ι.upd t x) (s.upd t b') ρ ∧ ∃ l1 l2, lv ι s.ow = l1 ++ ((ι t).2 ++ l2) ∧ lv (ι.upd t x) (s.upd t b').ow = l1 ++ (x.2 ++ l2) ∧ lv ι (s.purge t).ow = l1 ++ l2 := by
  have hW : ∀ d v, RdW F ι d v → RdW F (ι.upd t x) d v := fun d v h => by
    have h1 : ∀ t', (ι.upd t x t').1 = (ι t').1 := fun t' => by
      by_cases e : t' = t
      · subst e; rw [Gh.upd_same, hx]
      · rw [Gh.upd_ne e]
    cases d with
    | own t' => show v = _; rw [h1]; exact h
    | op t' o => obtain ⟨B, a, c⟩ := h; exact ⟨B, by rw [h1]; exact a, c⟩
    | oe t' z i o => obtain ⟨B, n, cp, a, c⟩ := h; exact ⟨B, n, cp, by rw [h1]; exact a, c⟩
    | na i => obtain ⟨hd, a, c⟩ := h; exact ⟨hd, by rw [h1]; exact a, c⟩
    | nae i j o => obtain ⟨hd, B, n, cp, a, c⟩ := h; exact ⟨hd, B, n, cp, by rw [h1]; exact a, c⟩
    | _ => exact h
  have hV : ∀ d v, RdV F ι d v → RdV F (ι.upd t x) d v := fun d v h => by
    cases d with
    | tup ds => obtain ⟨vs, a, c⟩ := h; exact ⟨vs, a, forall2_imp hW c⟩
    | _ => exact .of_w (hW _ _ (RdV.to_w h (fun _ e => by cases e)))
  have hO : ∀ t' b, t' ≠ t → OwnR F ι t' b → OwnR F (ι.upd t x) t' b := fun t' b hne h => by
    cases b with
    | rows e T xs => obtain ⟨q, n, cp, rows, a, c, f⟩ := h; exact ⟨q, n, cp, rows, by rw [Gh.upd_ne hne]; exact a, by rw [Gh.upd_ne hne]; exact c, f⟩
    | cells T ds => obtain ⟨B, cs, a, c, f⟩ := h; exact ⟨B, cs, by rw [Gh.upd_ne hne]; exact a, by rw [Gh.upd_ne hne]; exact c, forall2_imp hW f⟩
    | nodes T A hs hole => obtain ⟨h0, hds, a, c, f⟩ := h; exact ⟨h0, hds, by rw [Gh.upd_ne hne]; exact a, by rw [Gh.upd_ne hne]; exact c, f⟩
    | nodesR hs => exact ⟨by rw [Gh.upd_ne hne]; exact h.1, h.2⟩
    | mp l => obtain ⟨B, cs, a, c, f⟩ := h; exact ⟨B, cs, by rw [Gh.upd_ne hne]; exact a, by rw [Gh.upd_ne hne]; exact c, f⟩
    | sit l pos => obtain ⟨B, a, c⟩ := h; exact ⟨B, by rw [Gh.upd_ne hne]; exact a, by rw [Gh.upd_ne hne]; exact c⟩
  obtain ⟨A, B, hs, hA, hB⟩ := split_ow hr.nd hl
  have hm : ∀ A : List (Nat × OB), (∀ p ∈ A, p.1 ≠ t) → A.map (fun p => cond (p.1 == t) (t, b') p) = A := fun A hA => by
    refine (List.map_congr_left fun p hp => ?_).trans (List.map_id _)
    have : (p.1 == t) = false := by simp [hA p hp]
    rw [this]
    rfl
  have hu : (s.upd t b').ow = A ++ (t, b') :: B := by
    simp only [St.upd, hs, List.map_append, List.map_cons, hm A hA, hm B hB]
    simp
  refine ⟨⟨hr.len, fun i => hV _ _ (hr.sl i), fun p hp => ?_, ?_⟩, lv ι A, lv ι B, ?_, ?_, ?_⟩
  · rw [hu] at hp
    rcases List.mem_append.1 hp with hp | hp
    · exact hO _ _ (hA p hp) (hr.ow p (by rw [hs]; simp [hp]))
    · rcases List.mem_cons.1 hp with rfl | hp
      · exact hb
      · exact hO _ _ (hB p hp) (hr.ow p (by rw [hs]; simp [hp]))
  · have := hr.nd
    rw [hs] at this
    rw [hu]
    simpa using this
  · rw [hs, lv_append, lv_cons]
  · rw [hu, lv_append, lv_cons, Gh.upd_same, lv_other fun p hp => Gh.upd_ne (hA p hp), lv_other fun p hp => Gh.upd_ne (hB p hp)]
  · rw [lv_congr (purge_keys s t), hs, List.filter_append, List.filter_cons, filter_ne hA, filter_ne hB]
    simp [lv_append]
theorem cellsF_row {F : Frz} {B : Nat} {e : TypeId} {fz : Nat × Nat} : ∀ (cs pre post : List Value) (off : Nat), F.m B = some (.cells (pre ++ cs ++ post).toArray e fz) → off = pre.length → cellsF F B off cs
  | [], _, _, _, _, _ => trivial
  | c :: cs, pre, post, off, hb, ho => by
    subst ho
    refine ⟨?_, cellsF_row cs (pre ++ [c]) post (pre.length + 1) (by simpa using hb) (by simp)⟩
    unfold cellF
    rw [hb]
    simp
theorem freeze_keys (s : St) (t : Nat) (d : D) : (s.freeze t d).ow.map (·.1) = (s.ow.filter fun p => !(p.1 == t)).map (·.1) := by simp [St.freeze, List.map_map, Function.comp_def]
/-- A list that is owned reads as it does, once nobody changes it. -/
theorem own_rd {e : E} {T : TypeId} {xs : List e.T} (ho : OwnR F ι t (.rows e T xs)) (hf : F.le F') (hF : ∀ p ∈ (ι t).2, isB (F'.m p.1) p) : Rd F' [.lst e xs] [(ι t).1] := by
  obtain ⟨q, n, cp, rows, h1, h2, h3⟩ := ho
  have hn : xs.length = n := by rw [h2.len, ← forall2_len h3]
  rw [h1, ← hn]
  refine Rd.of_at (by rw [hn]; exact h2.le) fun i x hx => ?_
  obtain ⟨r, hr, hrd⟩ := forall2_get h3 hx
  obtain ⟨pre, post, e1, e2⟩ := flat_split h2.row hr
  rcases h2.sh with ⟨he, _, hv⟩ | ⟨B, n', cap, spare, he, hL, _, _, _⟩
  · have hz : n = 0 := by cases he; rfl
    have := (List.getElem?_eq_some_iff.1 hx).1
    omega
  · cases he
    refine ⟨r, rfl, ?_, hrd.mono hf⟩
    obtain ⟨fz, _, this⟩ := (hF (B, rows.flatten ++ spare, BT.c T) (by rw [hL]; simp)).cells
    simp only at this
    rw [e1] at this
    exact cellsF_row r pre (post ++ spare) _ (by simpa [blk] using this) (by simp [offs, e2])
theorem OwnR.frz {b : OB} {t' : Nat} {x : D} (h : OwnR F ι t' b) (hx : Rd F [x] [(ι t).1]) : OwnR F ι t' (OB.frz t x b) := by
  cases b with
  | cells T ds =>
    obtain ⟨B, cs, a, c, f⟩ := h
    exact ⟨B, cs, a, c, f.map_l fun _ _ h => h.frz hx⟩
  | rows e T xs => exact h
  | nodes T A hs hole => exact h
  | nodesR hs => exact h
  | mp l => exact h
  | sit l pos => exact h
theorem add_nid {L : List Blk} : (F.add h L).nid = F.nid := rfl
/-- A block is frozen, if it then reads as something. -/
theorem Rel.freeze' {b : OB} {x : D} (hr : Rel F ι s ρ) (hm : Hp h F (lv ι s.ow ++ L0)) (hl : s.look t = some b) (hx : ∀ F', F.le F' → (∀ p ∈ (ι t).2, isB (F'.m p.1) p) → Rd F' [x] [(ι t).1]) : ∃ F', F.le F' ∧ F'.nid = F.nid ∧ Hp h F' (lv ι (s.freeze t x).ow ++ L0) ∧ Rel F' ι (s.freeze t x) ρ ∧ Rd F' [x] [(ι t).1] := by
  obtain ⟨A, B, hs, hA, hB⟩ := split_ow hr.nd hl
  have hf : s.ow.filter (fun p => !(p.1 == t)) = A ++ B := by rw [hs, List.filter_append, List.filter_cons, filter_ne hA, filter_ne hB]; simp
  have hm1 : Hp h F ((ι t).2 ++ (lv ι (A ++ B) ++ L0)) := by
    refine hm.perm ?_
    rw [hs, lv_append, lv_append, lv_cons]
    simp only [List.append_assoc]
    refine (List.perm_append_comm_assoc _ _ _)
  have hn := hm1.nodup
  rw [List.map_append, List.nodup_append] at hn
  obtain ⟨hm2, hle⟩ := hm1.freeze
  have hrd := hx (F.add h (ι t).2) hle fun p hp => add_get hm1 hp
  refine ⟨F.add h (ι t).2, hle, rfl, ?_, ⟨hr.len, fun i => ((hr.sl i).mono hle).frz hrd, fun p hp => ?_, ?_⟩, hrd⟩
  · rw [lv_congr (freeze_keys s t _), hf]
    exact hm2
  · simp only [St.freeze, List.mem_map, List.mem_filter] at hp
    obtain ⟨q, ⟨hq, _⟩, rfl⟩ := hp
    exact ((hr.ow q hq).mono hle fun _ => rfl).frz hrd
  · rw [freeze_keys]
    exact hr.nd.sublist ((List.filter_sublist).map _)
theorem cells_fp {T : TypeId} {ds : List D} (ho : OwnR F ι t (.cells T ds)) (hp : ds.all D.plain = true) (hf : F.le F') (hF : ∀ p ∈ (ι t).2, isB (F'.m p.1) p) : Rd F' [.fp ds 0] [(ι t).1] := by
  obtain ⟨B, cs, h1, h2, h3⟩ := ho
  rw [h1]
  have h4 : Rd F ds cs := by
    clear h1 h2 hF
    induction h3 with
    | nil => exact .nil
    | cons h t ih =>
      simp only [List.all_cons, Bool.and_eq_true] at hp
      exact (h.to_rd hp.1).cons (ih hp.2)
  obtain ⟨fz, _, h5⟩ := (hF (B, cs, BT.c T) (by rw [h2]; simp)).cells
  have h5 : F'.m B = some (.cells ([] ++ cs ++ []).toArray T fz) := by simpa using h5
  exact .fp (o := 0) (off := 0) (cellsF_row cs [] [] 0 h5 rfl) (h4.mono hf) .nil
theorem Rel.freeze {e : E} {T : TypeId} {xs : List e.T} (hr : Rel F ι s ρ) (hm : Hp h F (lv ι s.ow ++ L0)) (hl : s.look t = some (.rows e T xs)) : ∃ F', F.le F' ∧ F'.nid = F.nid ∧ Hp h F' (lv ι (s.freeze t (.lst e xs)).ow ++ L0) ∧ Rel F' ι (s.freeze t (.lst e xs)) ρ ∧ Rd F' [.lst e xs] [(ι t).1] :=
  hr.freeze' hm hl fun F' hf hF => own_rd (hr.look hl) hf hF
theorem Rel.freezeB {T : TypeId} {ds : List D} (hr : Rel F ι s ρ) (hm : Hp h F (lv ι s.ow ++ L0)) (hl : s.look t = some (.cells T ds)) (hp : ds.all D.plain = true) : ∃ F', F.le F' ∧ F'.nid = F.nid ∧ Hp h F' (lv ι (s.freeze t (.fp ds 0)).ow ++ L0) ∧ Rel F' ι (s.freeze t (.fp ds 0)) ρ ∧ Rd F' [.fp ds 0] [(ι t).1] :=
  hr.freeze' hm hl fun F' hf hF => cells_fp (hr.look hl) hp hf hF
/-- A list that is owned, looked at as long as nobody changes it. -/
theorem Hp.lend (hm : Hp h F (lv ι s.ow ++ L0)) {b : OB} (hn : (s.ow.map (·.1)).Nodup) (hl : s.look t = some b) : ∃ l1 l2, lv ι s.ow = l1 ++ ((ι t).2 ++ l2) ∧ Hp h (F.add h (ι t).2) (l1 ++ l2 ++ L0) ∧ F.le (F.add h (ι t).2) ∧ ∀ p ∈ (ι t).2, isB ((F.add h (ι t).2).m p.1) p := by
  obtain ⟨A, B, hs, hA, hB⟩ := split_ow hn hl
  have e : lv ι s.ow = lv ι A ++ ((ι t).2 ++ lv ι B) := by rw [hs, lv_append, lv_cons]
  have hm1 : Hp h F ((ι t).2 ++ (lv ι A ++ lv ι B ++ L0)) := by
    refine hm.perm ?_
    rw [e]
    simp only [List.append_assoc]
    exact List.perm_append_comm_assoc _ _ _
  have hn := hm1.nodup
  rw [List.map_append, List.nodup_append] at hn
  exact ⟨_, _, e, hm1.freeze.1, hm1.freeze.2, fun p hp => add_get hm1 hp⟩
end
end Go.Proofs.Ytchhjooifjcnkaa.V
