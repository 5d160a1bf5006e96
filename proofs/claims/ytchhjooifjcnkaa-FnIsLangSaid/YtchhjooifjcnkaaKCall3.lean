/-
  Calls, third part.
-/
import Derived.Test.YtchhjooifjcnkaaKCall2
namespace Go.Proofs.Ytchhjooifjcnkaa.V
open Go K

def joinV : List Value → Value
  | [v] => v
  | vs => .tuple vs.toArray
/-- What is handed back: results, and what arguments hold. -/
def vX (vs : List Value) (ι : Gh) (k : Nat) : Value := if k < 1000 then vs.getD k undef else if k = NT then undef else (ι (k - 1000)).1
def Res (F : Frz) (ι : Gh) (ent : Ent) (r : Tup ent.pout) (L0 : List Blk) (v : Value) (h' : Array Obj) : Prop :=
  ∃ F' ι' vs, F.le F' ∧ (hasNT ent.pout = false → F'.nid = F.nid) ∧ vs.length = (realK ent.pout).length ∧ MP F' ι' (vX vs ι) ent.pout r ∧ v = joinV vs ∧ Hp h' F' (lv ι' (mkOw ent.pout r) ++ L0) ∧ ∀ k ∈ ent.pout.map (·.1), 1000 ≤ k → k ≠ NT → (ι' k).1 = (ι (k - 1000)).1
/-- What is known of a function holds. -/
def FnOK (P : Program) (f : FuncId) (ent : Ent) : Prop :=
  ∀ (x : Tup ent.pin) (r : Tup ent.pout), ent.m x = some r → ∀ (F : Frz) (ι : Gh) (h : Array Obj) (L0 : List Blk) (vargs : List Value), vargs.length = (realK ent.pin).length → MP F ι (fun i => vargs.getD i undef) ent.pin x → Hp h F (lv ι (mkOw ent.pin x) ++ L0) → Ret P f vargs h (Res F ι ent r L0)
def CxOK (P : Program) (C : Cx) : Prop := TbOK P C.tb ∧ ∀ f ent, C.fns f = some ent → FnOK P f ent ∧ ∀ args w, (callFunc f args).run P w = .ok (.enter f args) w

section
variable {P : Program} {C : Cx} {R : Type} {F F' F1 F3 : Frz} {ι ι' ι1 ι2 ι3 : Gh} {s s' : St} {ρ : List Value} {d : D} {v : Value} {t dt : Nat} {L0 : List Blk} {r : R} {dst : Option Tmp} {ty : TypeId} {p : String} {af : Array Edge} {gd : Option (Nat × Bool)} {h : Array Obj}

theorem mk1_notup {i : Nat} {k : Kd} {x : k.T} : ∀ ds, (mk1 i k x).1 ≠ .tup ds := by intro ds; cases k <;> simp [mk1]
theorem out1_sound {τ : Nat → Nat} {j : Nat} (hι : ι3 (τ j) = ι2 j) (hN : j = NT → τ j = NT) {k : Kd} {x : k.T} (hA : k.noAl = true) (h : M1 F ι2 j k x v) :
    M1 F ι3 (τ j) k x v ∧ (mk1 (τ j) k x).2.map (·.1) = ((mk1 j k x).2.map (·.1)).map τ ∧ lv ι3 (mk1 (τ j) k x).2 = lv ι2 (mk1 j k x).2 := by
  refine ⟨h.ren hA hι hN, ?_, ?_⟩
  · cases k <;> rfl
  · cases k <;> simp [mk1, lv, hι]
theorem realK_cons {q : Nat × Kd} {ps : Pt} : realK (q :: ps) = (cond (Nat.blt q.1 1000) [q.1] []) ++ realK ps := by
  simp only [realK, List.map_cons, List.filter_cons]
  cases Nat.blt q.1 1000 <;> rfl
theorem F2.app {α β : Type} {R : α → β → Prop} : ∀ {l l' : List α} {m m' : List β}, F2 R l m → F2 R l' m' → F2 R (l ++ l') (m ++ m')
  | _, _, _, _, .nil, h => h
  | _, _, _, _, .cons h t, h' => .cons h (t.app h')
theorem out_sound {τ : Nat → Nat} {vs : Nat → Value} : ∀ {q : Pt} {x : Tup q}, (∀ a ∈ q, a.2.noAl = true) → (∀ k ∈ q.map (·.1), ι3 (τ k) = ι2 k) → (∀ k ∈ q.map (·.1), k = NT → τ k = NT) → MP F ι2 vs q x →
    F2 (fun d v => RdV F ι3 d v ∧ ∀ ds, d ≠ .tup ds) (outDs τ q x) ((realK q).map vs) ∧ (∀ b ∈ outOw τ q x, OwnR F ι3 b.1 b.2) ∧ (outOw τ q x).map (·.1) = ((mkOw q x).map (·.1)).map τ ∧ lv ι3 (outOw τ q x) = lv ι2 (mkOw q x)
  | [], x, _, _, _, _ => ⟨.nil, by simp [outOw], rfl, rfl⟩
  | [a], x, hA, hι, hN, hm => by
    obtain ⟨h1, h2, h3⟩ := out1_sound (τ := τ) (hι a.1 (by simp)) (hN a.1 (by simp)) (hA a (by simp)) (show M1 F ι2 a.1 a.2 x (vs a.1) from hm)
    refine ⟨?_, h1.2, h2, h3⟩
    rw [realK_cons]
    simp only [outDs]
    cases Nat.blt a.1 1000 with
    | true => exact .cons ⟨h1.1, mk1_notup⟩ .nil
    | false => exact .nil
  | a :: b :: q, x, hA, hι, hN, hm => by
    obtain ⟨h1, h2, h3⟩ := out1_sound (τ := τ) (hι a.1 (by simp)) (hN a.1 (by simp)) (hA a (by simp)) (show M1 F ι2 a.1 a.2 x.1 (vs a.1) from hm.1)
    obtain ⟨b1, b2, b3, b4⟩ := out_sound (τ := τ) (vs := vs) (q := b :: q) (x := x.2) (fun a ha => hA a (List.mem_cons_of_mem _ ha)) (fun k hk => hι k (List.mem_cons_of_mem _ hk)) (fun k hk => hN k (List.mem_cons_of_mem _ hk)) hm.2
    have e1 : outOw τ (a :: b :: q) x = (mk1 (τ a.1) a.2 x.1).2 ++ outOw τ (b :: q) x.2 := rfl
    have e2 : mkOw (a :: b :: q) x = (mk1 a.1 a.2 x.1).2 ++ mkOw (b :: q) x.2 := rfl
    refine ⟨?_, fun c hc => ?_, ?_, ?_⟩
    · rw [realK_cons, List.map_append]
      simp only [outDs]
      cases Nat.blt a.1 1000 with
      | true => exact .cons ⟨h1.1, mk1_notup⟩ b1
      | false => exact b1
    · rw [e1] at hc
      rcases List.mem_append.1 hc with hc | hc
      · exact h1.2 c hc
      · exact b2 c hc
    · rw [e1, e2, List.map_append, List.map_append, List.map_append, h2, b3]
    · rw [e1, e2, lv_append, lv_append, h3, b4]
theorem joinD_sound : ∀ {ds : List D} {vs : List Value}, F2 (fun d v => RdV F ι d v ∧ ∀ ds, d ≠ .tup ds) ds vs → RdV F ι (joinD ds) (joinV vs)
  | [], _, .nil => trivial
  | [_], [_], .cons h .nil => h.1
  | a :: b :: ds, _, .cons h (.cons h' t) => ⟨_, rfl, .cons (h.1.to_w h.2) (.cons (h'.1.to_w h'.2) (forall2_imp (fun _ _ h => h.1.to_w h.2) t))⟩
theorem without_without {ks A B : List Nat} : without (without ks A) B = without ks (B ++ A) := by
  simp only [without, List.filter_filter]
  refine List.filter_congr fun x _ => ?_
  simp only [List.contains_eq_mem, List.mem_append]
  by_cases h1 : x ∈ A <;> by_cases h2 : x ∈ B <;> simp [h1, h2]
theorem without_sub {ks A : List Nat} : (without ks A).Sublist ks := List.filter_sublist
theorem without_mono {ks A B : List Nat} (h : ∀ t ∈ A, t ∈ B) : (without ks B).Sublist (without ks A) := by
  have : without ks B = without (without ks A) B := by
    rw [without_without]
    refine List.filter_congr fun x _ => ?_
    simp only [List.contains_eq_mem, List.mem_append]
    by_cases h1 : x ∈ B
    · simp [h1]
    · have : x ∉ A := fun hA => h1 (h x hA)
      simp [h1, this]
  rw [this]
  exact without_sub
def Frz.wth (F F' : Frz) : Frz := ⟨F.m, F'.nid, F'.lv, F'.inj, F'.nlt⟩
theorem Hp.nid_eq (hm : Hp h F L0) (h1 : F'.m = F.m) (h2 : ∀ b, F'.lv b → F.lv b) : Hp h F' L0 := ⟨fun b o hb => hm.frz b o (by rw [← h1]; exact hb), hm.own, fun p hp => by rw [h1]; exact hm.sep p hp, hm.nodup, fun b hb => hm.live b (h2 b hb)⟩
/-- Blocks that were looked at are owned as before. -/
theorem Hp.unfreeze {Lb L : List Blk} {h' : Array Obj} (hm : Hp h F (Lb ++ L)) (hF : ∀ p ∈ Lb, isB (F1.m p.1) p) (hf : F.le F1) {L' : List Blk} (hm' : Hp h' F1 L') : Hp h' (F.wth F1) (Lb ++ L') := by
  have hn := hm.nodup
  rw [List.map_append, List.nodup_append] at hn
  refine ⟨fun b o hb => hm'.frz b o (hf.1 b o hb), fun p hp => ?_, fun p hp => ?_, ?_, hm'.live⟩
  · rcases List.mem_append.1 hp with hp | hp
    · exact (hF p hp).frz hm'
    · exact hm'.own p hp
  · rcases List.mem_append.1 hp with hp | hp
    · exact hm.sep p (by simp [hp])
    · exact (hm'.weaken hf).sep p hp
  · rw [List.map_append, List.nodup_append]
    refine ⟨hn.1, hm'.nodup, fun a ha b hb e => ?_⟩
    subst e
    obtain ⟨p, hp, rfl⟩ := List.mem_map.1 ha
    obtain ⟨q, hq, he⟩ := List.mem_map.1 hb
    obtain ⟨x, h1⟩ := (hF p hp).some
    have h2 := hm'.sep q hq
    rw [he, h1] at h2
    cases h2
theorem getD_map_g {xs : List Operand} (hr : Rel F ι s ρ) : ∀ i, RdV F ι ((xs.map (g s)).getD i .u) ((xs.map (ev ρ)).getD i undef) := by
  intro i
  simp only [List.getD_eq_getElem?_getD, List.getElem?_map]
  cases xs[i]? with
  | none => trivial
  | some x => exact g_rd hr x
theorem kl_key {ks : List Nat} {q : Blk} : q ∈ kl ι ks ↔ ∃ t ∈ ks, q ∈ (ι t).2 := by simp [kl]
/-- What the callee is handed. -/
theorem args_sound {sa : St} {vargs : List Value} {q : Pt} {x : Tup q} (hr : Rel F ι sa vargs) (hm : Hp h F (lv ι sa.ow ++ L0)) (hnd : (tags sa q ++ lent sa q).Nodup) (hu : unP sa true q = some x) :
    ∃ F1, F.le F1 ∧ F1.nid = F.nid ∧ (∀ t ∈ lent sa q, ∀ b ∈ (ι t).2, isB (F1.m b.1) b) ∧ MP F1 (reG ι sa) (fun i => vargs.getD i undef) q x ∧ lv (reG ι sa) (mkOw q x) = kl ι (tags sa q) ∧ Hp h F1 (kl ι (tags sa q) ++ (kl ι (without (sa.ow.map (·.1)) (tags sa q ++ lent sa q)) ++ L0)) ∧
      ∀ F2 h' L', F1.le F2 → Hp h' F2 L' → Hp h' (F.wth F2) (kl ι (lent sa q) ++ L') := by
  obtain ⟨h3, h4⟩ := unP_tag (ι := ι) hu
  have h5 := lent_look hu
  have hk : ∀ t ∈ tags sa q ++ lent sa q, t ∈ sa.ow.map (·.1) := fun t ht => by
    rcases List.mem_append.1 ht with ht | ht
    · obtain ⟨b, hb⟩ := h3 t ht; exact look_key hb
    · obtain ⟨b, hb⟩ := h5 t ht; exact look_key hb
  have hp := perm_without hr.nd hnd hk
  rw [lv_kl] at hm
  have hm1 := hm.perm (((kl_perm (ι := ι) hp).symm).append_right L0)
  rw [kl_append, kl_append] at hm1
  have hm2 : Hp h F (kl ι (lent sa q) ++ (kl ι (tags sa q) ++ (kl ι (without (sa.ow.map (·.1)) (tags sa q ++ lent sa q)) ++ L0))) := by
    refine hm1.perm ?_
    simp only [List.append_assoc]
    exact List.perm_append_comm_assoc _ _ _
  obtain ⟨hm3, hle⟩ := hm2.freeze
  have hn := hm2.nodup
  rw [List.map_append, List.nodup_append] at hn
  have hF : ∀ t ∈ lent sa q, ∀ b ∈ (ι t).2, isB ((F.add h (kl ι (lent sa q))).m b.1) b := fun t ht b hb => add_get hm2 (kl_key.2 ⟨t, ht, hb⟩)
  exact ⟨_, hle, rfl, hF, unP_sound hr.toV hle rfl (fun _ => hF) hu, h4, hm3, fun F2 h' L' h12 hm' => hm2.unfreeze (fun b hb => (add_get hm2 hb).mono h12) (hle.trans h12) hm'⟩
theorem look_of_key {t : Nat} (hk : t ∈ s.ow.map (·.1)) : ∃ b, s.look t = some b := by
  unfold St.look
  cases hf : s.ow.find? (fun p => p.1 == t) with
  | none =>
    obtain ⟨q, hq, rfl⟩ := List.mem_map.1 hk
    have := List.find?_eq_none.1 hf q hq
    simp at this
  | some q => exact ⟨q.2, rfl⟩
theorem OwnR.same1 {b : OB} (h1 : ∀ t', (ι' t').1 = (ι t').1) (h2 : ι' t = ι t) (h : OwnR F ι t b) : OwnR F ι' t b := by
  cases b with
  | rows e T xs => obtain ⟨q, n, cp, rows, a, c, f⟩ := h; exact ⟨q, n, cp, rows, by rw [h2]; exact a, by rw [h2]; exact c, f⟩
  | cells T ds => obtain ⟨B, cs, a, c, f⟩ := h; exact ⟨B, cs, by rw [h2]; exact a, by rw [h2]; exact c, forall2_imp (fun _ _ h => h.same1 h1) f⟩
  | nodes T A hs hole => obtain ⟨h0, hds, a, c, f⟩ := h; exact ⟨h0, hds, by rw [h2]; exact a, by rw [h2]; exact c, f⟩
  | nodesR hs => exact ⟨by rw [h2]; exact h.1, h.2⟩
  | mp l => obtain ⟨B, cs, a, c, f⟩ := h; exact ⟨B, cs, by rw [h2]; exact a, by rw [h2]; exact c, f⟩
  | sit l pos => obtain ⟨B, a, c⟩ := h; exact ⟨B, by rw [h2]; exact a, by rw [h2]; exact c⟩
theorem RdV.same1 (h1 : ∀ t', (ι' t').1 = (ι t').1) (h : RdV F ι d v) : RdV F ι' d v := by
  cases d with
  | tup ds => obtain ⟨vs, a, c⟩ := h; exact ⟨vs, a, forall2_imp (fun _ _ h => h.same1 h1) c⟩
  | _ => exact .of_w ((RdV.to_w h (fun _ e => by cases e)).same1 h1)
theorem Rel.same1 (hr : Rel F ι s ρ) (h1 : ∀ t', (ι' t').1 = (ι t').1) (h2 : ∀ p ∈ s.ow, ι' p.1 = ι p.1) : Rel F ι' s ρ :=
  ⟨hr.len, fun i => (hr.sl i).same1 h1, fun p hp => (hr.ow p hp).same1 h1 (h2 p hp), hr.nd⟩
theorem Rel.fewer (hr : Rel F ι s ρ) (k : Nat × OB → Bool) : Rel F ι ⟨s.n, s.np, s.nw, s.sl, s.ow.filter k⟩ ρ :=
  ⟨hr.len, hr.sl, fun p hp => hr.ow p (List.mem_filter.1 hp).1, hr.nd.sublist ((List.filter_sublist).map _)⟩
theorem hasNT_iff {p : Pt} : hasNT p = true ↔ NT ∈ p.map (·.1) := by
  simp [hasNT]
theorem outTag_nt {d : Nat} {args : List D} : outTag d args NT = NT := by
  unfold outTag
  have h1 : Nat.blt NT 1000 = false := by decide
  rw [h1]
  simp
theorem outTag_lt {d k : Nat} {args : List D} (h : k < 1000) : outTag d args k = 1000 * (d + 1) + k := by
  unfold outTag
  have h1 : Nat.blt k 1000 = true := by simpa [Nat.blt_eq] using h
  rw [h1]
  rfl
theorem nodup_of_map {τ : Nat → Nat} : ∀ {l : List Nat}, (l.map τ).Nodup → l.Nodup
  | [], _ => .nil
  | a :: l, h => by
    rw [List.map_cons, List.nodup_cons] at h
    exact List.nodup_cons.2 ⟨fun hin => h.1 (List.mem_map.2 ⟨a, hin, rfl⟩), nodup_of_map h.2⟩
def pickK (l : List Nat) (τ : Nat → Nat) (t : Nat) : Option Nat := l.find? fun k => τ k == t
theorem pickK_some {l : List Nat} {τ : Nat → Nat} {k : Nat} (hn : (l.map τ).Nodup) (hk : k ∈ l) : pickK l τ (τ k) = some k := by
  induction l with
  | nil => cases hk
  | cons a l ih =>
    rw [List.map_cons, List.nodup_cons] at hn
    unfold pickK
    rw [List.find?_cons]
    by_cases e : τ a = τ k
    · rcases List.mem_cons.1 hk with rfl | hk
      · simp
      · exact absurd (show τ a ∈ l.map τ by rw [e]; exact List.mem_map.2 ⟨k, hk, rfl⟩) hn.1
    · have : (τ a == τ k) = false := by simp [e]
      rw [this]
      rcases List.mem_cons.1 hk with rfl | hk
      · exact absurd rfl e
      · exact ih hn.2 hk
theorem pickK_none {l : List Nat} {τ : Nat → Nat} {t : Nat} (h : t ∉ l.map τ) : pickK l τ t = none := by
  unfold pickK
  rw [List.find?_eq_none]
  intro k hk
  simp only [beq_iff_eq]
  exact fun e => h (List.mem_map.2 ⟨k, hk, e⟩)
set_option maxHeartbeats 1000000 in
theorem evCallA_sound {K : D → St → Option R} {f : FuncId} {argd : List D} {argv : List Value} {dn : Nat} (hC : CxOK P C) (hr : Rel F ι s ρ) (hm : Hp h F (lv ι s.ow ++ L0)) (hal : argv.length = argd.length) (hav : ∀ i, RdV F ι (argd.getD i .u) (argv.getD i undef)) (h0 : evCall C s dn f argd K = some r) : (∀ args w, (callFunc f args).run P w = .ok (.enter f args) w) ∧ Ret P f argv h (Post K r F ι s ρ L0 dn) := by
  unfold evCall at h0
  split at h0
  · cases h0
  · rename_i ent hent
    obtain ⟨hfn, hcal⟩ := hC.2 f ent hent
    refine ⟨hcal, ?_⟩
    cases hc : callOK s dn argd ent with
    | false => rw [hc] at h0; cases h0
    | true =>
      rw [hc] at h0
      simp only [cond_true] at h0
      unfold callOK at hc
      generalize hτ : outTag dn argd = τ at h0 hc
      generalize hsa : argSt s argd = sa at h0 hc
      have hra : Rel F ι sa argv := by
        subst hsa
        exact ⟨by simp [argSt, hal], hav, hr.ow, hr.nd⟩
      have how : sa.ow = s.ow := by subst hsa; rfl
      have hsnp : sa.np = 0 := by subst hsa; rfl
      simp only [Bool.and_eq_true, beq_iff_eq, Nat.ble_eq] at hc
      obtain ⟨⟨⟨⟨⟨⟨⟨⟨⟨hc1, hc2⟩, hc3⟩, hc4⟩, hc4'⟩, hc5⟩, hc6⟩, hc7⟩, hc8⟩, hc9⟩ := hc
      split at h0
      · cases h0
      · rename_i x hx
        split at h0
        · cases h0
        · rename_i s0 hs0
          obtain ⟨rr, hrr, h0⟩ := Option.bind_eq_some_iff.1 h0
          have hma : Hp h F (lv ι sa.ow ++ L0) := by rw [how]; exact hm
          have hTL := nodupB_nodup hc1
          obtain ⟨F1, hle, hnid1, hF1, hMP, hlv, hH, hun⟩ := args_sound hra hma hTL hx
          have hlen : argv.length = (realK ent.pin).length := by rw [hc2]; simp [hal]
          refine (hfn x rr hrr F1 (reG ι sa) h (kl ι (without (sa.ow.map (·.1)) (tags sa ent.pin ++ lent sa ent.pin)) ++ L0) _ hlen hMP (by rw [hlv]; exact hH)).mono ?_
          rintro v h' ⟨F2, ι2, vs, hle2, hnid2, hvl, hres, hv, hH2, hio⟩
          have hnds : (s.ow.map (·.1)).Nodup := hr.nd
          -- what is told of the caller's slots behind the call
          have hmid : ∃ Fx F3, Fx.le F3 ∧ F.le F3 ∧ Fx.nid = F.nid ∧ F3.nid = F2.nid ∧ Rel Fx ι s0 ρ ∧ MP F3 ι2 (vX vs (reG ι sa)) ent.pout rr ∧ Hp h' F3 (lv ι2 (mkOw ent.pout rr) ++ (kl ι (without (s0.ow.map (·.1)) (tags sa ent.pin)) ++ L0)) ∧ s0.n = s.n ∧ s0.np = s.np ∧ s0.nw = s.nw := by
            cases hfl : (ent.pout.all fun q => q.2.flat) with
            | true =>
              rw [hfl] at hs0
              simp only [cond_true] at hs0
              cases hs0
              have hl3 : F.le (F.wth F2) := ⟨fun _ _ h => h, (hle.trans hle2).2⟩
              refine ⟨F, F.wth F2, hl3, hl3, rfl, rfl, hr, MP.flat (F := F2) (F' := F.wth F2) rfl hres hfl, ?_, rfl, rfl, rfl⟩
              have h1 := hun F2 h' _ hle2 hH2
              have h2 : (kl ι (lent sa ent.pin) ++ (lv ι2 (mkOw ent.pout rr) ++ (kl ι (without (sa.ow.map (·.1)) (tags sa ent.pin ++ lent sa ent.pin)) ++ L0))).Perm (lv ι2 (mkOw ent.pout rr) ++ (kl ι (without (s.ow.map (·.1)) (tags sa ent.pin)) ++ L0)) := by
                refine (List.perm_append_comm_assoc _ _ _).trans (List.Perm.append_left _ ?_)
                rw [← List.append_assoc, ← kl_append]
                refine List.Perm.append_right _ (kl_perm ?_)
                have h3 := perm_without (ks := without (s.ow.map (·.1)) (tags sa ent.pin)) (T := lent sa ent.pin) (hnds.sublist without_sub) (List.nodup_append.1 hTL).2.1 fun t ht => by
                  have h5 := lent_look hx t ht
                  obtain ⟨b, hb⟩ := h5
                  have h6 := look_key hb
                  rw [how] at h6
                  refine List.mem_filter.2 ⟨h6, ?_⟩
                  simp only [List.contains_eq_mem, Bool.not_eq_true', decide_eq_false_iff_not]
                  intro h7
                  exact (List.nodup_append.1 hTL).2.2 t h7 t ht rfl
                rw [without_without] at h3
                refine (List.Perm.symm ?_)
                rw [how]
                refine h3.trans (List.Perm.append_left _ (List.Perm.of_eq ?_))
                refine List.filter_congr fun y _ => ?_
                simp only [List.contains_eq_mem, List.mem_append]
                by_cases h8 : y ∈ tags sa ent.pin <;> by_cases h9 : y ∈ lent sa ent.pin <;> simp [h8, h9]
              exact h1.perm h2.symm
            | false =>
              rw [hfl] at hs0
              simp only [cond_false] at hs0
              obtain ⟨q1, q2, q3, q4, q5⟩ := freezeAll_sound hr hle hnid1 hF1 hs0
              refine ⟨F1, F2, hle2, hle.trans hle2, hnid1, rfl, q1, hres, ?_, q3, q4, q5⟩
              rw [q2, without_without, ← how]
              exact hH2
          obtain ⟨Fx, F3, hlex, hle3, hnidx, hnid3, hr0, hres3, hH3, hn0, hnp0, hnw0⟩ := hmid
          generalize hpg : ((tags sa ent.pin).filter fun t => !((backT τ ent.pout).contains t) || t == NT) ++ (realK ent.pout).map τ = pg at h0
          let ι3 : Gh := fun t => match pickK (ent.pout.map (·.1)) τ t with
            | some k => ι2 k
            | none => ι t
          have hτn : ((ent.pout.map (·.1)).map τ).Nodup := by
            have := nodupB_nodup hc5
            simpa [List.map_map, Function.comp_def] using this
          have hι3 : ∀ k ∈ ent.pout.map (·.1), ι3 (τ k) = ι2 k := fun k hk => by
            show (match pickK (ent.pout.map (·.1)) τ (τ k) with | some k => ι2 k | none => ι (τ k)) = _
            rw [pickK_some hτn hk]
          have hι3' : ∀ t, t ∉ (ent.pout.map (·.1)).map τ → ι3 t = ι t := fun t ht => by
            show (match pickK (ent.pout.map (·.1)) τ t with | some k => ι2 k | none => ι t) = _
            rw [pickK_none ht]
          have hτNT : τ NT = NT := by rw [← hτ]; exact outTag_nt
          -- keys that are handed back keep their address
          have hback : ∀ k ∈ ent.pout.map (·.1), 1000 ≤ k → k ≠ NT → (ι2 k).1 = (ι (τ k)).1 := fun k hk h1 h2 => by
            rw [hio k hk h1 h2]
            have h3 := List.all_eq_true.1 hc4'
            obtain ⟨q, hq, rfl⟩ := List.mem_map.1 hk
            have h4 := h3 q hq
            have e1 : Nat.blt q.1 1000 = false := by cases hb : Nat.blt q.1 1000 with
              | false => rfl
              | true => rw [Nat.blt_eq] at hb; omega
            have e2 : (q.1 == NT) = false := by simpa using h2
            simp only [e1, e2, Bool.false_or, Bool.and_eq_true] at h4
            obtain ⟨h5, h6⟩ := h4
            have h5 : q.1 < NT := by simpa [Nat.blt_eq] using h5
            have hsl : sa.sl (q.1 - 1000) = argd.getD (q.1 - 1000) .u := by subst hsa; rfl
            have htau : τ q.1 = match argd.getD (q.1 - 1000) .u with | .op t _ => t | .own t => t | _ => 0 := by
              rw [← hτ]
              unfold outTag
              rw [e1, e2]
              rfl
            have hne : NT < NTR := by decide
            have hcnd : ∀ t, ((nkp sa.np (q.1 - 1000) || t == (q.1 - 1000)) && !((q.1 - 1000) == NT) && !((q.1 - 1000) == NTR)) = true := fun t => by
              have g1 : nkp sa.np (q.1 - 1000) = true := by rw [hsnp, nkp_iff]; omega
              have g2 : ((q.1 - 1000) == NT) = false := by simp; omega
              have g3 : ((q.1 - 1000) == NTR) = false := by simp; omega
              rw [g1, g2, g3]
              rfl
            revert h6 htau
            rw [← hsl]
            intro h6 htau
            cases hd : sa.sl (q.1 - 1000) with
            | own t =>
              rw [hd] at htau
              rw [htau, reG_ref (o := 0) (hcnd t) (.inl hd)]
            | op t o =>
              rw [hd] at htau
              rw [htau, reG_ref (o := o) (hcnd t) (.inr hd)]
            | _ => rw [hd] at h6; simp [D.isRef] at h6
          have hkk : ∀ k ∈ ent.pout.map (·.1), (1000 ≤ k ∧ k ≠ NT) ∨ τ k ∈ pg := fun k hk => by
            by_cases e : k = NT
            · right
              subst e
              rw [hτNT, ← hpg]
              refine List.mem_append_left _ (List.mem_filter.2 ⟨?_, by simp⟩)
              have h3 := List.all_eq_true.1 hc4
              have := h3 NT (by
                refine List.mem_map.2 ⟨NT, List.mem_filter.2 ⟨hk, ?_⟩, hτNT⟩
                have h1 : Nat.blt NT 1000 = false := by decide
                rw [h1]; rfl)
              simpa using this
            · by_cases e2 : 1000 ≤ k
              · exact .inl ⟨e2, e⟩
              · right
                rw [← hpg]
                refine List.mem_append_right _ (List.mem_map.2 ⟨k, List.mem_filter.2 ⟨hk, ?_⟩, rfl⟩)
                rw [Nat.blt_eq]; omega
          have hsame : ∀ t, t ∉ pg → (ι3 t).1 = (ι t).1 := fun t ht => by
            by_cases hin : t ∈ (ent.pout.map (·.1)).map τ
            · obtain ⟨k, hk, rfl⟩ := List.mem_map.1 hin
              rw [hι3 k hk]
              rcases hkk k hk with h1 | h1
              · exact hback k hk h1.1 h1.2
              · exact absurd h1 ht
            · rw [hι3' t hin]
          let ι4 : Gh := fun t => if t ∈ pg then ι3 t else ι t
          have hr1 : Rel Fx ι4 (purgeAll s0 pg) ρ := purgeAll_rel hr0 fun t ht => if_neg ht
          have hr2 := hr1.fewer fun p => !((backT τ ent.pout).contains p.1)
          have hk2 : ((purgeAll s0 pg).ow.filter fun p => !((backT τ ent.pout).contains p.1)).map (·.1) = without (without (s0.ow.map (·.1)) pg) (backT τ ent.pout) := by
            have : ((purgeAll s0 pg).ow.filter fun p => !((backT τ ent.pout).contains p.1)).map (·.1) = ((purgeAll s0 pg).ow.map (·.1)).filter fun k => !((backT τ ent.pout).contains k) := by rw [List.filter_map]; rfl
            rw [this, purgeAll_keys]
            rfl
          have hτpg : ∀ t ∈ (ent.pout.map (·.1)).map τ, t ∈ pg ∨ t ∈ backT τ ent.pout := fun t ht => by
            obtain ⟨k, hk, rfl⟩ := List.mem_map.1 ht
            rcases hkk k hk with h1 | h1
            · right
              refine List.mem_map.2 ⟨k, List.mem_filter.2 ⟨hk, ?_⟩, rfl⟩
              have : Nat.blt k 1000 = false := by cases hb : Nat.blt k 1000 with
                | false => rfl
                | true => rw [Nat.blt_eq] at hb; omega
              rw [this]; rfl
            · exact .inl h1
          have hrest : ∀ t ∈ ((purgeAll s0 pg).ow.filter fun p => !((backT τ ent.pout).contains p.1)).map (·.1), t ∉ pg ∧ t ∉ (ent.pout.map (·.1)).map τ := fun t ht => by
            rw [hk2] at ht
            obtain ⟨h1, h2⟩ := List.mem_filter.1 ht
            obtain ⟨h3, h4⟩ := List.mem_filter.1 h1
            simp only [List.contains_eq_mem, Bool.not_eq_true', decide_eq_false_iff_not] at h2 h4
            refine ⟨h4, fun h5 => ?_⟩
            rcases hτpg t h5 with h6 | h6
            · exact h4 h6
            · exact h2 h6
          have hr3 := hr2.same1 (ι' := ι3) (fun t => by
            show _ = (if t ∈ pg then ι3 t else ι t).1
            split
            · rfl
            · rename_i h; exact hsame t h) fun q hq => by
            have := (hrest q.1 (List.mem_map.2 ⟨q, hq, rfl⟩)).1
            show _ = if q.1 ∈ pg then ι3 q.1 else ι q.1
            rw [if_neg this, hι3' _ (hrest q.1 (List.mem_map.2 ⟨q, hq, rfl⟩)).2]
          have hr4 : Rel F3 ι3 ⟨(purgeAll s0 pg).n, (purgeAll s0 pg).np, (purgeAll s0 pg).nw, (purgeAll s0 pg).sl, (purgeAll s0 pg).ow.filter fun p => !((backT τ ent.pout).contains p.1)⟩ ρ := by
            cases hNT : hasNT ent.pout with
            | false => exact hr3.mono hlex (by rw [hnid3, hnid2 hNT, hnid1, hnidx])
            | true =>
              refine hr3.mono' hlex fun q hq e => ?_
              have h1 := (hrest q.1 (List.mem_map.2 ⟨q, hq, rfl⟩)).2
              rw [e] at h1
              exact h1 (List.mem_map.2 ⟨NT, hasNT_iff.1 hNT, hτNT⟩)
          have hn : (purgeAll s0 pg).n = s.n ∧ (purgeAll s0 pg).np = s.np ∧ (purgeAll s0 pg).nw = s.nw := by
            obtain ⟨a, b, c⟩ := purgeAll_n (T := pg) (s := s0)
            exact ⟨a.trans hn0, b.trans hnp0, c.trans hnw0⟩
          obtain ⟨w1, w2, w3, w4⟩ := out_sound (τ := τ) (ι3 := ι3) (fun a ha => List.all_eq_true.1 hc9 a ha) hι3 (fun k _ e => by rw [e]; exact hτNT) hres3
          have hvs : (realK ent.pout).map (vX vs (reG ι sa)) = vs := by
            have e1 : (realK ent.pout).map (vX vs (reG ι sa)) = (realK ent.pout).map fun i => vs.getD i undef := List.map_congr_left fun k hk => by
              have := (List.mem_filter.1 hk).2
              rw [Nat.blt_eq] at this
              exact if_pos this
            rw [e1, hc3, ← hvl]
            apply List.ext_getElem?
            intro i
            rw [List.getElem?_map]
            rcases Nat.lt_or_ge i vs.length with hi | hi
            · rw [List.getElem?_range hi]
              simp [List.getD_eq_getElem?_getD, hi]
            · rw [List.getElem?_eq_none (by simp; omega), List.getElem?_eq_none hi]
              rfl
          rw [hvs] at w1
          have hkeys : (outOw τ ent.pout rr).map (·.1) = ((mkOw ent.pout rr).map (·.1)).map τ := w3
          have hsubk : ∀ t ∈ (outOw τ ent.pout rr).map (·.1), t ∈ (ent.pout.map (·.1)).map τ := fun t ht => by
            rw [hkeys] at ht
            obtain ⟨k, hk, rfl⟩ := List.mem_map.1 ht
            obtain ⟨q, hq, rfl⟩ := List.mem_map.1 hk
            exact List.mem_map.2 ⟨_, mkOw_keys q hq, rfl⟩
          have hpn : (ent.pout.map (·.1)).Nodup := by
            refine nodup_of_map hτn
          have hnod : ((outOw τ ent.pout rr).map (·.1)).Nodup := by
            rw [hkeys]
            have h1 := mkOw_nodup (x := rr) hpn
            have h2 : ∀ k ∈ (mkOw ent.pout rr).map (·.1), k ∈ ent.pout.map (·.1) := fun k hk => by
              obtain ⟨q, hq, rfl⟩ := List.mem_map.1 hk
              exact mkOw_keys q hq
            generalize (mkOw ent.pout rr).map (·.1) = l at h1 h2
            induction l with
            | nil => exact .nil
            | cons a l ih =>
              rw [List.nodup_cons] at h1
              rw [List.map_cons, List.nodup_cons]
              refine ⟨fun hin => ?_, ih h1.2 fun k hk => h2 k (List.mem_cons_of_mem _ hk)⟩
              obtain ⟨b, hb, he⟩ := List.mem_map.1 hin
              have p1 := pickK_some hτn (h2 a (by simp))
              have p2 := pickK_some hτn (h2 b (List.mem_cons_of_mem _ hb))
              rw [he, p1] at p2
              exact h1.1 ((Option.some.inj p2) ▸ hb)
          refine ⟨F3, ι3, _, ⟨(purgeAll s0 pg).n, (purgeAll s0 pg).np, (purgeAll s0 pg).nw, (purgeAll s0 pg).sl, outOw τ ent.pout rr ++ (purgeAll s0 pg).ow.filter fun p => !((backT τ ent.pout).contains p.1)⟩, hle3, ⟨hr4.len, hr4.sl, fun q hq => ?_, ?_⟩, ?_, ?_, h0, hn.1, hn.2.1, hn.2.2, fun e => ?_, fun t ht => ?_, fun t ht h1 h2 => ?_⟩
          · rcases List.mem_append.1 hq with hq | hq
            · exact w2 q hq
            · exact hr4.ow q hq
          · show ((outOw τ ent.pout rr ++ _).map _).Nodup
            rw [List.map_append, List.nodup_append]
            exact ⟨hnod, hr4.nd, fun a ha b hb e => (hrest b hb).2 (e ▸ hsubk a ha)⟩
          · show Hp h' F3 (lv ι3 (outOw τ ent.pout rr ++ _) ++ L0)
            rw [lv_append, w4, List.append_assoc]
            refine hH3.sub ((List.Sublist.refl _).append (List.Sublist.append ?_ (List.Sublist.refl _)))
            rw [lv_kl, hk2, without_without]
            have e1 : kl ι3 (without (s0.ow.map (·.1)) (backT τ ent.pout ++ pg)) = kl ι (without (s0.ow.map (·.1)) (backT τ ent.pout ++ pg)) := kl_congr fun t ht => by
              refine hι3' t ?_
              rw [← without_without, ← hk2] at ht
              exact (hrest t ht).2
            rw [e1]
            refine kl_sub (without_mono fun t ht => ?_)
            by_cases hb : t ∈ backT τ ent.pout
            · exact List.mem_append_left _ hb
            · refine List.mem_append_right _ ?_
              rw [← hpg]
              refine List.mem_append_left _ (List.mem_filter.2 ⟨ht, ?_⟩)
              simp [hb]
          · rw [hv]
            exact joinD_sound w1
          · have hN : hasNT ent.pout = false := by
              have hc9 := hc8
              clear hc8
              revert hc9
              rw [e]
              cases hasNT ent.pout <;> simp
            exact hnid3.trans ((hnid2 hN).trans hnid1)
          · by_cases hin : t ∈ (ent.pout.map (·.1)).map τ
            · obtain ⟨k, hk, rfl⟩ := List.mem_map.1 hin
              rw [hι3 k hk]
              by_cases e1 : k < 1000
              · rw [← hτ, outTag_lt e1] at ht
                omega
              · by_cases e2 : k = NT
                · subst e2
                  rw [hτNT] at ht
                  omega
                · exact hback k hk (by omega) e2
            · rw [hι3' t hin]
          · refine hι3' t fun hin => ?_
            obtain ⟨k, hk, rfl⟩ := List.mem_map.1 hin
            by_cases e1 : k < 1000
            · rw [← hτ, outTag_lt e1] at h2
              omega
            · have h3 : τ k ∈ backT τ ent.pout := by
                refine List.mem_map.2 ⟨k, List.mem_filter.2 ⟨hk, ?_⟩, rfl⟩
                have : Nat.blt k 1000 = false := by cases hb : Nat.blt k 1000 with
                  | false => rfl
                  | true => rw [Nat.blt_eq] at hb; omega
                rw [this]; rfl
              have h4 := List.all_eq_true.1 hc4 _ h3
              have h5 : τ k ∈ tags sa ent.pin := by simpa using h4
              obtain ⟨b, hb⟩ := (unP_tag (ι := ι) hx).1 _ h5
              have h6 := look_key hb
              rw [how] at h6
              obtain ⟨q, hq, he⟩ := List.mem_map.1 h6
              exact ht q hq he
theorem evCall_sound {K : D → St → Option R} {f : FuncId} {xs : List Operand} {dn : Nat} (hC : CxOK P C) (hr : Rel F ι s ρ) (hm : Hp h F (lv ι s.ow ++ L0)) (h0 : evCall C s dn f (xs.map (g s)) K = some r) : (∀ args w, (callFunc f args).run P w = .ok (.enter f args) w) ∧ Ret P f (xs.map (ev ρ)) h (Post K r F ι s ρ L0 dn) :=
  evCallA_sound hC hr hm (by simp) (getD_map_g hr) h0
/-- A function value's call: what it has captured comes behind the arguments. -/
theorem evCallD_sound {K : D → St → Option R} {f : FuncId} {xs : List Operand} {ds : List D} {cs : List Value} {dn : Nat} (hC : CxOK P C) (hr : Rel F ι s ρ) (hm : Hp h F (lv ι s.ow ++ L0)) (dv : Rd F ds cs) (h0 : evCall C s dn f (xs.map (g s) ++ ds) K = some r) : (∀ args w, (callFunc f args).run P w = .ok (.enter f args) w) ∧ Ret P f (xs.map (ev ρ) ++ cs) h (Post K r F ι s ρ L0 dn) := by
  refine evCallA_sound hC hr hm (by simp [dv.length]) (fun i => ?_) h0
  simp only [List.getD_eq_getElem?_getD]
  rcases Nat.lt_or_ge i xs.length with hi | hi
  · rw [List.getElem?_append_left (by simpa using hi), List.getElem?_append_left (by simpa using hi), ← List.getD_eq_getElem?_getD, ← List.getD_eq_getElem?_getD]
    exact getD_map_g hr i
  · rw [List.getElem?_append_right (by simpa using hi), List.getElem?_append_right (by simpa using hi)]
    simp only [List.length_map]
    cases hd : ds[i - xs.length]? with
    | none => trivial
    | some d =>
      obtain ⟨v, h1, h2⟩ := dv.get hd
      rw [h1]
      exact .of_rd h2
theorem run_dyn {f : FuncId} {t : Nat} {xs : Array Operand} {ta : Array TypeId} {cs : List Value} (hv : ev ρ (.tmp t) = .func (.func f) #[] cs.toArray) (hc : ∀ args w, (callFunc f args).run P w = .ok (.enter f args) w) (w : World) : (execOp (ev ρ) ⟨dst, .call ⟨.value (.tmp t), xs, ta⟩, ty, p, af, gd⟩).run P w = .ok (.enter f (xs.toList.map (ev ρ) ++ cs).toArray) w := by
  have e : xs.map (ev ρ) ++ cs.toArray = (xs.toList.map (ev ρ) ++ cs).toArray := Array.ext' (by simp)
  simp [execOp, resolve, hv, Deferred.ofValue, invoke, hc, e]
end
end Go.Proofs.Ytchhjooifjcnkaa.V
