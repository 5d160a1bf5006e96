/-
  Slots of known kinds; calls.
-/
import Derived.Test.YtchhjooifjcnkaaKEff2
namespace Go.Proofs.Ytchhjooifjcnkaa.V
open Go K

section
variable {P : Program} {C : Cx} {R : Type} {F F' F1 : Frz} {ι ι' ι1 : Gh} {s s' : St} {ρ : List Value} {d : D} {v : Value} {t dt : Nat} {L0 : List Blk} {r : R} {dst : Option Tmp} {ty : TypeId} {p : String} {af : Array Edge} {gd : Option (Nat × Bool)} {h : Array Obj}

def M1 (F : Frz) (ι : Gh) (i : Nat) (k : Kd) (x : k.T) (v : Value) : Prop := RdV F ι (mk1 i k x).1 v ∧ ∀ q ∈ (mk1 i k x).2, OwnR F ι q.1 q.2
theorem M1.ren {i j : Nat} {k : Kd} {x : k.T} (h : M1 F ι i k x v) (hA : k.noAl = true) (e : ι' j = ι i) (hj : i = NT → j = NT) : M1 F ι' j k x v := by
  cases k with
  | ns T A =>
    obtain ⟨h1, h2⟩ := h
    obtain ⟨h0, hds, a, b, c⟩ := h2 (i, .nodes T A x none) (by simp [mk1])
    refine ⟨trivial, fun q' hq => ?_⟩
    simp only [mk1, List.mem_singleton] at hq
    subst hq
    exact ⟨hj h0, hds, by rw [e]; exact a, by rw [e]; exact b, c⟩
  | nsr =>
    obtain ⟨h1, h2⟩ := h
    obtain ⟨a, b⟩ := h2 (i, .nodesR x) (by simp [mk1])
    refine ⟨trivial, fun q' hq => ?_⟩
    simp only [mk1, List.mem_singleton] at hq
    subst hq
    exact ⟨by rw [e]; exact a, b⟩
  | own e' T =>
    obtain ⟨h1, h2⟩ := h
    have h1 : v = (ι i).1 := h1
    obtain ⟨q, n, cp, rows, a, b, c⟩ := h2 (i, .rows e' T x) (by simp [mk1])
    refine ⟨by show v = (ι' j).1; rw [e]; exact h1, fun q' hq => ?_⟩
    simp only [mk1, List.mem_singleton] at hq
    subst hq
    exact ⟨q, n, cp, rows, by rw [e]; exact a, by rw [e]; exact b, c⟩
  | blk e' T =>
    obtain ⟨h1, h2⟩ := h
    obtain ⟨B, g1, g2⟩ := h1
    obtain ⟨B', cs, a, b, c⟩ := h2 (i, .cells T (e'.enc x)) (by simp [mk1])
    refine ⟨⟨B, by rw [e]; exact g1, g2⟩, fun q' hq => ?_⟩
    simp only [mk1, List.mem_singleton] at hq
    subst hq
    exact ⟨B', cs, by rw [e]; exact a, by rw [e]; exact b, (c.rd (enc_plain _ _)).f2⟩
  | al j => cases hA
  | mp =>
    obtain ⟨h1, h2⟩ := h
    have h1 : v = (ι i).1 := h1
    obtain ⟨B, cs, a, b, c⟩ := h2 (i, .mp x) (by simp [mk1])
    refine ⟨by show v = (ι' j).1; rw [e]; exact h1, fun q' hq => ?_⟩
    simp only [mk1, List.mem_singleton] at hq
    subst hq
    exact ⟨B, cs, by rw [e]; exact a, by rw [e]; exact b, c⟩
  | sit =>
    obtain ⟨h1, h2⟩ := h
    obtain ⟨B, g1, g2⟩ := h1
    obtain ⟨B', a, b⟩ := h2 (i, .sit x.1 x.2) (by simp [mk1])
    refine ⟨⟨B, by rw [e]; exact g1, g2⟩, fun q' hq => ?_⟩
    simp only [mk1, List.mem_singleton] at hq
    subst hq
    exact ⟨B', by rw [e]; exact a, by rw [e]; exact b⟩
  | _ => exact ⟨h.1, fun q hq => by simp [mk1] at hq⟩
theorem M1.mono {i : Nat} {k : Kd} {x : k.T} (h : M1 F ι i k x v) (hf : F.le F') (hn : F'.nid = F.nid) : M1 F' ι i k x v := ⟨h.1.mono hf, fun q hq => (h.2 q hq).mono hf fun _ => hn⟩
def D.still : D → Bool
  | .int _ _ => true | .bool _ => true | .str _ => true | .np _ => true | .pnil => true | .nil => true | .any => true
  | _ => false
/-- Numbers, texts, nodes, and what has no list within: it reads the same whatever else stands in memory. -/
theorem rd_still (hn : F'.nid = F.nid) : ∀ {ds : List D} {vs : List Value}, ds.all D.still = true → Rd F ds vs → Rd F' ds vs
  | [], _, _, h => by cases h; exact .nil
  | d :: ds, _, hd, h => by
    obtain ⟨v, vs', rfl, h1, h2⟩ := h.inv_cons
    rw [List.all_cons, Bool.and_eq_true] at hd
    have h3 := rd_still hn hd.2 h2
    have h4 := hd.1
    cases h1 <;> first | exact .int h3 | exact .bool h3 | exact .str h3 | exact .niln h3 | exact .pnil h3 | exact .npN h3 | (rename_i hB _; exact .npS (by rw [hn]; exact hB) h3) | (rename_i h1 _; exact .any h1 h3) | (simp [D.still] at h4)
theorem fl_still : ∀ {f : Fl} {x : f.T}, f.flat = true → (f.enc x).still = true := by intro f x h; cases f <;> first | rfl | (simp [Fl.flat] at h)
theorem rec_still : ∀ {f : Fl} {fs : List Fl} {x : recT f fs}, f.flat = true → fs.all Fl.flat = true → (recEnc f fs x).all D.still = true
  | f, [], x, h, _ => by simp [recEnc, fl_still h]
  | f, g :: fs, x, h, hs => by
    rw [List.all_cons, Bool.and_eq_true] at hs
    simp only [recEnc, List.all_cons, fl_still h, rec_still hs.1 hs.2, Bool.and_self]
theorem enc_still : ∀ {e : E} {x : e.T}, e.flat = true → (e.enc x).all D.still = true := by
  intro e x h
  cases e with
  | rc f fs k =>
    simp only [E.flat, Bool.and_eq_true] at h
    simp only [E.enc, List.all_append, rec_still h.1 h.2, Bool.true_and]
    simp [D.still]
  | node => simp [E.flat] at h
  | _ => rfl
theorem rd_flat {e : E} {x : e.T} {vs : List Value} (hn : F'.nid = F.nid) (hf : e.flat = true) (h : Rd F (e.enc x) vs) : Rd F' (e.enc x) vs := rd_still hn (enc_still hf) h
theorem NR.flat {T A : TypeId} {hole : Option Nat} (hn : F'.nid = F.nid) : ∀ {i : Nat} {hs : List HN} {hds : List Value} {L : List Blk}, NR F T A hole i hs hds L → NR F' T A hole i hs hds L
  | _, _, _, _, .nil => .nil
  | _, _, _, _, .cons hB hc h1 ha hh t => .cons (by rw [hn]; exact hB) (rd_still hn (by rfl) hc) h1 (fun hne => by obtain ⟨q, n, cp, rows, a, b, c⟩ := ha hne; exact ⟨q, n, cp, rows, a, b, forall2_imp (fun _ _ h => rd_flat hn rfl h) c⟩) hh (NR.flat hn t)
theorem mpD_still : ∀ {l : List (Option Nat × Bool)}, (mpD l).all D.still = true
  | [] => rfl
  | p :: l => by simp only [mpD, List.all_cons, D.still, Bool.true_and]; exact mpD_still
theorem M1.flat {i : Nat} {k : Kd} {x : k.T} (hn : F'.nid = F.nid) (h : M1 F ι i k x v) (hk : k.flat = true) : M1 F' ι i k x v := by
  cases k with
  | int k => exact ⟨by have := Rd.int_inv h.1; rw [this]; exact Rd.int .nil, fun q hq => by simp [mk1] at hq⟩
  | bool => exact ⟨by have := Rd.bool_inv h.1; rw [this]; exact Rd.bool .nil, fun q hq => by simp [mk1] at hq⟩
  | str => exact ⟨by have := Rd.str_inv h.1; rw [this]; exact Rd.str .nil, fun q hq => by simp [mk1] at hq⟩
  | np => exact ⟨.of_rd (rd_still hn (by rfl) (RdV.to_rd h.1 rfl)), fun q hq => by simp [mk1] at hq⟩
  | any => exact ⟨.of_rd (rd_still hn (by rfl) (RdV.to_rd h.1 rfl)), fun q hq => by simp [mk1] at hq⟩
  | mnil => exact ⟨by have := Rd.mnil_inv h.1; rw [this]; exact Rd.mnil .nil, fun q hq => by simp [mk1] at hq⟩
  | emp =>
    obtain ⟨cs, hv, hcs⟩ := Rd.agg_inv h.1
    exact ⟨by rw [hv]; exact Rd.agg (rd_still hn (by rfl) hcs) .nil, fun q hq => by simp [mk1] at hq⟩
  | lst e => simp [Kd.flat] at hk
  | fp e => simp [Kd.flat] at hk
  | clo f es => simp [Kd.flat] at hk
  | intc k n => exact ⟨by have := Rd.int_inv h.1; rw [this]; exact Rd.int .nil, fun q hq => by simp [mk1] at hq⟩
  | inil => exact ⟨by have := Rd.inil_inv h.1; rw [this]; exact Rd.inil .nil, fun q hq => by simp [mk1] at hq⟩
  | fnl => exact ⟨by have := Rd.fnl_inv h.1; rw [this]; exact Rd.fnl .nil, fun q hq => by simp [mk1] at hq⟩
  | nsr => simp [Kd.flat] at hk
  | al j => exact ⟨h.1, fun q hq => by simp [mk1] at hq⟩
  | mp =>
    refine ⟨h.1, fun q hq => ?_⟩
    have := h.2 q hq
    simp only [mk1, List.mem_singleton] at hq
    subst hq
    obtain ⟨B, cs, a, b, c⟩ := this
    exact ⟨B, cs, a, b, rd_still hn mpD_still c⟩
  | sit => exact ⟨h.1, fun q hq => by
    have := h.2 q hq
    simp only [mk1, List.mem_singleton] at hq
    subst hq
    exact this⟩
  | ns T A =>
    refine ⟨trivial, fun q hq => ?_⟩
    have := h.2 q hq
    simp only [mk1, List.mem_singleton] at hq
    subst hq
    obtain ⟨h0, hds, a, b, c⟩ := this
    exact ⟨h0, hds, a, b.flat hn, by rw [hn]; exact c⟩
  | el e =>
    obtain ⟨cs, hv, hcs⟩ := Rd.agg_inv h.1
    exact ⟨by rw [hv]; exact Rd.agg (rd_flat hn hk hcs) .nil, fun q hq => by simp [mk1] at hq⟩
  | own e T =>
    refine ⟨h.1, fun q hq => ?_⟩
    have := h.2 q hq
    simp only [mk1, List.mem_singleton] at hq
    subst hq
    obtain ⟨q, n, cp, rows, a, b, c⟩ := this
    exact ⟨q, n, cp, rows, a, b, forall2_imp (fun _ _ h => rd_flat hn hk h) c⟩
  | blk e T =>
    refine ⟨h.1, fun q hq => ?_⟩
    have := h.2 q hq
    simp only [mk1, List.mem_singleton] at hq
    subst hq
    obtain ⟨B, cs, a, b, c⟩ := this
    exact ⟨B, cs, a, b, (rd_flat hn hk (c.rd (enc_plain _ _))).f2⟩
/-- The slots of a pattern hold what is said. -/
def MP (F : Frz) (ι : Gh) (ρ : Nat → Value) : (p : Pt) → Tup p → Prop
  | [], _ => True
  | [q], x => M1 F ι q.1 q.2 x (ρ q.1)
  | q :: q' :: ps, x => M1 F ι q.1 q.2 x.1 (ρ q.1) ∧ MP F ι ρ (q' :: ps) x.2
theorem MP.mono {ρ : Nat → Value} (hn : F'.nid = F.nid) : ∀ {p : Pt} {x : Tup p}, MP F ι ρ p x → F.le F' → MP F' ι ρ p x
  | [], _, _, _ => trivial
  | [_], _, h, hf => M1.mono h hf hn
  | _ :: q' :: ps, _, h, hf => ⟨h.1.mono hf hn, MP.mono hn (p := q' :: ps) h.2 hf⟩
theorem MP.flat {ρ : Nat → Value} (hn : F'.nid = F.nid) : ∀ {p : Pt} {x : Tup p}, MP F ι ρ p x → (p.all fun q => q.2.flat) = true → MP F' ι ρ p x
  | [], _, _, _ => trivial
  | [_], _, h, hf => M1.flat hn h (by simpa using hf)
  | _ :: q' :: ps, _, h, hf => by
    rw [List.all_cons, Bool.and_eq_true] at hf
    exact ⟨h.1.flat hn hf.1, MP.flat hn (p := q' :: ps) h.2 hf.2⟩
theorem mkSl_none {i : Nat} : ∀ {p : Pt} {x : Tup p}, i ∉ p.map (·.1) → mkSl p x i = .u
  | [], _, _ => rfl
  | [q], x, h => by
    have : (i == q.1) = false := by simpa using h
    simp [mkSl, this]
  | q :: q' :: ps, x, h => by
    have h' : ¬ i = q.1 ∧ i ∉ (q' :: ps).map (·.1) := by simpa [not_or] using h
    have : (i == q.1) = false := by simpa using h'.1
    simp only [mkSl, this, cond_false]
    exact mkSl_none h'.2
theorem mk1_keys {i : Nat} {k : Kd} {x : k.T} : ∀ q ∈ (mk1 i k x).2, q.1 = i := by
  intro q hq
  cases k <;> simp [mk1] at hq <;> rw [hq]
theorem mk1_len {i : Nat} {k : Kd} {x : k.T} : (mk1 i k x).2.length ≤ 1 := by cases k <;> simp [mk1]
theorem mkOw_keys : ∀ {p : Pt} {x : Tup p}, ∀ q ∈ mkOw p x, q.1 ∈ p.map (·.1)
  | [], _, q, hq => by simp [mkOw] at hq
  | [_], _, q, hq => by simp [mk1_keys q hq]
  | q0 :: q' :: ps, x, q, hq => by
    rcases List.mem_append.1 hq with hq | hq
    · simp [mk1_keys q hq]
    · have := mkOw_keys (p := q' :: ps) q hq
      simp only [List.map_cons, List.mem_cons] at this ⊢
      exact .inr this
theorem nodupB_nodup : ∀ {l : List Nat}, nodupB l = true → l.Nodup
  | [], _ => .nil
  | t :: ts, h => by
    simp only [nodupB, Bool.and_eq_true, Bool.not_eq_true', List.any_eq_false, beq_iff_eq] at h
    exact List.nodup_cons.2 ⟨fun hin => h.1 t hin rfl, nodupB_nodup h.2⟩
theorem mk1_nodup {i : Nat} {k : Kd} {x : k.T} : (((mk1 i k x).2).map (·.1)).Nodup := by
  have h1 := mk1_len (i := i) (k := k) (x := x)
  generalize (mk1 i k x).2 = l at *
  match l, h1 with
  | [], _ => exact .nil
  | [a], _ => simp
theorem mkOw_nodup : ∀ {p : Pt} {x : Tup p}, (p.map (·.1)).Nodup → ((mkOw p x).map (·.1)).Nodup
  | [], _, _ => .nil
  | [q], x, _ => mk1_nodup
  | q :: q' :: ps, x, hn => by
    rw [List.map_cons, List.nodup_cons] at hn
    show (((mk1 q.1 q.2 x.1).2 ++ mkOw (q' :: ps) x.2).map (·.1)).Nodup
    rw [List.map_append, List.nodup_append]
    refine ⟨mk1_nodup, mkOw_nodup hn.2, fun a ha b hb e => ?_⟩
    subst e
    obtain ⟨c, hc, rfl⟩ := List.mem_map.1 ha
    obtain ⟨e, he, hee⟩ := List.mem_map.1 hb
    have h1 := mk1_keys c hc
    have h2 := mkOw_keys e he
    rw [hee, h1] at h2
    exact hn.1 h2
theorem MP.ow {ρ : Nat → Value} : ∀ {p : Pt} {x : Tup p}, MP F ι ρ p x → ∀ q ∈ mkOw p x, OwnR F ι q.1 q.2
  | [], _, _, q, hq => by simp [mkOw] at hq
  | [_], _, h, q, hq => h.2 q hq
  | _ :: q' :: ps, _, h, q, hq => by
    rcases List.mem_append.1 hq with hq | hq
    · exact h.1.2 q hq
    · exact MP.ow (p := q' :: ps) h.2 q hq
theorem MP.sl {ρ : Nat → Value} : ∀ {p : Pt} {x : Tup p}, MP F ι ρ p x → ∀ i, RdV F ι (mkSl p x i) (ρ i)
  | [], _, _, i => trivial
  | [q], x, h, i => by
    simp only [mkSl]
    by_cases e : i = q.1
    · subst e; simp; exact h.1
    · have : (i == q.1) = false := by simp [e]
      rw [this]; trivial
  | q :: q' :: ps, x, h, i => by
    simp only [mkSl]
    by_cases e : i = q.1
    · subst e; simp; exact h.1.1
    · have : (i == q.1) = false := by simp [e]
      rw [this]; exact MP.sl (p := q' :: ps) h.2 i
theorem MP.rel {n np : Nat} {nw : Bool} {p : Pt} {x : Tup p} (h : MP F ι (fun i => ρ.getD i undef) p x) (hn : (p.map (·.1)).Nodup) (hl : ρ.length = n) : Rel F ι (mkP n np nw p x) ρ := ⟨hl, h.sl, h.ow, mkOw_nodup hn⟩
theorem MP.of_rel {ρ : Nat → Value} : ∀ {p : Pt} {x : Tup p}, (p.map (·.1)).Nodup → (∀ i, RdV F ι (mkSl p x i) (ρ i)) → (∀ q ∈ mkOw p x, OwnR F ι q.1 q.2) → MP F ι ρ p x
  | [], _, _, _, _ => trivial
  | [q], x, _, h1, h2 => ⟨by have := h1 q.1; simpa [mkSl] using this, h2⟩
  | q :: q' :: ps, x, hn, h1, h2 => by
    rw [List.map_cons, List.nodup_cons] at hn
    refine ⟨⟨by have := h1 q.1; simpa [mkSl] using this, fun a ha => h2 a (List.mem_append_left _ ha)⟩, MP.of_rel (p := q' :: ps) hn.2 (fun i => ?_) fun a ha => h2 a (List.mem_append_right _ ha)⟩
    by_cases e : i = q.1
    · rw [mkSl_none (by rw [e]; exact hn.1)]; trivial
    · have h3 := h1 i
      have : (i == q.1) = false := by simp [e]
      simp only [mkSl, this] at h3
      exact h3

/-- The ghosts of the slots. -/
def reG (ι : Gh) (s : St) : Gh := fun i => if i = NTR then ((ι i).1, []) else if (s.np / 1000 ≤ i ∧ i < s.np % 1000) ∨ i = NT then ι i else match s.sl i with
  | .own t => ι t
  | .op t _ => ι t
  | .nil => (.slice none 0 0, [])
  | _ => ι i
theorem reG_np {i : Nat} (h : s.np / 1000 ≤ i ∧ i < s.np % 1000) : (reG ι s i).1 = (ι i).1 := by
  unfold reG
  split
  · rfl
  · rw [if_pos (.inl h)]
theorem reG_nt : reG ι s NT = ι NT := by
  unfold reG
  rw [if_neg (by decide), if_pos (.inr rfl)]
theorem reG_ntr : (reG ι s NTR).2 = [] := by
  unfold reG
  rw [if_pos rfl]
theorem nkp_iff {np i : Nat} : nkp np i = true ↔ ¬ (np / 1000 ≤ i ∧ i < np % 1000) := by
  simp only [nkp, Bool.or_eq_true, Nat.ble_eq, Nat.blt_eq]
  omega
theorem reG_ref {i o t : Nat} (hc : ((nkp s.np i || t == i) && !(i == NT) && !(i == NTR)) = true) (hk : s.sl i = .own t ∨ s.sl i = .op t o) : reG ι s i = ι t := by
  simp only [Bool.and_eq_true, Bool.or_eq_true, nkp_iff, beq_iff_eq, Bool.not_eq_true', beq_eq_false_iff_ne] at hc
  obtain ⟨⟨hc, h1⟩, h2⟩ := hc
  unfold reG
  rw [if_neg h2]
  split
  · rename_i hlt
    rcases hlt with hlt | hlt
    · rcases hc with hc | hc
      · omega
      · rw [hc]
    · exact absurd hlt h1
  · rcases hk with hk | hk <;> rw [hk]
theorem reG_nil {i : Nat} (hc : (nkp s.np i && !(i == NT) && !(i == NTR)) = true) (hk : s.sl i = .nil) : reG ι s i = (.slice none 0 0, []) := by
  simp only [Bool.and_eq_true, nkp_iff, Bool.not_eq_true', beq_eq_false_iff_ne] at hc
  obtain ⟨⟨hc, h1⟩, h2⟩ := hc
  unfold reG
  rw [if_neg h2, if_neg (fun h => h.elim (fun h => by omega) h1), hk]
theorem lent_cons {q : Nat × Kd} {ps : Pt} : lent s (q :: ps) = lent s [q] ++ lent s ps := by
  obtain ⟨i, k⟩ := q
  cases k <;> simp only [lent, List.nil_append]
  · split <;> simp
  · split <;> simp
  · split
    · simp
    · split <;> simp
/-- A row of a node's attributes, in memory that nobody changes. -/
theorem rows_rd {e : E} {T q n cp : Nat} {qa : Option Addr} {xs : List e.T} {rows : List (List Value)} {Lv : List Blk} (hf : F.le F1) (h1 : SlO e.sz T qa n cp Lv rows) (h2 : F2 (fun x r => Rd F (e.enc x) r) xs rows) (hF : ∀ p ∈ Lv, isB (F1.m p.1) p) : Rd F1 [.lst e xs] [.slice qa n cp] :=
  own_rd (ι := fun _ => (.slice qa n cp, Lv)) (t := 0) (T := T) ⟨qa, n, cp, rows, rfl, h1, h2⟩ hf hF
theorem nr_read {T A : TypeId} {hs : List HN} {hds : List Value} {L : List Blk} (hn : NR F T A none 0 hs hds L) (hf : F.le F1) (hF : ∀ p ∈ L, isB (F1.m p.1) p) {i : Nat} {x : HN} (hx : hs[i]? = some x) : ∃ B cs, F1.nid i = some B ∧ cellsF F1 B 0 cs ∧ Rd F1 (HN.enc x ++ [.lst .hattr x.attrs]) cs := by
  obtain ⟨hs1, hs2, hds1, hds2, L1, L2, hd, B, cs, Lv, e1, e2, e3, e4, e5, e6, e7, e8⟩ := hn.split hx
  obtain ⟨q, n, cp, rows, a1, a2, a3⟩ := e7.ha (by simp)
  have hB := e7.hB
  rw [Nat.zero_add] at hB
  refine ⟨B, cs ++ [hd], hf.2.1 _ _ hB, ?_, (e7.hc.mono hf).append ?_⟩
  · obtain ⟨fz, _, this⟩ := (hF (B, cs ++ [hd], BT.c T) (by rw [e5]; simp)).cells
    exact cellsF_row (cs ++ [hd]) [] [] 0 (by simpa using this) rfl
  · rw [a1]
    exact rows_rd (q := 0) (e := .hattr) hf a2 a3 fun p hp => hF p (by rw [e5]; simp [hp])
structure RelV (F : Frz) (ι : Gh) (s : St) (σ : Nat → Value) : Prop where
  sl : ∀ i, RdV F ι (s.sl i) (σ i)
  ow : ∀ p ∈ s.ow, OwnR F ι p.1 p.2
  nd : (s.ow.map (·.1)).Nodup
theorem RelV.look {σ : Nat → Value} {b : OB} (hr : RelV F ι s σ) (h : s.look t = some b) : OwnR F ι t b := hr.ow _ (look_mem h)
theorem Rel.toV (hr : Rel F ι s ρ) : RelV F ι s fun i => ρ.getD i undef := ⟨hr.sl, hr.ow, hr.nd⟩
theorem M1.ref {i : Nat} {k : Kd} {x : k.T} (h : M1 F ι i k x v) (hk : k.isRef = true) : v = (ι i).1 := by
  cases k with
  | own e T => exact h.1
  | blk e T =>
    obtain ⟨B, h1, h2⟩ := h.1
    rw [h1, h2]
  | mp => exact h.1
  | _ => simp [Kd.isRef] at hk
/-- What is changed in place keeps its address. -/
theorem MP.ref {σ : Nat → Value} : ∀ {p : Pt} {x : Tup p} {q : Nat × Kd}, MP F ι σ p x → q ∈ p → q.2.isRef = true → σ q.1 = (ι q.1).1
  | [], _, _, _, hq, _ => by cases hq
  | [q0], x, q, h, hq, hk => by
    obtain rfl : q = q0 := by simpa using hq
    exact M1.ref h hk
  | q0 :: q' :: ps, x, q, h, hq, hk => by
    rcases List.mem_cons.1 hq with rfl | hq
    · exact M1.ref h.1 hk
    · exact MP.ref (p := q' :: ps) h.2 hq hk
theorem es_inv1 {e : E} {ds : List D} {x : e.T} (h : esDec [e] ds = some x) : ∃ ds', ds = [.fp ds' 0] ∧ e.dec ds' = some x := by
  rcases ds with _ | ⟨d, _ | ⟨d2, r⟩⟩
  · simp [esDec] at h
  · cases d with
    | fp ds' off =>
      rcases off with _ | off
      · exact ⟨_, rfl, by simpa [esDec] using h⟩
      · simp [esDec] at h
    | _ => simp [esDec] at h
  · cases d with
    | fp ds' off => rcases off with _ | off <;> simp [esDec] at h
    | _ => simp [esDec] at h
theorem es_inv2 {e e' : E} {es : List E} {ds : List D} {x : esT (e :: e' :: es)} (h : esDec (e :: e' :: es) ds = some x) : ∃ ds' r, ds = .fp ds' 0 :: r ∧ e.dec ds' = some x.1 ∧ esDec (e' :: es) r = some x.2 := by
  rcases ds with _ | ⟨d, r⟩
  · simp [esDec] at h
  · cases d with
    | fp ds' off =>
      rcases off with _ | off
      · refine ⟨_, _, rfl, ?_⟩
        simp only [esDec] at h
        split at h
        · cases h
        · rename_i a ha
          split at h
          · cases h
          · rename_i b hb
            cases h
            exact ⟨ha, hb⟩
      · simp [esDec] at h
    | _ => simp [esDec] at h
theorem es_rd : ∀ {es : List E} {ds : List D} {vs : List Value} {x : esT es}, esDec es ds = some x → Rd F ds vs → Rd F (esEnc es x) vs
  | [], [], vs, x, _, hr => hr
  | [], _ :: _, vs, x, h, _ => by cases h
  | [e], ds, vs, x, h, hr => by
    obtain ⟨ds', rfl, h0⟩ := es_inv1 h
    obtain ⟨v, vs', rfl, h1, h2⟩ := hr.inv_cons
    cases h2
    obtain ⟨B, o, cs, hv, g1, g2⟩ := Rd.fp_inv h1
    rw [hv]
    exact .fp g1 (dec_rd h0 g2) .nil
  | e :: e' :: es, ds, vs, x, h, hr => by
    obtain ⟨ds', r, rfl, ha, hb⟩ := es_inv2 h
    obtain ⟨v, vs', rfl, h1, h2⟩ := hr.inv_cons
    obtain ⟨B, o, cs, hv, g1, g2⟩ := Rd.fp_inv h1
    rw [hv]
    exact .fp g1 (dec_rd ha g2) (es_rd (es := e' :: es) hb h2)
theorem un1_sound {σ : Nat → Value} {lax : Bool} {i : Nat} {k : Kd} {x : k.T} (hr : RelV F ι s σ) (hf : F.le F1) (hn : F1.nid = F.nid) (hF : lax = true → ∀ t ∈ lent s [(i, k)], ∀ q ∈ (ι t).2, isB (F1.m q.1) q) (h : un1 s lax i k = some x) : M1 F1 (reG ι s) i k x (σ i) := by
  have hd := hr.sl i
  cases k with
  | int k =>
    simp only [un1] at h
    split at h
    · rename_i k' n hk
      cases he : decide (k' = k) with
      | false => rw [he] at h; cases h
      | true =>
        rw [he] at h
        cases h
        have : k' = k := by simpa using he
        subst this
        rw [hk] at hd
        exact ⟨.of_rd (Rd.mono hd hf), fun q hq => by simp [mk1] at hq⟩
    · cases h
  | bool =>
    simp only [un1] at h
    split at h
    · rename_i b hk
      cases h
      rw [hk] at hd
      exact ⟨.of_rd (Rd.mono hd hf), fun q hq => by simp [mk1] at hq⟩
    · cases h
  | str =>
    simp only [un1] at h
    split at h
    · rename_i b hk
      cases h
      rw [hk] at hd
      exact ⟨.of_rd (Rd.mono hd hf), fun q hq => by simp [mk1] at hq⟩
    · cases h
  | np =>
    simp only [un1] at h
    exact ⟨.of_rd (dPtr_rd h (RdV.to_rd (hd.mono hf) (dPtr_plain h))), fun q hq => by simp [mk1] at hq⟩
  | any =>
    simp only [un1] at h
    refine ⟨?_, fun q hq => by simp [mk1] at hq⟩
    split at h
    · rename_i t o hk
      rw [hk] at hd
      obtain ⟨B, h1, h2⟩ := hd
      refine .of_rd (.any ?_ .nil)
      rw [h2]; rfl
    · cases hp : (s.sl i).plain with
      | false => rw [hp] at h; cases h
      | true => exact .of_rd ((RdV.to_rd (hd.mono hf) hp).to_any hp)
  | mnil =>
    simp only [un1] at h
    split at h
    · rename_i hk
      rw [hk] at hd
      exact ⟨.of_rd (Rd.mono hd hf), fun q hq => by simp [mk1] at hq⟩
    · cases h
  | emp =>
    simp only [un1] at h
    split at h
    · rename_i hk
      rw [hk] at hd
      exact ⟨.of_rd (Rd.mono hd hf), fun q hq => by simp [mk1] at hq⟩
    · cases h
  | fp e =>
    simp only [un1] at h
    split at h
    · rename_i ds hk
      rw [hk] at hd
      obtain ⟨B, o, cs, hv, h1, h2⟩ := Rd.fp_inv (Rd.mono hd hf)
      refine ⟨?_, fun q hq => by simp [mk1] at hq⟩
      rw [hv]
      exact .of_rd (.fp h1 (dec_rd h h2) .nil)
    · rename_i t hk
      rw [hk] at hd
      cases lax with
      | false => cases h
      | true =>
        simp only [cond_true] at h
        split at h
        · rename_i T0 ds hlk
          cases hp : ds.all D.plain with
          | false => rw [hp] at h; cases h
          | true =>
            rw [hp] at h
            simp only [cond_true] at h
            obtain ⟨B, cs, a, b, c⟩ := hr.look hlk
            obtain ⟨B', g1, g2⟩ := hd
            rw [a] at g1
            cases g1
            refine ⟨?_, fun q hq => by simp [mk1] at hq⟩
            obtain ⟨fz, _, hB⟩ := (hF rfl t (by simp [lent, hk]) (B, cs, BT.c T0) (by rw [b]; simp)).cells
            have hcs : cellsF F1 B 0 cs := cellsF_row cs [] [] 0 (by simpa using hB) rfl
            rw [g2]
            have := Rd.fp (off := 0) hcs (dec_rd h ((c.rd hp).mono hf)) .nil
            rw [Nat.zero_add] at this
            exact .of_rd this
        · cases h
    · cases h
  | clo f es =>
    simp only [un1] at h
    split at h
    · rename_i f' ds hk
      cases he : decide (f' = f) with
      | false => rw [he] at h; cases h
      | true =>
        rw [he] at h
        simp only [cond_true] at h
        have : f' = f := by simpa using he
        subst this
        rw [hk] at hd
        obtain ⟨cs, hv, hcs⟩ := Rd.clo_inv (Rd.mono hd hf)
        refine ⟨?_, fun q hq => by simp [mk1] at hq⟩
        rw [hv]
        exact .of_rd (.clo (es_rd h hcs) .nil)
    · cases h
  | intc k n =>
    simp only [un1] at h
    split at h
    · rename_i k' n' hk
      cases he : decide (k' = k ∧ n' = n) with
      | false => rw [he] at h; cases h
      | true =>
        have : k' = k ∧ n' = n := by simpa using he
        obtain ⟨rfl, rfl⟩ := this
        rw [hk] at hd
        exact ⟨.of_rd (Rd.mono hd hf), fun q hq => by simp [mk1] at hq⟩
    · cases h
  | inil =>
    simp only [un1] at h
    split at h
    · rename_i hk
      rw [hk] at hd
      exact ⟨.of_rd (Rd.mono hd hf), fun q hq => by simp [mk1] at hq⟩
    · cases h
  | fnl =>
    simp only [un1] at h
    split at h
    · rename_i hk
      rw [hk] at hd
      exact ⟨.of_rd (Rd.mono hd hf), fun q hq => by simp [mk1] at hq⟩
    · cases h
  | ns T A =>
    simp only [un1] at h
    cases hi : (i == NT) with
    | false => rw [hi] at h; cases h
    | true =>
      rw [hi] at h
      simp only [cond_true] at h
      have hi : i = NT := by simpa using hi
      subst hi
      split at h
      · rename_i T' A' hs hlk
        cases hc : (T' == T && A' == A) with
        | false => rw [hc] at h; cases h
        | true =>
          rw [hc] at h
          cases h
          simp only [Bool.and_eq_true, beq_iff_eq] at hc
          obtain ⟨rfl, rfl⟩ := hc
          refine ⟨trivial, fun q hq => ?_⟩
          simp only [mk1, List.mem_singleton] at hq
          subst hq
          obtain ⟨h0, hds, a, b, c⟩ := hr.look hlk
          exact ⟨rfl, hds, by rw [reG_nt]; exact a, by rw [reG_nt]; exact b.mono hf, by rw [hn]; exact c⟩
      · cases h
  | nsr =>
    simp only [un1] at h
    cases hi : (i == NTR) with
    | false => rw [hi] at h; cases h
    | true =>
      rw [hi] at h
      simp only [cond_true] at h
      have hi : i = NTR := by simpa using hi
      subst hi
      refine ⟨trivial, fun q hq => ?_⟩
      simp only [mk1, List.mem_singleton] at hq
      subst hq
      split at h
      · rename_i hs hlk
        cases h
        obtain ⟨a, b⟩ := hr.look hlk
        exact ⟨reG_ntr, fun i y hy => by obtain ⟨B, cs, g1, g2, g3⟩ := b i y hy; exact ⟨B, cs, hf.2.1 _ _ g1, g2.mono hf, g3.mono hf⟩⟩
      · rename_i hno
        cases lax with
        | false => cases h
        | true =>
          simp only [cond_true] at h
          split at h
          · rename_i TN A hs hlk
            cases h
            obtain ⟨_, hds, a, b, c⟩ := hr.look hlk
            have hl : lent s [(NTR, .nsr)] = [NT] := by
              simp only [lent]
              rw [hlk]
            exact ⟨reG_ntr, fun i y hy => nr_read b hf (hF rfl NT (by rw [hl]; simp)) hy⟩
          · cases h
  | lst e =>
    simp only [un1] at h
    refine ⟨?_, fun q hq => by simp [mk1] at hq⟩
    split at h
    · rename_i e' xs hk
      obtain ⟨rfl, rfl⟩ := castE_eq h
      rw [hk] at hd
      exact .of_rd (Rd.mono hd hf)
    · rename_i hk
      cases h
      rw [hk] at hd
      exact .of_rd (Rd.nil_lst _ (Rd.mono hd hf))
    · rename_i t hk
      cases lax with
      | false => cases h
      | true =>
        simp only [cond_true] at h
        split at h
        · rename_i e' T xs hlk
          obtain ⟨rfl, rfl⟩ := castE_eq h
          rw [hk] at hd
          have hd : σ i = (ι t).1 := hd
          rw [hd]
          exact .of_rd (own_rd (hr.look hlk) hf (hF rfl t (by simp [lent, hk])))
        · cases h
    · cases h
  | el e =>
    simp only [un1] at h
    split at h
    · rename_i ds hk
      rw [hk] at hd
      obtain ⟨cs, hv, hcs⟩ := Rd.agg_inv hd
      refine ⟨?_, fun q hq => by simp [mk1] at hq⟩
      rw [hv]
      exact .of_rd (.agg (dec_rd h (hcs.mono hf)) .nil)
    · cases h
  | own e T =>
    simp only [un1] at h
    split at h
    · rename_i t hk
      cases hc : ((nkp s.np i || t == i) && !(i == NT) && !(i == NTR)) with
      | false => rw [hc] at h; cases h
      | true =>
        rw [hc] at h
        simp only [cond_true] at h
        split at h
        · rename_i e' T' xs hlk
          cases hT : (T' == T) with
          | false => rw [hT] at h; cases h
          | true =>
            rw [hT] at h
            simp only [cond_true] at h
            have hT : T' = T := by simpa using hT
            subst hT
            obtain ⟨rfl, rfl⟩ := castE_eq h
            have hg := reG_ref (ι := ι) (o := 0) hc (.inl hk)
            rw [hk] at hd
            have hd : σ i = (ι t).1 := hd
            obtain ⟨q, n, cp, rows, a, b, c⟩ := hr.look hlk
            refine ⟨by show _ = _; rw [hd, hg], fun q' hq => ?_⟩
            simp only [mk1, List.mem_singleton] at hq
            subst hq
            exact ⟨q, n, cp, rows, by rw [hg]; exact a, by rw [hg]; exact b, forall2_imp (fun _ _ h => h.mono hf) c⟩
        · cases h
    · rename_i hk
      cases hc : (nkp s.np i && !(i == NT) && !(i == NTR)) with
      | false => rw [hc] at h; cases h
      | true =>
        rw [hc] at h
        cases h
        have hg := reG_nil (ι := ι) hc hk
        rw [hk] at hd
        refine ⟨by show _ = _; rw [hg]; exact Rd.nil_inv hd, fun q' hq => ?_⟩
        simp only [mk1, List.mem_singleton] at hq
        subst hq
        exact ⟨none, 0, 0, [], by rw [hg], by rw [hg]; exact SlO.nil _ _, .nil⟩
    · cases h
  | blk e T =>
    simp only [un1] at h
    split at h
    · rename_i t hk
      cases hc : ((nkp s.np i || t == i) && !(i == NT) && !(i == NTR)) with
      | false => rw [hc] at h; cases h
      | true =>
        rw [hc] at h
        simp only [cond_true] at h
        split at h
        · rename_i T' ds hlk
          cases hT : (T' == T) with
          | false => rw [hT] at h; cases h
          | true =>
            rw [hT] at h
            simp only [cond_true] at h
            have hT : T' = T := by simpa using hT
            subst hT
            have hg := reG_ref (ι := ι) (o := 0) hc (.inr hk)
            rw [hk] at hd
            obtain ⟨B, g1, g2⟩ := hd
            obtain ⟨B', cs, a, b, c⟩ := hr.look hlk
            refine ⟨⟨B, by rw [hg]; exact g1, g2⟩, fun q' hq => ?_⟩
            simp only [mk1, List.mem_singleton] at hq
            subst hq
            exact ⟨B', cs, by rw [hg]; exact a, by rw [hg]; exact b, (dec_rd h ((c.rd (dec_plain h)).mono hf)).f2⟩
        · cases h
    · cases h
  | al j =>
    simp only [un1] at h
    split at h
    · rename_i t hk
      split at h
      · rename_i t' hk'
        cases hc : (t == t' && ((nkp s.np j || t' == j) && !(j == NT) && !(j == NTR))) with
        | false => rw [hc] at h; cases h
        | true =>
          rw [Bool.and_eq_true, beq_iff_eq] at hc
          obtain ⟨rfl, hc⟩ := hc
          have hg := reG_ref (ι := ι) (o := 0) hc (.inl hk')
          rw [hk] at hd
          have hd : σ i = (ι t).1 := hd
          exact ⟨by show _ = _; rw [hd, hg], fun q hq => by simp [mk1] at hq⟩
      · cases h
    · rename_i hk
      split at h
      · rename_i hk'
        cases hc : (nkp s.np j && !(j == NT) && !(j == NTR)) with
        | false => rw [hc] at h; cases h
        | true =>
          have hg := reG_nil (ι := ι) hc hk'
          rw [hk] at hd
          exact ⟨by show _ = _; rw [hg]; exact Rd.nil_inv hd, fun q hq => by simp [mk1] at hq⟩
      · cases h
    · cases h
  | mp =>
    simp only [un1] at h
    split at h
    · rename_i t hk
      cases hc : ((nkp s.np i || t == i) && !(i == NT) && !(i == NTR)) with
      | false => rw [hc] at h; cases h
      | true =>
        rw [hc] at h
        simp only [cond_true] at h
        split at h
        · rename_i l hlk
          cases h
          have hg := reG_ref (ι := ι) (o := 0) hc (.inl hk)
          rw [hk] at hd
          have hd : σ i = (ι t).1 := hd
          obtain ⟨B, cs, a, b, c⟩ := hr.look hlk
          refine ⟨by show _ = _; rw [hd, hg], fun q' hq => ?_⟩
          simp only [mk1, List.mem_singleton] at hq
          subst hq
          exact ⟨B, cs, by rw [hg]; exact a, by rw [hg]; exact b, c.mono hf⟩
        · cases h
    · cases h
  | sit =>
    simp only [un1] at h
    split at h
    · rename_i t hk
      cases hc : ((nkp s.np i || t == i) && !(i == NT) && !(i == NTR)) with
      | false => rw [hc] at h; cases h
      | true =>
        rw [hc] at h
        simp only [cond_true] at h
        split at h
        · rename_i l pos hlk
          cases h
          have hg := reG_ref (ι := ι) (o := 0) hc (.inr hk)
          rw [hk] at hd
          obtain ⟨B, g1, g2⟩ := hd
          obtain ⟨B', a, b⟩ := hr.look hlk
          refine ⟨⟨B, by rw [hg]; exact g1, g2⟩, fun q' hq => ?_⟩
          simp only [mk1, List.mem_singleton] at hq
          subst hq
          exact ⟨B', by rw [hg]; exact a, by rw [hg]; exact b⟩
        · cases h
    · cases h
theorem unP_sound {σ : Nat → Value} {lax : Bool} (hr : RelV F ι s σ) (hf : F.le F1) (hn : F1.nid = F.nid) : ∀ {p : Pt} {x : Tup p}, (lax = true → ∀ t ∈ lent s p, ∀ q ∈ (ι t).2, isB (F1.m q.1) q) → unP s lax p = some x → MP F1 (reG ι s) σ p x
  | [], _, _, _ => trivial
  | [q], x, hF, h => un1_sound hr hf hn hF h
  | q :: q' :: ps, x, hF, h => by
    simp only [unP] at h
    cases h1 : un1 s lax q.1 q.2 with
    | none => rw [h1] at h; cases h
    | some a =>
      rw [h1] at h
      simp only at h
      cases h2 : unP s lax (q' :: ps) with
      | none => rw [h2] at h; cases h
      | some b =>
        rw [h2] at h
        cases h
        exact ⟨un1_sound hr hf hn (fun hl t ht => hF hl t (by rw [lent_cons]; exact List.mem_append_left _ ht)) h1, unP_sound hr hf hn (p := q' :: ps) (fun hl t ht => hF hl t (by rw [lent_cons]; exact List.mem_append_right _ ht)) h2⟩
end
end Go.Proofs.Ytchhjooifjcnkaa.V
