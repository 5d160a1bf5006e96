/-
  Slots of known kinds; calls.
-/
import Derived.Test.YtpedmnlpccngiaaDoorKEff
set_option linter.unusedVariables false
set_option linter.unusedSimpArgs false
namespace Go.Proofs.YtpedmnlpccngiaaDoor.V
open Go K

section
variable {P : Program} {C : Cx} {R : Type} {F F' F1 : Frz} {ι ι' ι1 : Gh} {s s' : St} {ρ : List Value} {d : D} {v : Value} {t dt : Nat} {L0 : List Blk} {r : R} {dst : Option Tmp} {ty : TypeId} {p : String} {af : Array Edge} {gd : Option (Nat × Bool)} {h : Array Obj}

def M1 (F : Frz) (ι : Gh) (i : Nat) (k : Kd) (x : k.T) (v : Value) : Prop := RdV F ι (mk1 i k x).1 v ∧ ∀ q ∈ (mk1 i k x).2, OwnR F ι q.1 q.2
theorem fxe_ren {i j n : Nat} (e : ι' j = ι i) : ∀ {f : FX} {x : f.T} {v : Value}, (f = .own → ι' (subT j n) = ι (subT i n)) → RdW F ι (f.enc i n x) v → RdW F ι' (f.enc j n x) v
  | .fl f, x, v, _, h => .of_rd (RdW.to_rd h (fl_plain f x))
  | .own, _, v, hs, h => by
    have h : v = (ι (subT i n)).1 := h
    show v = (ι' (subT j n)).1
    rw [hs rfl]; exact h
  | .self, b, v, _, h => by
    obtain ⟨B, h1, h2⟩ := h
    exact ⟨B, by rw [e]; exact h1, h2⟩
theorem subsF_own {n : Nat} {f : FX} {fs : List FX} (h : f = .own) : n ∈ subsF n (f :: fs) := by subst h; simp [subsF]
theorem subsF_tail {n k : Nat} {f : FX} {fs : List FX} (h : k ∈ subsF (n + 1) fs) : k ∈ subsF n (f :: fs) := by cases f <;> simp [subsF, h]
theorem fx_ren {i j : Nat} (e : ι' j = ι i) : ∀ {n : Nat} {fs : List FX} {x : fxT fs} {cs : List Value}, (∀ k ∈ subsF n fs, ι' (subT j k) = ι (subT i k)) → F2 (RdW F ι) (fxEnc i n fs x) cs → F2 (RdW F ι') (fxEnc j n fs x) cs
  | _, [], _, _, _, .nil => .nil
  | n, [f], x, _, hs, .cons h .nil => .cons (fxe_ren e (fun hf => hs n (subsF_own hf)) h) .nil
  | n, f :: g :: fs, x, _, hs, .cons h t => .cons (fxe_ren e (fun hf => hs n (subsF_own hf)) h) (fx_ren (n := n + 1) (fs := g :: fs) e (fun k hk => hs k (subsF_tail hk)) t)
theorem M1.ren {i j : Nat} {k : Kd} {x : k.T} {nb : Bool} (h : M1 F ι i k x v) (hA : k.noAl nb = true) (e : ι' j = ι i) (hs : ∀ y ∈ k.subs, ι' (subT j y) = ι (subT i y)) (hj : i = NT → j = NT) (hnb : nb = true → ι' NT = ι NT) : M1 F ι' j k x v := by
  cases k with
  | hown i0 jj e' T =>
    obtain ⟨_, h2⟩ := h
    obtain ⟨q, n, cp, rows, a, b, c⟩ := h2 (i, .rows e' T x) (by simp [mk1])
    refine ⟨trivial, fun q' hq => ?_⟩
    simp only [mk1, List.mem_singleton] at hq
    subst hq
    exact ⟨q, n, cp, rows, by rw [e]; exact a, by rw [e]; exact b, c⟩
  | blkx T fs =>
    obtain ⟨h1, h2⟩ := h
    obtain ⟨B, g1, g2⟩ := h1
    obtain ⟨B', cs, a, b, c⟩ := h2 (i, .cells T (fxEnc i 0 fs x)) (by simp [mk1])
    refine ⟨⟨B, by rw [e]; exact g1, g2⟩, fun q' hq => ?_⟩
    simp only [mk1, List.mem_singleton] at hq
    subst hq
    exact ⟨B', cs, by rw [e]; exact a, by rw [e]; exact b, fx_ren e hs c⟩
  | clox f T fs es =>
    obtain ⟨h1, h2⟩ := h
    obtain ⟨B, cs0, g1, g2, g3⟩ := h1
    obtain ⟨B', cs, a, b, c⟩ := h2 (i, .cells T (fxEnc i 0 fs x.1)) (by simp [mk1])
    refine ⟨⟨B, cs0, by rw [e]; exact g1, g2, g3⟩, fun q' hq => ?_⟩
    simp only [mk1, List.mem_singleton] at hq
    subst hq
    exact ⟨B', cs, by rw [e]; exact a, by rw [e]; exact b, fx_ren e hs c⟩
  | ns cl T A =>
    obtain ⟨h1, h2⟩ := h
    obtain ⟨h0, hds, a, b, c⟩ := h2 (i, .nodes cl T A x none) (by simp [mk1])
    refine ⟨trivial, fun q' hq => ?_⟩
    simp only [mk1, List.mem_singleton] at hq
    subst hq
    exact ⟨hj h0, hds, by rw [e]; exact a, by rw [e]; exact b, c⟩
  | nsr cl =>
    obtain ⟨h1, h2⟩ := h
    obtain ⟨a, b⟩ := h2 (i, .nodesR cl x) (by simp [mk1])
    refine ⟨trivial, fun q' hq => ?_⟩
    simp only [mk1, List.mem_singleton] at hq
    subst hq
    exact ⟨by rw [e]; exact a, b⟩
  | own e' T =>
    obtain ⟨h1, h2⟩ := h
    have h1 : v = (ι i).1 := h1
    obtain ⟨q, n, cp, rows, a, b, c⟩ := h2 (i, .rows e' T x) (by simp [mk1])
    refine ⟨by show v = (ι' j).1; rw [e]; exact h1, fun q' hq => ?_⟩
    simp only [mk1, List.mem_singleton] at hq
    subst hq
    exact ⟨q, n, cp, rows, by rw [e]; exact a, by rw [e]; exact b, c⟩
  | blk e' T =>
    obtain ⟨h1, h2⟩ := h
    obtain ⟨B, g1, g2⟩ := h1
    obtain ⟨B', cs, a, b, c⟩ := h2 (i, .cells T (e'.enc x)) (by simp [mk1])
    refine ⟨⟨B, by rw [e]; exact g1, g2⟩, fun q' hq => ?_⟩
    simp only [mk1, List.mem_singleton] at hq
    subst hq
    exact ⟨B', cs, by rw [e]; exact a, by rw [e]; exact b, (c.rd (enc_plain _ _)).f2⟩
  | al j => cases hA
  | nal => cases hA
  | nap =>
    refine ⟨?_, fun q hq => by simp [mk1] at hq⟩
    show NapR (ι' NT).1 x v
    rw [hnb hA]
    exact h.1
  | mp =>
    obtain ⟨h1, h2⟩ := h
    have h1 : v = (ι i).1 := h1
    obtain ⟨B, cs, a, b, c⟩ := h2 (i, .mp x) (by simp [mk1])
    refine ⟨by show v = (ι' j).1; rw [e]; exact h1, fun q' hq => ?_⟩
    simp only [mk1, List.mem_singleton] at hq
    subst hq
    exact ⟨B, cs, by rw [e]; exact a, by rw [e]; exact b, c⟩
  | sit =>
    obtain ⟨h1, h2⟩ := h
    obtain ⟨B, g1, g2⟩ := h1
    obtain ⟨B', a, b⟩ := h2 (i, .sit x.1 x.2) (by simp [mk1])
    refine ⟨⟨B, by rw [e]; exact g1, g2⟩, fun q' hq => ?_⟩
    simp only [mk1, List.mem_singleton] at hq
    subst hq
    exact ⟨B', by rw [e]; exact a, by rw [e]; exact b⟩
  | _ => exact ⟨h.1, fun q hq => by simp [mk1] at hq⟩
theorem M1.mono {i : Nat} {k : Kd} {x : k.T} (h : M1 F ι i k x v) (hf : F.le F') (hn : F'.nid = F.nid) : M1 F' ι i k x v := ⟨h.1.mono hf, fun q hq => (h.2 q hq).mono hf fun _ => hn⟩
def D.still : D → Bool
  | .int _ _ => true | .bool _ => true | .str _ => true | .np _ => true | .pnil => true | .nil => true | .any => true | .err _ => true
  | _ => false
/-- Numbers, texts, nodes, and what has no list within: it reads the same whatever else stands in memory. -/
theorem rd_still (hn : F'.nid = F.nid) : ∀ {ds : List D} {vs : List Value}, ds.all D.still = true → Rd F ds vs → Rd F' ds vs
  | [], _, _, h => by cases h; exact .nil
  | d :: ds, _, hd, h => by
    obtain ⟨v, vs', rfl, h1, h2⟩ := h.inv_cons
    rw [List.all_cons, Bool.and_eq_true] at hd
    have h3 := rd_still hn hd.2 h2
    have h4 := hd.1
    cases h1 <;> first | exact .int h3 | exact .bool h3 | exact .str h3 | exact .niln h3 | exact .pnil h3 | exact .npN h3 | (rename_i hB _; exact .npS (by rw [hn]; exact hB) h3) | (rename_i h1 _; exact .any h1 h3) | (rename_i h1 _; exact .err h1 h3) | (simp [D.still] at h4)
theorem fl_still : ∀ {f : Fl} {x : f.T}, f.flat = true → (f.enc x).still = true := by intro f x h; cases f <;> first | rfl | (simp [Fl.flat] at h)
theorem rec_still : ∀ {f : Fl} {fs : List Fl} {x : recT f fs}, f.flat = true → fs.all Fl.flat = true → (recEnc f fs x).all D.still = true
  | f, [], x, h, _ => by simp [recEnc, fl_still h]
  | f, g :: fs, x, h, hs => by
    rw [List.all_cons, Bool.and_eq_true] at hs
    simp only [recEnc, List.all_cons, fl_still h, rec_still hs.1 hs.2, Bool.and_self]
theorem enc_still : ∀ {e : E} {x : e.T}, e.flat = true → (e.enc x).all D.still = true := by
  intro e x h
  cases e with
  | rc f fs k =>
    simp only [E.flat, Bool.and_eq_true] at h
    simp only [E.enc, List.all_append, rec_still h.1 h.2, Bool.true_and]
    simp [D.still]
  | node => simp [E.flat] at h
  | _ => rfl
theorem rd_flat {e : E} {x : e.T} {vs : List Value} (hn : F'.nid = F.nid) (hf : e.flat = true) (h : Rd F (e.enc x) vs) : Rd F' (e.enc x) vs := rd_still hn (enc_still hf) h
theorem NR.flat {T A : TypeId} {hole : Option Nat} (hn : F'.nid = F.nid) : ∀ {i : Nat} {hs : List (Cl.R .h)} {hds : List Value} {L : List Blk}, NR F (c := .h) T A hole i hs hds L → NR F' (c := .h) T A hole i hs hds L
  | _, _, _, _, .nil => .nil
  | _, _, _, _, .cons hB hc h1 ha hh t => .cons (by rw [hn]; exact hB) (rd_still hn (by rfl) hc) h1 (fun hne => by obtain ⟨q, n, cp, rows, a, b, c⟩ := ha hne; exact ⟨q, n, cp, rows, a, b, forall2_imp (fun _ _ h => rd_flat hn rfl h) c⟩) hh (NR.flat hn t)
theorem mpD_still : ∀ {l : List (Option Nat × Bool)}, (mpD l).all D.still = true
  | [] => rfl
  | p :: l => by simp only [mpD, List.all_cons, D.still, Bool.true_and]; exact mpD_still
theorem fx_flat {i : Nat} (hn : F'.nid = F.nid) : ∀ {n : Nat} {fs : List FX} {x : fxT fs} {cs : List Value}, fs.all FX.flat = true → F2 (RdW F ι) (fxEnc i n fs x) cs → F2 (RdW F' ι) (fxEnc i n fs x) cs := by
  have one : ∀ {n : Nat} {f : FX} {x : f.T} {v : Value}, f.flat = true → RdW F ι (f.enc i n x) v → RdW F' ι (f.enc i n x) v := fun {n f x v} hf h => by
    cases f with
    | fl f =>
      have hf' : f.flat = true := by cases f <;> first | rfl | (simp [FX.flat] at hf)
      exact .of_rd (rd_still hn (by show (f.enc x :: []).all D.still = true; simp [fl_still hf']) (RdW.to_rd h (fl_plain f x)))
    | own => exact h
    | self => exact h
  intro n fs
  induction fs generalizing n with
  | nil => intro x cs _ h; cases h; exact .nil
  | cons f fs ih =>
    intro x cs hf h
    rw [List.all_cons, Bool.and_eq_true] at hf
    cases fs with
    | nil =>
      cases h with
      | cons h t => cases t; exact .cons (one hf.1 h) .nil
    | cons g fs =>
      cases h with
      | cons h t => exact .cons (one hf.1 h) (ih hf.2 t)
theorem M1.flat {i : Nat} {k : Kd} {x : k.T} (hn : F'.nid = F.nid) (h : M1 F ι i k x v) (hk : k.flat = true) : M1 F' ι i k x v := by
  cases k with
  | int k => exact ⟨by have := Rd.int_inv h.1; rw [this]; exact Rd.int .nil, fun q hq => by simp [mk1] at hq⟩
  | bool => exact ⟨by have := Rd.bool_inv h.1; rw [this]; exact Rd.bool .nil, fun q hq => by simp [mk1] at hq⟩
  | str => exact ⟨by have := Rd.str_inv h.1; rw [this]; exact Rd.str .nil, fun q hq => by simp [mk1] at hq⟩
  | np => exact ⟨.of_rd (rd_still hn (by rfl) (RdV.to_rd h.1 rfl)), fun q hq => by simp [mk1] at hq⟩
  | any => exact ⟨.of_rd (rd_still hn (by rfl) (RdV.to_rd h.1 rfl)), fun q hq => by simp [mk1] at hq⟩
  | mnil => exact ⟨by have := Rd.mnil_inv h.1; rw [this]; exact Rd.mnil .nil, fun q hq => by simp [mk1] at hq⟩
  | snil => exact ⟨by have := Rd.nil_inv h.1; rw [this]; exact Rd.niln .nil, fun q hq => by simp [mk1] at hq⟩
  | emp =>
    obtain ⟨cs, hv, hcs⟩ := Rd.agg_inv h.1
    exact ⟨by rw [hv]; exact Rd.agg (rd_still hn (by rfl) hcs) .nil, fun q hq => by simp [mk1] at hq⟩
  | lst e => simp [Kd.flat] at hk
  | fp e => simp [Kd.flat] at hk
  | clo f es => simp [Kd.flat] at hk
  | ifc T e => simp [Kd.flat] at hk
  | intc k n => exact ⟨by have := Rd.int_inv h.1; rw [this]; exact Rd.int .nil, fun q hq => by simp [mk1] at hq⟩
  | inil => exact ⟨by have := Rd.inil_inv h.1; rw [this]; exact Rd.inil .nil, fun q hq => by simp [mk1] at hq⟩
  | fnl => exact ⟨by have := Rd.fnl_inv h.1; rw [this]; exact Rd.fnl .nil, fun q hq => by simp [mk1] at hq⟩
  | nsr c => simp [Kd.flat] at hk
  | err => exact ⟨.of_rd (rd_still hn (by rfl) (RdV.to_rd h.1 rfl)), fun q hq => by simp [mk1] at hq⟩
  | clox f T fs es => simp [Kd.flat] at hk
  | hown i0 j e T =>
    refine ⟨trivial, fun q hq => ?_⟩
    have := h.2 q hq
    simp only [mk1, List.mem_singleton] at hq
    subst hq
    obtain ⟨q, n, cp, rows, a, b, c⟩ := this
    exact ⟨q, n, cp, rows, a, b, forall2_imp (fun _ _ h => rd_flat hn hk h) c⟩
  | blkx T fs =>
    refine ⟨h.1, fun q hq => ?_⟩
    have := h.2 q hq
    simp only [mk1, List.mem_singleton] at hq
    subst hq
    obtain ⟨B, cs, a, b, c⟩ := this
    exact ⟨B, cs, a, b, fx_flat hn hk c⟩
  | al j => exact ⟨h.1, fun q hq => by simp [mk1] at hq⟩
  | nal => exact ⟨h.1, fun q hq => by simp [mk1] at hq⟩
  | nap => exact ⟨h.1, fun q hq => by simp [mk1] at hq⟩
  | mp =>
    refine ⟨h.1, fun q hq => ?_⟩
    have := h.2 q hq
    simp only [mk1, List.mem_singleton] at hq
    subst hq
    obtain ⟨B, cs, a, b, c⟩ := this
    exact ⟨B, cs, a, b, rd_still hn mpD_still c⟩
  | sit => exact ⟨h.1, fun q hq => by
    have := h.2 q hq
    simp only [mk1, List.mem_singleton] at hq
    subst hq
    exact this⟩
  | ns cl T A =>
    cases cl with
    | k => simp [Kd.flat] at hk
    | h =>
    refine ⟨trivial, fun q hq => ?_⟩
    have := h.2 q hq
    simp only [mk1, List.mem_singleton] at hq
    subst hq
    obtain ⟨h0, hds, a, b, c⟩ := this
    exact ⟨h0, hds, a, b.flat hn, by rw [hn]; exact c⟩
  | el e =>
    obtain ⟨cs, hv, hcs⟩ := Rd.agg_inv h.1
    exact ⟨by rw [hv]; exact Rd.agg (rd_flat hn hk hcs) .nil, fun q hq => by simp [mk1] at hq⟩
  | own e T =>
    refine ⟨h.1, fun q hq => ?_⟩
    have := h.2 q hq
    simp only [mk1, List.mem_singleton] at hq
    subst hq
    obtain ⟨q, n, cp, rows, a, b, c⟩ := this
    exact ⟨q, n, cp, rows, a, b, forall2_imp (fun _ _ h => rd_flat hn hk h) c⟩
  | blk e T =>
    refine ⟨h.1, fun q hq => ?_⟩
    have := h.2 q hq
    simp only [mk1, List.mem_singleton] at hq
    subst hq
    obtain ⟨B, cs, a, b, c⟩ := this
    exact ⟨B, cs, a, b, (rd_flat hn hk (c.rd (enc_plain _ _))).f2⟩
/-- The slots of a pattern hold what is said. -/
def MP (F : Frz) (ι : Gh) (ρ : Nat → Value) : (p : Pt) → Tup p → Prop
  | [], _ => True
  | [q], x => M1 F ι q.1 q.2 x (ρ q.1)
  | q :: q' :: ps, x => M1 F ι q.1 q.2 x.1 (ρ q.1) ∧ MP F ι ρ (q' :: ps) x.2
theorem MP.mono {ρ : Nat → Value} (hn : F'.nid = F.nid) : ∀ {p : Pt} {x : Tup p}, MP F ι ρ p x → F.le F' → MP F' ι ρ p x
  | [], _, _, _ => trivial
  | [_], _, h, hf => M1.mono h hf hn
  | _ :: q' :: ps, _, h, hf => ⟨h.1.mono hf hn, MP.mono hn (p := q' :: ps) h.2 hf⟩
theorem MP.flat {ρ : Nat → Value} (hn : F'.nid = F.nid) : ∀ {p : Pt} {x : Tup p}, MP F ι ρ p x → (p.all fun q => q.2.flat) = true → MP F' ι ρ p x
  | [], _, _, _ => trivial
  | [_], _, h, hf => M1.flat hn h (by simpa using hf)
  | _ :: q' :: ps, _, h, hf => by
    rw [List.all_cons, Bool.and_eq_true] at hf
    exact ⟨h.1.flat hn hf.1, MP.flat hn (p := q' :: ps) h.2 hf.2⟩
theorem mkSl_none {i : Nat} : ∀ {p : Pt} {x : Tup p}, i ∉ p.map (·.1) → mkSl p x i = .u
  | [], _, _ => rfl
  | [q], x, h => by
    have : (i == q.1) = false := by simpa using h
    simp [mkSl, this]
  | q :: q' :: ps, x, h => by
    have h' : ¬ i = q.1 ∧ i ∉ (q' :: ps).map (·.1) := by simpa [not_or] using h
    have : (i == q.1) = false := by simpa using h'.1
    simp only [mkSl, this, cond_false]
    exact mkSl_none h'.2
theorem mk1_keys {i : Nat} {k : Kd} {x : k.T} : ∀ q ∈ (mk1 i k x).2, q.1 = i := by
  intro q hq
  cases k <;> simp [mk1] at hq <;> rw [hq]
theorem mk1_len {i : Nat} {k : Kd} {x : k.T} : (mk1 i k x).2.length ≤ 1 := by cases k <;> simp [mk1]
theorem mkOw_keys : ∀ {p : Pt} {x : Tup p}, ∀ q ∈ mkOw p x, q.1 ∈ p.map (·.1)
  | [], _, q, hq => by simp [mkOw] at hq
  | [_], _, q, hq => by simp [mk1_keys q hq]
  | q0 :: q' :: ps, x, q, hq => by
    rcases List.mem_append.1 hq with hq | hq
    · simp [mk1_keys q hq]
    · have := mkOw_keys (p := q' :: ps) q hq
      simp only [List.map_cons, List.mem_cons] at this ⊢
      exact .inr this
theorem nodupB_nodup : ∀ {l : List Nat}, nodupB l = true → l.Nodup
  | [], _ => .nil
  | t :: ts, h => by
    simp only [nodupB, Bool.and_eq_true, Bool.not_eq_true', List.any_eq_false, beq_iff_eq] at h
    exact List.nodup_cons.2 ⟨fun hin => h.1 t hin rfl, nodupB_nodup h.2⟩
theorem mk1_nodup {i : Nat} {k : Kd} {x : k.T} : (((mk1 i k x).2).map (·.1)).Nodup := by
  have h1 := mk1_len (i := i) (k := k) (x := x)
  generalize (mk1 i k x).2 = l at *
  match l, h1 with
  | [], _ => exact .nil
  | [a], _ => simp
theorem mkOw_nodup : ∀ {p : Pt} {x : Tup p}, (p.map (·.1)).Nodup → ((mkOw p x).map (·.1)).Nodup
  | [], _, _ => .nil
  | [q], x, _ => mk1_nodup
  | q :: q' :: ps, x, hn => by
    rw [List.map_cons, List.nodup_cons] at hn
    show (((mk1 q.1 q.2 x.1).2 ++ mkOw (q' :: ps) x.2).map (·.1)).Nodup
    rw [List.map_append, List.nodup_append]
    refine ⟨mk1_nodup, mkOw_nodup hn.2, fun a ha b hb e => ?_⟩
    subst e
    obtain ⟨c, hc, rfl⟩ := List.mem_map.1 ha
    obtain ⟨e, he, hee⟩ := List.mem_map.1 hb
    have h1 := mk1_keys c hc
    have h2 := mkOw_keys e he
    rw [hee, h1] at h2
    exact hn.1 h2
theorem MP.ow {ρ : Nat → Value} : ∀ {p : Pt} {x : Tup p}, MP F ι ρ p x → ∀ q ∈ mkOw p x, OwnR F ι q.1 q.2
  | [], _, _, q, hq => by simp [mkOw] at hq
  | [_], _, h, q, hq => h.2 q hq
  | _ :: q' :: ps, _, h, q, hq => by
    rcases List.mem_append.1 hq with hq | hq
    · exact h.1.2 q hq
    · exact MP.ow (p := q' :: ps) h.2 q hq
theorem MP.sl {ρ : Nat → Value} : ∀ {p : Pt} {x : Tup p}, MP F ι ρ p x → ∀ i, RdV F ι (mkSl p x i) (ρ i)
  | [], _, _, i => trivial
  | [q], x, h, i => by
    simp only [mkSl]
    by_cases e : i = q.1
    · subst e; simp; exact h.1
    · have : (i == q.1) = false := by simp [e]
      rw [this]; trivial
  | q :: q' :: ps, x, h, i => by
    simp only [mkSl]
    by_cases e : i = q.1
    · subst e; simp; exact h.1.1
    · have : (i == q.1) = false := by simp [e]
      rw [this]; exact MP.sl (p := q' :: ps) h.2 i
theorem MP.rel {n np : Nat} {nw : Bool} {p : Pt} {x : Tup p} (h : MP F ι (fun i => ρ.getD i undef) p x) (hn : (p.map (·.1)).Nodup) (hl : ρ.length = n) : Rel F ι (mkP n np nw p x) ρ := ⟨hl, h.sl, h.ow, mkOw_nodup hn⟩
theorem MP.of_rel {ρ : Nat → Value} : ∀ {p : Pt} {x : Tup p}, (p.map (·.1)).Nodup → (∀ i, RdV F ι (mkSl p x i) (ρ i)) → (∀ q ∈ mkOw p x, OwnR F ι q.1 q.2) → MP F ι ρ p x
  | [], _, _, _, _ => trivial
  | [q], x, _, h1, h2 => ⟨by have := h1 q.1; simpa [mkSl] using this, h2⟩
  | q :: q' :: ps, x, hn, h1, h2 => by
    rw [List.map_cons, List.nodup_cons] at hn
    refine ⟨⟨by have := h1 q.1; simpa [mkSl] using this, fun a ha => h2 a (List.mem_append_left _ ha)⟩, MP.of_rel (p := q' :: ps) hn.2 (fun i => ?_) fun a ha => h2 a (List.mem_append_right _ ha)⟩
    by_cases e : i = q.1
    · rw [mkSl_none (by rw [e]; exact hn.1)]; trivial
    · have h3 := h1 i
      have : (i == q.1) = false := by simp [e]
      simp only [mkSl, this] at h3
      exact h3

/-- The ghosts of the slots. -/
def slD (s : St) (i : Nat) : D := if SB ≤ i then subF s ((i - SB) / 64) ((i - SB) % 64) else s.sl i
def reG (ι : Gh) (s : St) : Gh := fun i => if i = NTR then ((ι i).1, []) else if (s.np / 1000 ≤ i ∧ i < s.np % 1000) ∨ i = NT then ι i else match slD s i with
  | .own t => ι t
  | .op t _ => ι t
  | .clov _ t _ => ι t
  | .nil => (.slice none 0 0, [])
  | _ => ι i
theorem reG_np {i : Nat} (h : s.np / 1000 ≤ i ∧ i < s.np % 1000) : (reG ι s i).1 = (ι i).1 := by
  unfold reG
  split
  · rfl
  · rw [if_pos (.inl h)]
theorem reG_nt : reG ι s NT = ι NT := by
  unfold reG
  rw [if_neg (by decide), if_pos (.inr rfl)]
theorem reG_ntr : (reG ι s NTR).2 = [] := by
  unfold reG
  rw [if_pos rfl]
theorem nkp_iff {np i : Nat} : nkp np i = true ↔ ¬ (np / 1000 ≤ i ∧ i < np % 1000) := by
  simp only [nkp, Bool.or_eq_true, Nat.ble_eq, Nat.blt_eq]
  omega
theorem ntr_lt {i : Nat} (h : Nat.ble NTR i = false) : i < NTR := by
  rcases Nat.lt_or_ge i NTR with h1 | h1
  · exact h1
  · rw [Nat.ble_eq_true_of_le h1] at h; cases h
theorem ntr_sb : NTR < SB := by decide
theorem slD_lt {i : Nat} (h : i < NTR) : slD s i = s.sl i := by
  unfold slD
  rw [if_neg (by have := ntr_sb; omega)]
theorem reG_ref {i o t : Nat} (hc : ((nkp s.np i || t == i) && !(i == NT) && !(Nat.ble NTR i)) = true) (hk : s.sl i = .own t ∨ s.sl i = .op t o ∨ ∃ f cs, s.sl i = .clov f t cs) : reG ι s i = ι t := by
  simp only [Bool.and_eq_true, Bool.or_eq_true, nkp_iff, beq_iff_eq, Bool.not_eq_true', beq_eq_false_iff_ne] at hc
  obtain ⟨⟨hc, h1⟩, h2⟩ := hc
  have h2 := ntr_lt h2
  unfold reG
  rw [if_neg (by omega)]
  split
  · rename_i hlt
    rcases hlt with hlt | hlt
    · rcases hc with hc | hc
      · omega
      · rw [hc]
    · exact absurd hlt h1
  · rw [slD_lt h2]
    rcases hk with hk | hk | ⟨f, cs, hk⟩ <;> rw [hk]
theorem reG_nil {i : Nat} (hc : (nkp s.np i && !(i == NT) && !(Nat.ble NTR i)) = true) (hk : s.sl i = .nil) : reG ι s i = (.slice none 0 0, []) := by
  simp only [Bool.and_eq_true, nkp_iff, Bool.not_eq_true', beq_eq_false_iff_ne] at hc
  obtain ⟨⟨hc, h1⟩, h2⟩ := hc
  have h2 := ntr_lt h2
  unfold reG
  rw [if_neg (by omega), if_neg (fun h => h.elim (fun h => by omega) h1), slD_lt h2, hk]
theorem slD_sub {i0 j : Nat} (hj : j < 64) : slD s (subT i0 j) = subF s i0 j := by
  unfold slD subT
  rw [if_pos (by omega), show (SB + 64 * i0 + j - SB) / 64 = i0 by omega, show (SB + 64 * i0 + j - SB) % 64 = j by omega]
theorem reG_sub {i0 j : Nat} (hj : j < 64) : reG ι s (subT i0 j) = match subF s i0 j with
  | .own t => ι t
  | .op t _ => ι t
  | .clov _ t _ => ι t
  | .nil => (.slice none 0 0, [])
  | _ => ι (subT i0 j) := by
  have h1 := ntr_sb
  have h2 : NT < SB := by decide
  have h3 : 1000 < SB := by decide
  have h4 : SB ≤ subT i0 j := by unfold subT; omega
  unfold reG
  rw [if_neg (by omega), if_neg (by omega), slD_sub hj]
theorem lent_cons {q : Nat × Kd} {ps : Pt} : lent s (q :: ps) = lent s [q] ++ lent s ps := by
  obtain ⟨i, k⟩ := q
  cases k <;> simp only [lent, List.nil_append]
  · split <;> simp
  · split <;> simp
  · split
    · simp
    · split <;> simp
/-- A row of a node's attributes, in memory that nobody changes. -/
theorem rows_rd {e : E} {T q n cp : Nat} {qa : Option Addr} {xs : List e.T} {rows : List (List Value)} {Lv : List Blk} (hf : F.le F1) (h1 : SlO e.sz T qa n cp Lv rows) (h2 : F2 (fun x r => Rd F (e.enc x) r) xs rows) (hF : ∀ p ∈ Lv, isB (F1.m p.1) p) : Rd F1 [.lst e xs] [.slice qa n cp] :=
  own_rd (ι := fun _ => (.slice qa n cp, Lv)) (t := 0) (T := T) ⟨qa, n, cp, rows, rfl, h1, h2⟩ hf hF
theorem nr_read {c : Cl} {T A : TypeId} {hs : List c.R} {hds : List Value} {L : List Blk} (hn : NR F T A none 0 hs hds L) (hf : F.le F1) (hF : ∀ p ∈ L, isB (F1.m p.1) p) {i : Nat} {x : c.R} (hx : hs[i]? = some x) : ∃ B cs, F1.nid i = some B ∧ cellsF F1 B 0 cs ∧ Rd F1 (c.enc x ++ [.lst c.e (c.xs x)]) cs := by
  obtain ⟨hs1, hs2, hds1, hds2, L1, L2, hd, B, cs, Lv, e1, e2, e3, e4, e5, e6, e7, e8⟩ := hn.split hx
  obtain ⟨q, n, cp, rows, a1, a2, a3⟩ := e7.ha (by simp)
  have hB := e7.hB
  rw [Nat.zero_add] at hB
  refine ⟨B, cs ++ [hd], hf.2.1 _ _ hB, ?_, (e7.hc.mono hf).append ?_⟩
  · obtain ⟨fz, _, this⟩ := (hF (B, cs ++ [hd], BT.c T) (by rw [e5]; simp)).cells
    exact cellsF_row (cs ++ [hd]) [] [] 0 (by simpa using this) rfl
  · rw [a1]
    exact rows_rd (q := 0) (e := c.e) hf a2 a3 fun p hp => hF p (by rw [e5]; simp [hp])
structure RelV (F : Frz) (ι : Gh) (s : St) (σ : Nat → Value) : Prop where
  sl : ∀ i, RdV F ι (s.sl i) (σ i)
  ow : ∀ p ∈ s.ow, OwnR F ι p.1 p.2
  nd : (s.ow.map (·.1)).Nodup
theorem RelV.look {σ : Nat → Value} {b : OB} (hr : RelV F ι s σ) (h : s.look t = some b) : OwnR F ι t b := hr.ow _ (look_mem h)
theorem Rel.toV (hr : Rel F ι s ρ) : RelV F ι s fun i => ρ.getD i undef := ⟨hr.sl, hr.ow, hr.nd⟩
theorem M1.ref {i : Nat} {k : Kd} {x : k.T} (h : M1 F ι i k x v) (hk : k.isRef = true) : v = (ι i).1 := by
  cases k with
  | own e T => exact h.1
  | blk e T =>
    obtain ⟨B, h1, h2⟩ := h.1
    rw [h1, h2]
  | blkx T fs =>
    obtain ⟨B, h1, h2⟩ := h.1
    rw [h1, h2]
  | mp => exact h.1
  | _ => simp [Kd.isRef] at hk
/-- What is changed in place keeps its address. -/
theorem MP.ref {σ : Nat → Value} : ∀ {p : Pt} {x : Tup p} {q : Nat × Kd}, MP F ι σ p x → q ∈ p → q.2.isRef = true → σ q.1 = (ι q.1).1
  | [], _, _, _, hq, _ => by cases hq
  | [q0], x, q, h, hq, hk => by
    obtain rfl : q = q0 := by simpa using hq
    exact M1.ref h hk
  | q0 :: q' :: ps, x, q, h, hq, hk => by
    rcases List.mem_cons.1 hq with rfl | hq
    · exact M1.ref h.1 hk
    · exact MP.ref (p := q' :: ps) h.2 hq hk
theorem es_inv1 {e : E} {ds : List D} {x : e.T} (h : esDec [e] ds = some x) : ∃ ds', ds = [.fp ds' 0] ∧ e.dec ds' = some x := by
  rcases ds with _ | ⟨d, _ | ⟨d2, r⟩⟩
  · simp [esDec] at h
  · cases d with
    | fp ds' off =>
      rcases off with _ | off
      · exact ⟨_, rfl, by simpa [esDec] using h⟩
      · simp [esDec] at h
    | _ => simp [esDec] at h
  · cases d with
    | fp ds' off => rcases off with _ | off <;> simp [esDec] at h
    | _ => simp [esDec] at h
theorem es_inv2 {e e' : E} {es : List E} {ds : List D} {x : esT (e :: e' :: es)} (h : esDec (e :: e' :: es) ds = some x) : ∃ ds' r, ds = .fp ds' 0 :: r ∧ e.dec ds' = some x.1 ∧ esDec (e' :: es) r = some x.2 := by
  rcases ds with _ | ⟨d, r⟩
  · simp [esDec] at h
  · cases d with
    | fp ds' off =>
      rcases off with _ | off
      · refine ⟨_, _, rfl, ?_⟩
        simp only [esDec] at h
        split at h
        · cases h
        · rename_i a ha
          split at h
          · cases h
          · rename_i b hb
            cases h
            exact ⟨ha, hb⟩
      · simp [esDec] at h
    | _ => simp [esDec] at h
theorem es_rd : ∀ {es : List E} {ds : List D} {vs : List Value} {x : esT es}, esDec es ds = some x → Rd F ds vs → Rd F (esEnc es x) vs
  | [], [], vs, x, _, hr => hr
  | [], _ :: _, vs, x, h, _ => by cases h
  | [e], ds, vs, x, h, hr => by
    obtain ⟨ds', rfl, h0⟩ := es_inv1 h
    obtain ⟨v, vs', rfl, h1, h2⟩ := hr.inv_cons
    cases h2
    obtain ⟨B, o, cs, hv, g1, g2⟩ := Rd.fp_inv h1
    rw [hv]
    exact .fp g1 (dec_rd h0 g2) .nil
  | e :: e' :: es, ds, vs, x, h, hr => by
    obtain ⟨ds', r, rfl, ha, hb⟩ := es_inv2 h
    obtain ⟨v, vs', rfl, h1, h2⟩ := hr.inv_cons
    obtain ⟨B, o, cs, hv, g1, g2⟩ := Rd.fp_inv h1
    rw [hv]
    exact .fp g1 (dec_rd ha g2) (es_rd (es := e' :: es) hb h2)
theorem fxd_sound {i t n : Nat} (hf : F.le F1) (hg : ι' i = ι t) (hB : ∃ B, (ι t).1 = .pointer (some ⟨B, 0, none⟩)) {f : FX} {d : D} {x : f.T} {v : Value} (h : f.dec t d = some x) (hs : f = .own → (∀ t', d = .own t' → (ι' (subT i n)).1 = (ι t').1) ∧ (d = .nil → (ι' (subT i n)).1 = .slice none 0 0)) (hr : RdW F ι d v) : RdW F1 ι' (f.enc i n x) v := by
  cases f with
  | fl f =>
    have h : f.dec d = some x := h
    exact .of_rd (fl_rd h (RdW.to_rd (hr.mono hf) (flDec_plain h)))
  | own =>
    have hs := hs rfl
    cases d with
    | own t' =>
      have hr : v = (ι t').1 := hr
      show v = _
      rw [hs.1 _ rfl]; exact hr
    | nil =>
      show v = _
      rw [hs.2 rfl]; exact Rd.nil_inv hr
    | _ => simp [FX.dec] at h
  | self =>
    cases d with
    | opb t' b =>
      simp only [FX.dec] at h
      cases ht : (t' == t) with
      | false => rw [ht] at h; cases h
      | true =>
        rw [ht] at h
        cases h
        have ht : t' = t := by simpa using ht
        subst ht
        obtain ⟨B, h1, h2⟩ := hr
        exact ⟨B, by rw [hg]; exact h1, h2⟩
    | op t' o =>
      match o, h, hr with
      | 0, h, hr =>
        simp only [FX.dec] at h
        cases ht : (t' == t) with
        | false => rw [ht] at h; cases h
        | true =>
          rw [ht] at h
          cases h
          have ht : t' = t := by simpa using ht
          subst ht
          obtain ⟨B, h1, h2⟩ := hr
          exact ⟨B, by rw [hg]; exact h1, h2⟩
      | o + 1, h, _ => simp [FX.dec] at h
    | pnil =>
      cases h
      obtain ⟨B, h1⟩ := hB
      exact ⟨B, by rw [hg]; exact h1, Rd.pnil_inv hr⟩
    | _ => simp [FX.dec] at h
theorem subsF_lt : ∀ {n k : Nat} {fs : List FX}, k ∈ subsF n fs → n ≤ k ∧ k < n + fs.length
  | _, _, [], h => by simp [subsF] at h
  | n, k, f :: fs, h => by
    have key : k = n ∨ k ∈ subsF (n + 1) fs := by cases f <;> simp [subsF] at h <;> first | exact .inr h | exact h
    rcases key with rfl | h
    · simp
    · have := subsF_lt h
      simp only [List.length_cons]
      omega
theorem fx_sound {i t : Nat} (hf : F.le F1) (hg : ι' i = ι t) (hB : ∃ B, (ι t).1 = .pointer (some ⟨B, 0, none⟩)) : ∀ {n : Nat} {fs : List FX} {ds : List D} {x : fxT fs} {cs : List Value}, fxDec t fs ds = some x → (∀ k ∈ subsF n fs, (∀ t', ds.getD (k - n) .u = .own t' → (ι' (subT i k)).1 = (ι t').1) ∧ (ds.getD (k - n) .u = .nil → (ι' (subT i k)).1 = .slice none 0 0)) → F2 (RdW F ι) ds cs → F2 (RdW F1 ι') (fxEnc i n fs x) cs
  | _, [], [], _, _, _, _, .nil => .nil
  | _, [], _ :: _, _, _, h, _, _ => by simp [fxDec] at h
  | n, [f], [d], x, _, h, hs, .cons hd .nil => .cons (fxd_sound hf hg hB (show f.dec t d = some x from h) (fun e => by have := hs n (subsF_own e); simpa using this) hd) .nil
  | n, [f], [], x, _, h, _, _ => by simp [fxDec] at h
  | n, [f], _ :: _ :: _, x, _, h, _, _ => by simp [fxDec] at h
  | n, f :: g :: fs, [], x, _, h, _, _ => by simp [fxDec] at h
  | n, f :: g :: fs, d :: ds, x, _, h, hs, .cons hd ht => by
    simp only [fxDec] at h
    cases h1 : f.dec t d with
    | none => rw [h1] at h; cases h
    | some a =>
      rw [h1] at h
      simp only at h
      cases h2 : fxDec t (g :: fs) ds with
      | none => rw [h2] at h; cases h
      | some b =>
        rw [h2] at h
        cases h
        refine .cons (fxd_sound hf hg hB h1 (fun e => by have := hs n (subsF_own e); simpa using this) hd) (fx_sound (n := n + 1) (fs := g :: fs) hf hg hB h2 (fun k hk => ?_) ht)
        have h3 := subsF_lt hk
        have h4 := hs k (subsF_tail hk)
        rw [show k - n = (k - (n + 1)) + 1 by omega, List.getD_cons_succ] at h4
        exact h4
theorem fx_len {t : Nat} : ∀ {fs : List FX} {ds : List D} {x : fxT fs}, fxDec t fs ds = some x → ds.length = fs.length
  | [], [], _, _ => rfl
  | [], _ :: _, _, h => by simp [fxDec] at h
  | [f], [d], _, _ => rfl
  | [f], [], _, h => by simp [fxDec] at h
  | [f], _ :: _ :: _, _, h => by simp [fxDec] at h
  | f :: g :: fs, [], _, h => by simp [fxDec] at h
  | f :: g :: fs, d :: ds, x, h => by
    simp only [fxDec] at h
    cases h1 : f.dec t d with
    | none => rw [h1] at h; cases h
    | some a =>
      rw [h1] at h
      simp only at h
      cases h2 : fxDec t (g :: fs) ds with
      | none => rw [h2] at h; cases h
      | some b => simp [fx_len h2]
/-- What the fields of a variable hold, under the ghosts of a pattern. -/
theorem fx_reG {i t : Nat} {T : TypeId} {ds : List D} {fs : List FX} {x : fxT fs} {cs : List Value} (hf : F.le F1) (hg : reG ι s i = ι t) (hB : ∃ B, (ι t).1 = .pointer (some ⟨B, 0, none⟩)) (hl : fs.length ≤ 64) (hF : ∀ k, subF s i k = ds.getD k .u) (h : fxDec t fs ds = some x) (hr : F2 (RdW F ι) ds cs) : F2 (RdW F1 (reG ι s)) (fxEnc i 0 fs x) cs :=
  fx_sound hf hg hB h (fun k hk => by
    have h1 := subsF_lt hk
    rw [Nat.sub_zero]
    constructor
    · intro t' e
      rw [reG_sub (by omega), hF k, e]
    · intro e
      rw [reG_sub (by omega), hF k, e]) hr
theorem un1_sound {σ : Nat → Value} {lax : Bool} {i : Nat} {k : Kd} {x : k.T} (hr : RelV F ι s σ) (hf : F.le F1) (hn : F1.nid = F.nid) (hF : lax = true → ∀ t ∈ lent s [(i, k)], ∀ q ∈ (ι t).2, isB (F1.m q.1) q) (h : un1 s lax i k = some x) : M1 F1 (reG ι s) i k x (σ i) := by
  have hd := hr.sl i
  cases k with
  | int k =>
    simp only [un1] at h
    split at h
    · rename_i k' n hk
      cases he : decide (k' = k) with
      | false => rw [he] at h; cases h
      | true =>
        rw [he] at h
        cases h
        have : k' = k := by simpa using he
        subst this
        rw [hk] at hd
        exact ⟨.of_rd (Rd.mono hd hf), fun q hq => by simp [mk1] at hq⟩
    · cases h
  | bool =>
    simp only [un1] at h
    split at h
    · rename_i b hk
      cases h
      rw [hk] at hd
      exact ⟨.of_rd (Rd.mono hd hf), fun q hq => by simp [mk1] at hq⟩
    · cases h
  | str =>
    simp only [un1] at h
    split at h
    · rename_i b hk
      cases h
      rw [hk] at hd
      exact ⟨.of_rd (Rd.mono hd hf), fun q hq => by simp [mk1] at hq⟩
    · cases h
  | np =>
    simp only [un1] at h
    exact ⟨.of_rd (dPtr_rd h (RdV.to_rd (hd.mono hf) (dPtr_plain h))), fun q hq => by simp [mk1] at hq⟩
  | any =>
    simp only [un1] at h
    refine ⟨?_, fun q hq => by simp [mk1] at hq⟩
    split at h
    · rename_i t o hk
      rw [hk] at hd
      obtain ⟨B, h1, h2⟩ := hd
      refine .of_rd (.any ?_ .nil)
      rw [h2]; rfl
    · cases hp : (s.sl i).plain with
      | false => rw [hp] at h; cases h
      | true => exact .of_rd ((RdV.to_rd (hd.mono hf) hp).to_any hp)
  | mnil =>
    simp only [un1] at h
    split at h
    · rename_i hk
      rw [hk] at hd
      exact ⟨.of_rd (Rd.mono hd hf), fun q hq => by simp [mk1] at hq⟩
    · cases h
  | snil =>
    simp only [un1] at h
    split at h
    · rename_i hk
      rw [hk] at hd
      exact ⟨.of_rd (Rd.mono hd hf), fun q hq => by simp [mk1] at hq⟩
    · cases h
  | emp =>
    simp only [un1] at h
    split at h
    · rename_i hk
      rw [hk] at hd
      exact ⟨.of_rd (Rd.mono hd hf), fun q hq => by simp [mk1] at hq⟩
    · cases h
  | fp e =>
    simp only [un1] at h
    split at h
    · rename_i ds hk
      rw [hk] at hd
      obtain ⟨B, o, cs, hv, h1, h2⟩ := Rd.fp_inv (Rd.mono hd hf)
      refine ⟨?_, fun q hq => by simp [mk1] at hq⟩
      rw [hv]
      exact .of_rd (.fp h1 (dec_rd h h2) .nil)
    · rename_i t hk
      rw [hk] at hd
      cases lax with
      | false => cases h
      | true =>
        simp only [cond_true] at h
        split at h
        · rename_i T0 ds hlk
          cases hp : ds.all D.plain with
          | false => rw [hp] at h; cases h
          | true =>
            rw [hp] at h
            simp only [cond_true] at h
            obtain ⟨B, cs, a, b, c⟩ := hr.look hlk
            obtain ⟨B', g1, g2⟩ := hd
            rw [a] at g1
            cases g1
            refine ⟨?_, fun q hq => by simp [mk1] at hq⟩
            obtain ⟨fz, _, hB⟩ := (hF rfl t (by simp [lent, hk]) (B, cs, BT.c T0) (by rw [b]; simp)).cells
            have hcs : cellsF F1 B 0 cs := cellsF_row cs [] [] 0 (by simpa using hB) rfl
            rw [g2]
            have := Rd.fp (off := 0) hcs (dec_rd h ((c.rd hp).mono hf)) .nil
            rw [Nat.zero_add] at this
            exact .of_rd this
        · cases h
    · cases h
  | clo f es =>
    simp only [un1] at h
    split at h
    · rename_i f' ds hk
      cases he : decide (f' = f) with
      | false => rw [he] at h; cases h
      | true =>
        rw [he] at h
        simp only [cond_true] at h
        have : f' = f := by simpa using he
        subst this
        rw [hk] at hd
        obtain ⟨cs, hv, hcs⟩ := Rd.clo_inv (Rd.mono hd hf)
        refine ⟨?_, fun q hq => by simp [mk1] at hq⟩
        rw [hv]
        exact .of_rd (.clo (es_rd h hcs) .nil)
    · cases h
  | intc k n =>
    simp only [un1] at h
    split at h
    · rename_i k' n' hk
      cases he : decide (k' = k ∧ n' = n) with
      | false => rw [he] at h; cases h
      | true =>
        have : k' = k ∧ n' = n := by simpa using he
        obtain ⟨rfl, rfl⟩ := this
        rw [hk] at hd
        exact ⟨.of_rd (Rd.mono hd hf), fun q hq => by simp [mk1] at hq⟩
    · cases h
  | inil =>
    simp only [un1] at h
    split at h
    · rename_i hk
      rw [hk] at hd
      exact ⟨.of_rd (Rd.mono hd hf), fun q hq => by simp [mk1] at hq⟩
    · cases h
  | fnl =>
    simp only [un1] at h
    split at h
    · rename_i hk
      rw [hk] at hd
      exact ⟨.of_rd (Rd.mono hd hf), fun q hq => by simp [mk1] at hq⟩
    · cases h
  | err =>
    simp only [un1] at h
    refine ⟨?_, fun q hq => by simp [mk1] at hq⟩
    split at h
    · rename_i hk
      cases h
      rw [hk] at hd
      exact .of_rd (.err (Rd.inil_inv hd) .nil)
    · rename_i T0 l0 hk
      cases h
      rw [hk] at hd
      obtain ⟨cs0, e1, _⟩ := Rd.ifc_inv hd
      exact .of_rd (.err ⟨_, _, e1⟩ .nil)
    · rename_i b hk
      cases h
      rw [hk] at hd
      exact .of_rd (Rd.mono hd hf)
    · cases h
  | ifc T e =>
    simp only [un1] at h
    refine ⟨?_, fun q hq => by simp [mk1] at hq⟩
    split at h
    · rename_i T' ds hk
      cases he : (T' == T) with
      | false => rw [he] at h; cases h
      | true =>
        rw [he] at h
        simp only [cond_true] at h
        have : T' = T := by simpa using he
        subst this
        rw [hk] at hd
        obtain ⟨cs, hv, hcs⟩ := Rd.ifc_inv (Rd.mono hd hf)
        rw [hv]
        exact .of_rd (.ifc (dec_rd h hcs) .nil)
    · cases h
  | hown i0 j e T =>
    simp only [un1] at h
    cases hc : (i == subT i0 j && Nat.blt j 64) with
    | false => rw [hc] at h; cases h
    | true =>
      rw [hc] at h
      simp only [cond_true] at h
      rw [Bool.and_eq_true, beq_iff_eq, Nat.blt_eq] at hc
      obtain ⟨rfl, hj⟩ := hc
      refine ⟨trivial, fun q' hq => ?_⟩
      simp only [mk1, List.mem_singleton] at hq
      subst hq
      have hg := reG_sub (ι := ι) (s := s) (i0 := i0) hj
      split at h
      · rename_i t hk
        rw [hk] at hg
        split at h
        · rename_i e' T' xs hlk
          cases hT : (T' == T) with
          | false => rw [hT] at h; cases h
          | true =>
            rw [hT] at h
            simp only [cond_true] at h
            have hT : T' = T := by simpa using hT
            subst hT
            obtain ⟨rfl, rfl⟩ := castE_eq h
            obtain ⟨q, n, cp, rows, a, b, c⟩ := hr.look hlk
            exact ⟨q, n, cp, rows, by rw [hg]; exact a, by rw [hg]; exact b, forall2_imp (fun _ _ h => h.mono hf) c⟩
        · cases h
      · rename_i hk
        rw [hk] at hg
        cases h
        exact ⟨none, 0, 0, [], by rw [hg], by rw [hg]; exact SlO.nil _ _, .nil⟩
      · cases h
  | blkx T fs =>
    simp only [un1] at h
    split at h
    · rename_i t hk
      cases hc : ((nkp s.np i || t == i) && !(i == NT) && !(Nat.ble NTR i)) with
      | false => rw [hc] at h; cases h
      | true =>
        rw [hc] at h
        simp only [cond_true] at h
        split at h
        · rename_i T' ds hlk
          cases hT : (T' == T && Nat.ble fs.length 64) with
          | false => rw [hT] at h; cases h
          | true =>
            rw [hT] at h
            simp only [cond_true] at h
            rw [Bool.and_eq_true, beq_iff_eq, Nat.ble_eq] at hT
            obtain ⟨rfl, hl⟩ := hT
            have hg := reG_ref (ι := ι) (o := 0) hc (.inr (.inl hk))
            have hF : ∀ k, subF s i k = ds.getD k .u := fun k => by
              unfold subF
              rw [hk]
              simp only
              rw [hlk]
            rw [hk] at hd
            obtain ⟨B, g1, g2⟩ := hd
            obtain ⟨B', cs, a, b, c⟩ := hr.look hlk
            refine ⟨⟨B, by rw [hg]; exact g1, g2⟩, fun q' hq => ?_⟩
            simp only [mk1, List.mem_singleton] at hq
            subst hq
            exact ⟨B', cs, by rw [hg]; exact a, by rw [hg]; exact b, fx_reG (T := T') hf hg ⟨B, g1⟩ hl hF h c⟩
        · cases h
    · cases h
  | clox f T fs es =>
    simp only [un1] at h
    split at h
    · rename_i f' t cs0 hk
      cases hc : ((nkp s.np i || t == i) && !(i == NT) && !(Nat.ble NTR i)) with
      | false => rw [hc] at h; cases h
      | true =>
        rw [hc] at h
        simp only [cond_true] at h
        split at h
        · rename_i T' ds hlk
          cases hT : (T' == T && Nat.ble fs.length 64 && decide (f' = f)) with
          | false => rw [hT] at h; cases h
          | true =>
            rw [hT] at h
            simp only [cond_true] at h
            rw [Bool.and_eq_true, Bool.and_eq_true, beq_iff_eq, Nat.ble_eq, decide_eq_true_eq] at hT
            obtain ⟨⟨rfl, hl⟩, rfl⟩ := hT
            split at h
            · cases h
            · rename_i a ha
              split at h
              · cases h
              · rename_i b hb
                cases h
                have hg := reG_ref (ι := ι) (o := 0) hc (.inr (.inr ⟨_, _, hk⟩))
                have hF : ∀ k, subF s i k = ds.getD k .u := fun k => by
                  unfold subF
                  rw [hk]
                  simp only
                  rw [hlk]
                rw [hk] at hd
                obtain ⟨B, cv, g1, g2, g3⟩ := hd
                obtain ⟨B', cs, p1, p2, p3⟩ := hr.look hlk
                refine ⟨⟨B, cv, by rw [hg]; exact g1, g2, es_rd hb (g3.mono hf)⟩, fun q' hq => ?_⟩
                simp only [mk1, List.mem_singleton] at hq
                subst hq
                exact ⟨B', cs, by rw [hg]; exact p1, by rw [hg]; exact p2, fx_reG (T := T') hf hg ⟨B, g1⟩ hl hF ha p3⟩
        · cases h
    · cases h
  | ns cl T A =>
    simp only [un1] at h
    cases hi : (i == NT) with
    | false => rw [hi] at h; cases h
    | true =>
      rw [hi] at h
      simp only [cond_true] at h
      have hi : i = NT := by simpa using hi
      subst hi
      split at h
      · rename_i cl' T' A' hs hlk
        cases hc : (T' == T && A' == A) with
        | false => rw [hc] at h; cases h
        | true =>
          rw [hc] at h
          simp only [cond_true] at h
          obtain ⟨ec, h⟩ := Cl.cast_eq h
          subst ec
          have h : hs = x := h
          subst h
          simp only [Bool.and_eq_true, beq_iff_eq] at hc
          obtain ⟨rfl, rfl⟩ := hc
          refine ⟨trivial, fun q hq => ?_⟩
          simp only [mk1, List.mem_singleton] at hq
          subst hq
          obtain ⟨h0, hds, a, b, c⟩ := hr.look hlk
          exact ⟨rfl, hds, by rw [reG_nt]; exact a, by rw [reG_nt]; exact b.mono hf, by rw [hn]; exact c⟩
      · cases h
  | nsr cl =>
    simp only [un1] at h
    cases hi : (i == NTR) with
    | false => rw [hi] at h; cases h
    | true =>
      rw [hi] at h
      simp only [cond_true] at h
      have hi : i = NTR := by simpa using hi
      subst hi
      refine ⟨trivial, fun q hq => ?_⟩
      simp only [mk1, List.mem_singleton] at hq
      subst hq
      split at h
      · rename_i cl' hs hlk
        obtain ⟨ec, h⟩ := Cl.cast_eq h
        subst ec
        have h : hs = x := h
        subst h
        obtain ⟨a, b⟩ := hr.look hlk
        exact ⟨reG_ntr, fun i y hy => by obtain ⟨B, cs, g1, g2, g3⟩ := b i y hy; exact ⟨B, cs, hf.2.1 _ _ g1, g2.mono hf, g3.mono hf⟩⟩
      · rename_i hno
        cases lax with
        | false => cases h
        | true =>
          simp only [cond_true] at h
          split at h
          · rename_i cl' TN A hs hlk
            obtain ⟨ec, h⟩ := Cl.cast_eq h
            subst ec
            have h : hs = x := h
            subst h
            obtain ⟨_, hds, a, b, c⟩ := hr.look hlk
            have hl : lent s [(NTR, .nsr cl')] = [NT] := by
              simp only [lent]
              rw [hlk]
            exact ⟨reG_ntr, fun i y hy => nr_read b hf (hF rfl NT (by rw [hl]; simp)) hy⟩
          · cases h
  | lst e =>
    simp only [un1] at h
    refine ⟨?_, fun q hq => by simp [mk1] at hq⟩
    split at h
    · rename_i e' xs hk
      obtain ⟨rfl, rfl⟩ := castE_eq h
      rw [hk] at hd
      exact .of_rd (Rd.mono hd hf)
    · rename_i hk
      cases h
      rw [hk] at hd
      exact .of_rd (Rd.nil_lst _ (Rd.mono hd hf))
    · rename_i t hk
      cases lax with
      | false => cases h
      | true =>
        simp only [cond_true] at h
        split at h
        · rename_i e' T xs hlk
          obtain ⟨rfl, rfl⟩ := castE_eq h
          rw [hk] at hd
          have hd : σ i = (ι t).1 := hd
          rw [hd]
          exact .of_rd (own_rd (hr.look hlk) hf (hF rfl t (by simp [lent, hk])))
        · cases h
    · cases h
  | el e =>
    simp only [un1] at h
    split at h
    · rename_i ds hk
      rw [hk] at hd
      obtain ⟨cs, hv, hcs⟩ := Rd.agg_inv hd
      refine ⟨?_, fun q hq => by simp [mk1] at hq⟩
      rw [hv]
      exact .of_rd (.agg (dec_rd h (hcs.mono hf)) .nil)
    · cases h
  | own e T =>
    simp only [un1] at h
    split at h
    · rename_i t hk
      cases hc : ((nkp s.np i || t == i) && !(i == NT) && !(Nat.ble NTR i)) with
      | false => rw [hc] at h; cases h
      | true =>
        rw [hc] at h
        simp only [cond_true] at h
        split at h
        · rename_i e' T' xs hlk
          cases hT : (T' == T) with
          | false => rw [hT] at h; cases h
          | true =>
            rw [hT] at h
            simp only [cond_true] at h
            have hT : T' = T := by simpa using hT
            subst hT
            obtain ⟨rfl, rfl⟩ := castE_eq h
            have hg := reG_ref (ι := ι) (o := 0) hc (.inl hk)
            rw [hk] at hd
            have hd : σ i = (ι t).1 := hd
            obtain ⟨q, n, cp, rows, a, b, c⟩ := hr.look hlk
            refine ⟨by show _ = _; rw [hd, hg], fun q' hq => ?_⟩
            simp only [mk1, List.mem_singleton] at hq
            subst hq
            exact ⟨q, n, cp, rows, by rw [hg]; exact a, by rw [hg]; exact b, forall2_imp (fun _ _ h => h.mono hf) c⟩
        · cases h
    · rename_i hk
      cases hc : (nkp s.np i && !(i == NT) && !(Nat.ble NTR i)) with
      | false => rw [hc] at h; cases h
      | true =>
        rw [hc] at h
        cases h
        have hg := reG_nil (ι := ι) hc hk
        rw [hk] at hd
        refine ⟨by show _ = _; rw [hg]; exact Rd.nil_inv hd, fun q' hq => ?_⟩
        simp only [mk1, List.mem_singleton] at hq
        subst hq
        exact ⟨none, 0, 0, [], by rw [hg], by rw [hg]; exact SlO.nil _ _, .nil⟩
    · cases h
  | blk e T =>
    simp only [un1] at h
    split at h
    · rename_i t hk
      cases hc : ((nkp s.np i || t == i) && !(i == NT) && !(Nat.ble NTR i)) with
      | false => rw [hc] at h; cases h
      | true =>
        rw [hc] at h
        simp only [cond_true] at h
        split at h
        · rename_i T' ds hlk
          cases hT : (T' == T) with
          | false => rw [hT] at h; cases h
          | true =>
            rw [hT] at h
            simp only [cond_true] at h
            have hT : T' = T := by simpa using hT
            subst hT
            have hg := reG_ref (ι := ι) (o := 0) hc (.inr (.inl hk))
            rw [hk] at hd
            obtain ⟨B, g1, g2⟩ := hd
            obtain ⟨B', cs, a, b, c⟩ := hr.look hlk
            refine ⟨⟨B, by rw [hg]; exact g1, g2⟩, fun q' hq => ?_⟩
            simp only [mk1, List.mem_singleton] at hq
            subst hq
            exact ⟨B', cs, by rw [hg]; exact a, by rw [hg]; exact b, (dec_rd h ((c.rd (dec_plain h)).mono hf)).f2⟩
        · cases h
    · cases h
  | nap =>
    simp only [un1] at h
    split at h
    · rename_i o hk
      cases h
      rw [hk] at hd
      refine ⟨?_, fun q hq => by simp [mk1] at hq⟩
      show NapR (reG ι s NT).1 x (σ i)
      rw [reG_nt]
      exact hd
    · rename_i z j k hk
      rw [hk] at hd
      cases hz : (z == 3) with
      | false => rw [hz] at h; cases h
      | true =>
        rw [hz] at h
        cases h
        have hz : z = 3 := by simpa using hz
        subst hz
        refine ⟨?_, fun q hq => by simp [mk1] at hq⟩
        obtain ⟨hds, B, n, cp, g1, g2, g3⟩ := hd
        exact ⟨hds, B, n, cp, by rw [reG_nt]; exact g1, g2, by rw [g3, Nat.add_zero]⟩
    · rename_i hk
      cases h
      rw [hk] at hd
      exact ⟨Rd.pnil_inv hd, fun q hq => by simp [mk1] at hq⟩
    · cases h
  | nal =>
    simp only [un1] at h
    split at h
    · rename_i j hk
      cases h
      rw [hk] at hd
      obtain ⟨hds, g1, g2⟩ := hd
      exact ⟨⟨hds, by rw [reG_nt]; exact g1, g2⟩, fun q hq => by simp [mk1] at hq⟩
    · cases h
  | al j =>
    simp only [un1] at h
    split at h
    · rename_i t hk
      split at h
      · rename_i t' hk'
        cases hc : (t == t' && ((nkp s.np j || t' == j) && !(j == NT) && !(Nat.ble NTR j))) with
        | false => rw [hc] at h; cases h
        | true =>
          rw [Bool.and_eq_true, beq_iff_eq] at hc
          obtain ⟨rfl, hc⟩ := hc
          have hg := reG_ref (ι := ι) (o := 0) hc (.inl hk')
          rw [hk] at hd
          have hd : σ i = (ι t).1 := hd
          exact ⟨by show _ = _; rw [hd, hg], fun q hq => by simp [mk1] at hq⟩
      · cases h
    · rename_i hk
      split at h
      · rename_i hk'
        cases hc : (nkp s.np j && !(j == NT) && !(Nat.ble NTR j)) with
        | false => rw [hc] at h; cases h
        | true =>
          have hg := reG_nil (ι := ι) hc hk'
          rw [hk] at hd
          exact ⟨by show _ = _; rw [hg]; exact Rd.nil_inv hd, fun q hq => by simp [mk1] at hq⟩
      · cases h
    · cases h
  | mp =>
    simp only [un1] at h
    split at h
    · rename_i t hk
      cases hc : ((nkp s.np i || t == i) && !(i == NT) && !(Nat.ble NTR i)) with
      | false => rw [hc] at h; cases h
      | true =>
        rw [hc] at h
        simp only [cond_true] at h
        split at h
        · rename_i l hlk
          cases h
          have hg := reG_ref (ι := ι) (o := 0) hc (.inl hk)
          rw [hk] at hd
          have hd : σ i = (ι t).1 := hd
          obtain ⟨B, cs, a, b, c⟩ := hr.look hlk
          refine ⟨by show _ = _; rw [hd, hg], fun q' hq => ?_⟩
          simp only [mk1, List.mem_singleton] at hq
          subst hq
          exact ⟨B, cs, by rw [hg]; exact a, by rw [hg]; exact b, c.mono hf⟩
        · cases h
    · cases h
  | sit =>
    simp only [un1] at h
    split at h
    · rename_i t hk
      cases hc : ((nkp s.np i || t == i) && !(i == NT) && !(Nat.ble NTR i)) with
      | false => rw [hc] at h; cases h
      | true =>
        rw [hc] at h
        simp only [cond_true] at h
        split at h
        · rename_i l pos hlk
          cases h
          have hg := reG_ref (ι := ι) (o := 0) hc (.inr (.inl hk))
          rw [hk] at hd
          obtain ⟨B, g1, g2⟩ := hd
          obtain ⟨B', a, b⟩ := hr.look hlk
          refine ⟨⟨B, by rw [hg]; exact g1, g2⟩, fun q' hq => ?_⟩
          simp only [mk1, List.mem_singleton] at hq
          subst hq
          exact ⟨B', by rw [hg]; exact a, by rw [hg]; exact b⟩
        · cases h
    · cases h
theorem unP_sound {σ : Nat → Value} {lax : Bool} (hr : RelV F ι s σ) (hf : F.le F1) (hn : F1.nid = F.nid) : ∀ {p : Pt} {x : Tup p}, (lax = true → ∀ t ∈ lent s p, ∀ q ∈ (ι t).2, isB (F1.m q.1) q) → unP s lax p = some x → MP F1 (reG ι s) σ p x
  | [], _, _, _ => trivial
  | [q], x, hF, h => un1_sound hr hf hn hF h
  | q :: q' :: ps, x, hF, h => by
    simp only [unP] at h
    cases h1 : un1 s lax q.1 q.2 with
    | none => rw [h1] at h; cases h
    | some a =>
      rw [h1] at h
      simp only at h
      cases h2 : unP s lax (q' :: ps) with
      | none => rw [h2] at h; cases h
      | some b =>
        rw [h2] at h
        cases h
        exact ⟨un1_sound hr hf hn (fun hl t ht => hF hl t (by rw [lent_cons]; exact List.mem_append_left _ ht)) h1, unP_sound hr hf hn (p := q' :: ps) (fun hl t ht => hF hl t (by rw [lent_cons]; exact List.mem_append_right _ ht)) h2⟩
end
end Go.Proofs.YtpedmnlpccngiaaDoor.V
namespace Go.Proofs.YtpedmnlpccngiaaDoor.V
open Go K

section
variable {P : Program} {C : Cx} {R : Type} {F F' F1 F2' : Frz} {ι ι' ι1 : Gh} {s s' : St} {ρ : List Value} {d : D} {v : Value} {t dt : Nat} {L0 : List Blk} {r : R} {dst : Option Tmp} {ty : TypeId} {p : String} {af : Array Edge} {gd : Option (Nat × Bool)} {h : Array Obj}

def kl (ι : Gh) (ks : List Nat) : List Blk := ks.flatMap fun t => (ι t).2
theorem lv_kl (ow : List (Nat × OB)) : lv ι ow = kl ι (ow.map (·.1)) := by simp [lv, kl, List.flatMap_map]
theorem kl_append (a b : List Nat) : kl ι (a ++ b) = kl ι a ++ kl ι b := by simp [kl]
theorem kl_perm {a b : List Nat} (h : a.Perm b) : (kl ι a).Perm (kl ι b) := h.flatMap_right _
theorem kl_sub : ∀ {a b : List Nat}, a.Sublist b → (kl ι a).Sublist (kl ι b)
  | _, _, .slnil => .slnil
  | _, _, .cons x h => by simp only [kl, List.flatMap_cons]; exact (kl_sub h).trans (List.sublist_append_right _ _)
  | _, _, .cons_cons x h => by simp only [kl, List.flatMap_cons]; exact (List.Sublist.refl _).append (kl_sub h)
theorem kl_congr {a : List Nat} (h : ∀ t ∈ a, ι' t = ι t) : kl ι' a = kl ι a := by
  unfold kl
  induction a with
  | nil => rfl
  | cons t a ih => simp only [List.flatMap_cons]; rw [h t (by simp), ih fun q hq => h q (by simp [hq])]
def without (ks T : List Nat) : List Nat := ks.filter fun k => !T.contains k
theorem perm_without {ks T : List Nat} (hk : ks.Nodup) (hT : T.Nodup) (hs : ∀ t ∈ T, t ∈ ks) : ks.Perm (T ++ without ks T) := by
  refine (List.perm_ext_iff_of_nodup hk ?_).2 fun a => ?_
  · rw [List.nodup_append]
    refine ⟨hT, hk.sublist List.filter_sublist, fun a ha b hb e => ?_⟩
    subst e
    have := (List.mem_filter.1 hb).2
    simp [ha] at this
  · simp only [List.mem_append, without, List.mem_filter, List.contains_eq_mem, Bool.not_eq_true', decide_eq_false_iff_not]
    constructor
    · intro ha
      by_cases h : a ∈ T
      · exact .inl h
      · exact .inr ⟨ha, h⟩
    · rintro (h | h)
      · exact hs a h
      · exact h.1
theorem purgeAll_keys : ∀ {T : List Nat} {s : St}, (purgeAll s T).ow.map (·.1) = without (s.ow.map (·.1)) T
  | [], s => by
    simp only [purgeAll, without, List.contains_nil, Bool.not_false]
    exact (List.filter_eq_self.2 fun _ _ => rfl).symm
  | t :: T, s => by
    simp only [purgeAll]
    rw [purgeAll_keys, purge_keys]
    simp only [without]
    have : (s.ow.filter fun p => !(p.1 == t)).map (·.1) = (s.ow.map (·.1)).filter fun k => !(k == t) := by rw [List.filter_map]; rfl
    rw [this, List.filter_filter]
    refine List.filter_congr fun x _ => ?_
    simp only [List.contains_cons]
    cases (x == t) <;> simp
theorem purgeAll_rel : ∀ {T : List Nat} {s : St} {ι : Gh}, Rel F ι s ρ → (∀ t, t ∉ T → ι' t = ι t) → Rel F ι' (purgeAll s T) ρ
  | [], s, ι, hr, he => by
    have : ι' = ι := funext fun t => he t (by simp)
    rw [this]
    exact hr
  | t :: T, s, ι, hr, he => by
    show Rel F ι' (purgeAll (s.purge t) T) ρ
    refine purgeAll_rel (ι := fun t' => if t' = t then ι' t else ι t') (hr.purge' (t := t) fun t' h => if_neg h) fun t' h => ?_
    by_cases e : t' = t
    · subst e; simp
    · simp only [e, if_false]; exact he t' (by simp [e, h])
theorem purgeAll_n : ∀ {T : List Nat} {s : St}, (purgeAll s T).n = s.n ∧ (purgeAll s T).np = s.np ∧ (purgeAll s T).nw = s.nw
  | [], _ => ⟨rfl, rfl, rfl⟩
  | _ :: T, s => by simp only [purgeAll]; rw [purgeAll_n.1, purgeAll_n.2.1, purgeAll_n.2.2]; exact ⟨rfl, rfl, rfl⟩
theorem look_key {b : OB} (h : s.look t = some b) : t ∈ s.ow.map (·.1) := List.mem_map.2 ⟨_, look_mem h, rfl⟩
theorem freezeAll_sound : ∀ {T : List Nat} {s s0 : St} {F : Frz}, Rel F ι s ρ → F.le F1 → F1.nid = F.nid → (∀ t ∈ T, ∀ q ∈ (ι t).2, isB (F1.m q.1) q) → freezeAll s T = some s0 → Rel F1 ι s0 ρ ∧ s0.ow.map (·.1) = without (s.ow.map (·.1)) T ∧ s0.n = s.n ∧ s0.np = s.np ∧ s0.nw = s.nw
  | [], s, s0, F, hr, hf, hn, _, h => by
    cases h
    refine ⟨hr.mono hf hn, ?_, rfl, rfl, rfl⟩
    simp only [without, List.contains_nil, Bool.not_false]
    exact (List.filter_eq_self.2 fun _ _ => rfl).symm
  | t :: T, s, s0, F, hr, hf, hn, hF, h => by
    simp only [freezeAll] at h
    have fin : ∀ d, Rd F1 [d] [(ι t).1] → freezeAll (s.freeze t d) T = some s0 → Rel F1 ι s0 ρ ∧ s0.ow.map (·.1) = without (s.ow.map (·.1)) (t :: T) ∧ s0.n = s.n ∧ s0.np = s.np ∧ s0.nw = s.nw := fun d hrd h => by
      have hr1 : Rel F1 ι (s.freeze t d) ρ := by
        refine ⟨hr.len, fun i => ((hr.sl i).mono hf).frz hrd, fun p hp => ?_, ?_⟩
        · simp only [St.freeze, List.mem_map, List.mem_filter] at hp
          obtain ⟨q, ⟨hq, _⟩, rfl⟩ := hp
          exact ((hr.ow q hq).mono hf fun _ => hn).frz hrd
        · rw [freeze_keys]
          exact hr.nd.sublist ((List.filter_sublist).map _)
      obtain ⟨a, b, c, d, e⟩ := freezeAll_sound hr1 (.refl F1) rfl (fun t ht => hF t (by simp [ht])) h
      refine ⟨a, ?_, c, d, e⟩
      rw [b, freeze_keys]
      simp only [without]
      have : (s.ow.filter fun p => !(p.1 == t)).map (·.1) = (s.ow.map (·.1)).filter fun k => !(k == t) := by rw [List.filter_map]; rfl
      rw [this, List.filter_filter]
      refine List.filter_congr fun x _ => ?_
      simp only [List.contains_cons]
      cases (x == t) <;> simp
    split at h
    · rename_i e T' xs hlk
      exact fin _ (own_rd (hr.look hlk) hf (hF t (by simp))) h
    · rename_i T' ds hlk
      cases hp : ds.all D.plain with
      | false => rw [hp] at h; cases h
      | true =>
        rw [hp] at h
        exact fin _ (cells_fp (hr.look hlk) hp hf (hF t (by simp))) h
    · cases h
theorem un1_tag {lax : Bool} {i : Nat} {k : Kd} {x : k.T} (h : un1 s lax i k = some x) : (∀ t ∈ tag1 s i k, ∃ b, s.look t = some b) ∧ kl (reG ι s) ((mk1 i k x).2.map (·.1)) = kl ι (tag1 s i k) := by
  cases k with
  | own e T =>
    simp only [un1] at h
    split at h
    · rename_i t hk
      cases hc : ((nkp s.np i || t == i) && !(i == NT) && !(Nat.ble NTR i)) with
      | false => rw [hc] at h; cases h
      | true =>
        rw [hc] at h
        simp only [cond_true] at h
        split at h
        · rename_i hlk
          refine ⟨fun t' ht => ?_, ?_⟩
          · simp only [tag1, hk, List.mem_singleton] at ht
            subst ht
            exact ⟨_, hlk⟩
          · have hg := reG_ref (ι := ι) (o := 0) hc (.inl hk)
            simp [tag1, hk, mk1, kl, hg]
        · cases h
    · rename_i hk
      refine ⟨fun t' ht => by simp [tag1, hk] at ht, ?_⟩
      cases hc : (nkp s.np i && !(i == NT) && !(Nat.ble NTR i)) with
      | false => rw [hc] at h; cases h
      | true =>
        have hg := reG_nil (ι := ι) hc hk
        simp [tag1, hk, mk1, kl, hg]
    · cases h
  | blk e T =>
    simp only [un1] at h
    split at h
    · rename_i t hk
      cases hc : ((nkp s.np i || t == i) && !(i == NT) && !(Nat.ble NTR i)) with
      | false => rw [hc] at h; cases h
      | true =>
        rw [hc] at h
        simp only [cond_true] at h
        split at h
        · rename_i hlk
          refine ⟨fun t' ht => ?_, ?_⟩
          · simp only [tag1, hk, List.mem_singleton] at ht
            subst ht
            exact ⟨_, hlk⟩
          · have hg := reG_ref (ι := ι) (o := 0) hc (.inr (.inl hk))
            simp [tag1, hk, mk1, kl, hg]
        · cases h
    · cases h
  | mp =>
    simp only [un1] at h
    split at h
    · rename_i t hk
      cases hc : ((nkp s.np i || t == i) && !(i == NT) && !(Nat.ble NTR i)) with
      | false => rw [hc] at h; cases h
      | true =>
        rw [hc] at h
        simp only [cond_true] at h
        split at h
        · rename_i hlk
          refine ⟨fun t' ht => ?_, ?_⟩
          · simp only [tag1, hk, List.mem_singleton] at ht
            subst ht
            exact ⟨_, hlk⟩
          · have hg := reG_ref (ι := ι) (o := 0) hc (.inl hk)
            simp [tag1, hk, mk1, kl, hg]
        · cases h
    · cases h
  | sit =>
    simp only [un1] at h
    split at h
    · rename_i t hk
      cases hc : ((nkp s.np i || t == i) && !(i == NT) && !(Nat.ble NTR i)) with
      | false => rw [hc] at h; cases h
      | true =>
        rw [hc] at h
        simp only [cond_true] at h
        split at h
        · rename_i hlk
          refine ⟨fun t' ht => ?_, ?_⟩
          · simp only [tag1, hk, List.mem_singleton] at ht
            subst ht
            exact ⟨_, hlk⟩
          · have hg := reG_ref (ι := ι) (o := 0) hc (.inr (.inl hk))
            simp [tag1, hk, mk1, kl, hg]
        · cases h
    · cases h
  | ns cl T A =>
    simp only [un1] at h
    cases hi : (i == NT) with
    | false => rw [hi] at h; cases h
    | true =>
      rw [hi] at h
      simp only [cond_true] at h
      have hi : i = NT := by simpa using hi
      subst hi
      split at h
      · rename_i hlk
        refine ⟨fun t' ht => ?_, by simp [tag1, mk1, kl, reG_nt]⟩
        simp only [tag1, List.mem_singleton] at ht
        subst ht
        exact ⟨_, hlk⟩
      · cases h
  | nsr cl =>
    simp only [un1] at h
    cases hi : (i == NTR) with
    | false => rw [hi] at h; cases h
    | true =>
      have hi : i = NTR := by simpa using hi
      subst hi
      exact ⟨fun t ht => by simp [tag1] at ht, by simp [tag1, mk1, kl, reG_ntr]⟩
  | blkx T fs =>
    simp only [un1] at h
    split at h
    · rename_i t hk
      cases hc : ((nkp s.np i || t == i) && !(i == NT) && !(Nat.ble NTR i)) with
      | false => rw [hc] at h; cases h
      | true =>
        rw [hc] at h
        simp only [cond_true] at h
        split at h
        · rename_i hlk
          refine ⟨fun t' ht => ?_, ?_⟩
          · simp only [tag1, hk, List.mem_singleton] at ht
            subst ht
            exact ⟨_, hlk⟩
          · have hg := reG_ref (ι := ι) (o := 0) hc (.inr (.inl hk))
            simp [tag1, hk, mk1, kl, hg]
        · cases h
    · cases h
  | clox f T fs es =>
    simp only [un1] at h
    split at h
    · rename_i f' t cs0 hk
      cases hc : ((nkp s.np i || t == i) && !(i == NT) && !(Nat.ble NTR i)) with
      | false => rw [hc] at h; cases h
      | true =>
        rw [hc] at h
        simp only [cond_true] at h
        split at h
        · rename_i hlk
          refine ⟨fun t' ht => ?_, ?_⟩
          · simp only [tag1, hk, List.mem_singleton] at ht
            subst ht
            exact ⟨_, hlk⟩
          · have hg := reG_ref (ι := ι) (o := 0) hc (.inr (.inr ⟨_, _, hk⟩))
            simp [tag1, hk, mk1, kl, hg]
        · cases h
    · cases h
  | hown i0 j e T =>
    simp only [un1] at h
    cases hc : (i == subT i0 j && Nat.blt j 64) with
    | false => rw [hc] at h; cases h
    | true =>
      rw [hc] at h
      simp only [cond_true] at h
      rw [Bool.and_eq_true, beq_iff_eq, Nat.blt_eq] at hc
      obtain ⟨rfl, hj⟩ := hc
      have hg := reG_sub (ι := ι) (s := s) (i0 := i0) hj
      split at h
      · rename_i t hk
        rw [hk] at hg
        split at h
        · rename_i hlk
          refine ⟨fun t' ht => ?_, by simp [tag1, hk, mk1, kl, hg]⟩
          simp only [tag1, hk, List.mem_singleton] at ht
          subst ht
          exact ⟨_, hlk⟩
        · cases h
      · rename_i hk
        rw [hk] at hg
        exact ⟨fun t' ht => by simp [tag1, hk] at ht, by simp [tag1, hk, mk1, kl, hg]⟩
      · cases h
  | _ => exact ⟨fun t ht => by simp [tag1] at ht, rfl⟩
theorem unP_tag {lax : Bool} : ∀ {p : Pt} {x : Tup p}, unP s lax p = some x → (∀ t ∈ tags s p, ∃ b, s.look t = some b) ∧ lv (reG ι s) (mkOw p x) = kl ι (tags s p)
  | [], _, _ => ⟨fun t ht => by simp [tags] at ht, rfl⟩
  | [q], x, h => by
    obtain ⟨a, b⟩ := un1_tag (ι := ι) (show un1 s lax q.1 q.2 = some x from h)
    refine ⟨fun t ht => a t (by simpa [tags] using ht), ?_⟩
    show lv (reG ι s) (mk1 q.1 q.2 x).2 = _
    rw [lv_kl, b]
    simp [tags]
  | q :: q' :: ps, x, h => by
    simp only [unP] at h
    cases h1 : un1 s lax q.1 q.2 with
    | none => rw [h1] at h; cases h
    | some a =>
      rw [h1] at h
      simp only at h
      cases h2 : unP s lax (q' :: ps) with
      | none => rw [h2] at h; cases h
      | some b =>
        rw [h2] at h
        cases h
        obtain ⟨c, d⟩ := un1_tag (ι := ι) h1
        obtain ⟨e, f⟩ := unP_tag (p := q' :: ps) h2
        have ht : tags s (q :: q' :: ps) = tag1 s q.1 q.2 ++ tags s (q' :: ps) := by simp [tags]
        rw [ht]
        refine ⟨fun t ht => ?_, ?_⟩
        · rcases List.mem_append.1 ht with ht | ht
          · exact c t ht
          · exact e t ht
        · show lv (reG ι s) ((mk1 q.1 q.2 a).2 ++ mkOw (q' :: ps) b) = _
          rw [lv_append, f, lv_kl, d, kl_append]
theorem lent1_look {i : Nat} {k : Kd} {x : k.T} (h : un1 s true i k = some x) : ∀ t ∈ lent s [(i, k)], ∃ b, s.look t = some b := by
  intro t ht
  cases k <;> simp only [lent] at ht <;> try (simp at ht; done)
  · split at ht
    · rename_i t' hk
      simp only [List.mem_singleton] at ht
      subst ht
      simp only [un1, hk, cond_true] at h
      split at h
      · rename_i hlk; exact ⟨_, hlk⟩
      · cases h
    · simp at ht
  · split at ht
    · rename_i t' hk
      simp only [List.mem_singleton] at ht
      subst ht
      simp only [un1, hk, cond_true] at h
      split at h
      · rename_i hlk; exact ⟨_, hlk⟩
      · cases h
    · simp at ht
  · split at ht
    · simp at ht
    · split at ht
      · rename_i hlk
        simp only [List.mem_singleton] at ht
        subst ht
        exact ⟨_, hlk⟩
      · simp at ht
theorem lent_look : ∀ {p : Pt} {x : Tup p}, unP s true p = some x → ∀ t ∈ lent s p, ∃ b, s.look t = some b
  | [], _, _, t, ht => by simp [lent] at ht
  | [(i, k)], x, h, t, ht => lent1_look h t ht
  | (i, k) :: q' :: ps, x, h, t, ht => by
    simp only [unP] at h
    cases h1 : un1 s true i k with
    | none => rw [h1] at h; cases h
    | some a =>
      rw [h1] at h
      simp only at h
      cases h2 : unP s true (q' :: ps) with
      | none => rw [h2] at h; cases h
      | some b =>
        rw [lent_cons] at ht
        rcases List.mem_append.1 ht with ht | ht
        · exact lent1_look h1 t ht
        · exact lent_look (p := q' :: ps) h2 t ht
/-- The state at a loop's head, or behind a loop. -/
theorem unD_sound {p : Pt} {x : Tup p} (hr : Rel F ι s ρ) (hm : Hp h F (lv ι s.ow ++ L0)) (hu : unD s p = some x) : Rel F (reG ι s) (mkP s.n s.np s.nw p x) ρ ∧ Hp h F (lv (reG ι s) (mkOw p x) ++ L0) ∧ ∀ t, (s.np / 1000 ≤ t ∧ t < s.np % 1000) → (reG ι s t).1 = (ι t).1 := by
  unfold unD at hu
  cases hc : (nodupB (tags s p) && nodupB (p.map (·.1))) with
  | false => rw [hc] at hu; cases hu
  | true =>
    rw [hc] at hu
    simp only [cond_true] at hu
    rw [Bool.and_eq_true] at hc
    have h1 := nodupB_nodup hc.1
    have h2 := nodupB_nodup hc.2
    obtain ⟨h3, h4⟩ := unP_tag (ι := ι) hu
    refine ⟨(unP_sound hr.toV (.refl F) rfl (fun h => by cases h) hu).rel h2 hr.len, ?_, fun t ht => reG_np ht⟩
    rw [h4]
    have h5 := perm_without hr.nd h1 fun t ht => by obtain ⟨b, hb⟩ := h3 t ht; exact look_key hb
    rw [lv_kl] at hm
    have h6 := hm.perm (((kl_perm (ι := ι) h5).symm).append_right L0)
    rw [kl_append] at h6
    exact h6.sub ((List.sublist_append_left _ _).append (List.Sublist.refl _))
theorem unD_vals {σ : Nat → Value} {p : Pt} {x : Tup p} (hr : RelV F ι s σ) (hm : Hp h F (lv ι s.ow ++ L0)) (hu : unD s p = some x) : MP F (reG ι s) σ p x ∧ Hp h F (lv (reG ι s) (mkOw p x) ++ L0) := by
  unfold unD at hu
  cases hc : (nodupB (tags s p) && nodupB (p.map (·.1))) with
  | false => rw [hc] at hu; cases hu
  | true =>
    rw [hc] at hu
    simp only [cond_true] at hu
    rw [Bool.and_eq_true] at hc
    have h1 := nodupB_nodup hc.1
    have h2 := nodupB_nodup hc.2
    obtain ⟨h3, h4⟩ := unP_tag (ι := ι) hu
    refine ⟨unP_sound hr (.refl F) rfl (fun h => by cases h) hu, ?_⟩
    rw [h4]
    have h5 := perm_without hr.nd h1 fun t ht => by obtain ⟨b, hb⟩ := h3 t ht; exact look_key hb
    rw [lv_kl] at hm
    have h6 := hm.perm (((kl_perm (ι := ι) h5).symm).append_right L0)
    rw [kl_append] at h6
    exact h6.sub ((List.sublist_append_left _ _).append (List.Sublist.refl _))
end
end Go.Proofs.YtpedmnlpccngiaaDoor.V
namespace Go.Proofs.YtpedmnlpccngiaaDoor.V
open Go K

def joinV : List Value → Value
  | [v] => v
  | vs => .tuple vs.toArray
/-- What is handed back: results, and what arguments hold. -/
def vX (vs : List Value) (ι : Gh) (k : Nat) : Value := if k < 1000 then vs.getD k undef else if k = NT ∨ SB ≤ k then undef else (ι (k - 1000)).1
def Res (F : Frz) (ι : Gh) (ent : Ent) (r : Tup ent.pout) (L0 : List Blk) (v : Value) (h' : Array Obj) : Prop :=
  ∃ F' ι' vs, F.le F' ∧ (hasNT ent.pout = false → F'.nid = F.nid) ∧ vs.length = (realK ent.pout).length ∧ MP F' ι' (vX vs ι) ent.pout r ∧ v = joinV vs ∧ Hp h' F' (lv ι' (mkOw ent.pout r) ++ L0) ∧ ∀ k ∈ ent.pout.map (·.1), 1000 ≤ k → k ≠ NT → k < SB → (ι' k).1 = (ι (k - 1000)).1
/-- What is known of a function holds. -/
def FnOK (P : Program) (f : FuncId) (ent : Ent) : Prop :=
  ∀ (x : Tup ent.pin) (r : Tup ent.pout), ent.m x = some r → ∀ (F : Frz) (ι : Gh) (h : Array Obj) (L0 : List Blk) (vargs : List Value), vargs.length = (realK ent.pin).length → MP F ι (fun i => vargs.getD i undef) ent.pin x → Hp h F (lv ι (mkOw ent.pin x) ++ L0) → Ret P f vargs h (Res F ι ent r L0)
def CxOK (P : Program) (C : Cx) : Prop := CtOK P C ∧ ∀ f ent, C.fns f = some ent → FnOK P (f % 1000000) ent ∧ ∀ args w, (callFunc (f % 1000000) args).run P w = .ok (.enter (f % 1000000) args) w
theorem pickE_ok {P : Program} {C : Cx} {f : FuncId} {args : List D} {ent : Ent} (hC : CxOK P C) (h : pickE C f args = some ent) : FnOK P f ent ∧ ∀ args w, (callFunc f args).run P w = .ok (.enter f args) w := by
  unfold pickE at h
  cases hb : Nat.blt f 1000000 with
  | false => rw [hb] at h; cases h
  | true =>
    rw [hb] at h
    simp only [cond_true] at h
    have hf : f < 1000000 := by simpa [Nat.blt_eq] using hb
    have e0 : f % 1000000 = f := Nat.mod_eq_of_lt hf
    have plain : C.fns f = some ent → FnOK P f ent ∧ ∀ args w, (callFunc f args).run P w = .ok (.enter f args) w := fun h => by
      have := hC.2 f ent h
      rw [e0] at this
      exact this
    split at h
    · rename_i g hg
      split at h
      · rename_i e he
        cases h
        have := hC.2 _ _ he
        rw [Nat.add_mul_mod_self_left, e0] at this
        exact this
      · exact plain h
    · exact plain h

section
variable {P : Program} {C : Cx} {R : Type} {F F' F1 F3 : Frz} {ι ι' ι1 ι2 ι3 : Gh} {s s' : St} {ρ : List Value} {d : D} {v : Value} {t dt : Nat} {L0 : List Blk} {r : R} {dst : Option Tmp} {ty : TypeId} {p : String} {af : Array Edge} {gd : Option (Nat × Bool)} {h : Array Obj}

theorem mk1_notup {i : Nat} {k : Kd} {x : k.T} : ∀ ds, (mk1 i k x).1 ≠ .tup ds := by intro ds; cases k <;> simp [mk1]
theorem out1_sound {τ : Nat → Nat} {j : Nat} {k : Kd} {x : k.T} (hι : ι3 (τ j) = ι2 j) (hs : ∀ y ∈ k.subs, ι3 (subT (τ j) y) = ι2 (subT j y)) (hN : j = NT → τ j = NT) {nb : Bool} (hnb : nb = true → ι3 NT = ι2 NT) (hA : k.noAl nb = true) (h : M1 F ι2 j k x v) :
    M1 F ι3 (τ j) k x v ∧ (mk1 (τ j) k x).2.map (·.1) = ((mk1 j k x).2.map (·.1)).map τ ∧ lv ι3 (mk1 (τ j) k x).2 = lv ι2 (mk1 j k x).2 := by
  refine ⟨h.ren hA hι hs hN hnb, ?_, ?_⟩
  · cases k <;> rfl
  · cases k <;> simp [mk1, lv, hι]
theorem realK_cons {q : Nat × Kd} {ps : Pt} : realK (q :: ps) = (cond (Nat.blt q.1 1000) [q.1] []) ++ realK ps := by
  simp only [realK, List.map_cons, List.filter_cons]
  cases Nat.blt q.1 1000 <;> rfl
theorem F2.app {α β : Type} {R : α → β → Prop} : ∀ {l l' : List α} {m m' : List β}, F2 R l m → F2 R l' m' → F2 R (l ++ l') (m ++ m')
  | _, _, _, _, .nil, h => h
  | _, _, _, _, .cons h t, h' => .cons h (t.app h')
theorem out_sound {τ : Nat → Nat} {vs : Nat → Value} {nb : Bool} (hnb : nb = true → ι3 NT = ι2 NT) : ∀ {q : Pt} {x : Tup q}, (∀ a ∈ q, a.2.noAl nb = true) → (∀ k ∈ q.map (·.1), ι3 (τ k) = ι2 k) → (∀ a ∈ q, ∀ y ∈ a.2.subs, ι3 (subT (τ a.1) y) = ι2 (subT a.1 y)) → (∀ k ∈ q.map (·.1), k = NT → τ k = NT) → MP F ι2 vs q x →
    F2 (fun d v => RdV F ι3 d v ∧ ∀ ds, d ≠ .tup ds) (outDs τ q x) ((realK q).map vs) ∧ (∀ b ∈ outOw τ q x, OwnR F ι3 b.1 b.2) ∧ (outOw τ q x).map (·.1) = ((mkOw q x).map (·.1)).map τ ∧ lv ι3 (outOw τ q x) = lv ι2 (mkOw q x)
  | [], x, _, _, _, _, _ => ⟨.nil, by simp [outOw], rfl, rfl⟩
  | [a], x, hA, hι, hs, hN, hm => by
    obtain ⟨h1, h2, h3⟩ := out1_sound (τ := τ) (hι a.1 (by simp)) (hs a (by simp)) (hN a.1 (by simp)) hnb (hA a (by simp)) (show M1 F ι2 a.1 a.2 x (vs a.1) from hm)
    refine ⟨?_, h1.2, h2, h3⟩
    rw [realK_cons]
    simp only [outDs]
    cases Nat.blt a.1 1000 with
    | true => exact .cons ⟨h1.1, mk1_notup⟩ .nil
    | false => exact .nil
  | a :: b :: q, x, hA, hι, hs, hN, hm => by
    obtain ⟨h1, h2, h3⟩ := out1_sound (τ := τ) (hι a.1 (by simp)) (hs a (by simp)) (hN a.1 (by simp)) hnb (hA a (by simp)) (show M1 F ι2 a.1 a.2 x.1 (vs a.1) from hm.1)
    obtain ⟨b1, b2, b3, b4⟩ := out_sound (τ := τ) (vs := vs) hnb (q := b :: q) (x := x.2) (fun a ha => hA a (List.mem_cons_of_mem _ ha)) (fun k hk => hι k (List.mem_cons_of_mem _ hk)) (fun a ha => hs a (List.mem_cons_of_mem _ ha)) (fun k hk => hN k (List.mem_cons_of_mem _ hk)) hm.2
    have e1 : outOw τ (a :: b :: q) x = (mk1 (τ a.1) a.2 x.1).2 ++ outOw τ (b :: q) x.2 := rfl
    have e2 : mkOw (a :: b :: q) x = (mk1 a.1 a.2 x.1).2 ++ mkOw (b :: q) x.2 := rfl
    refine ⟨?_, fun c hc => ?_, ?_, ?_⟩
    · rw [realK_cons, List.map_append]
      simp only [outDs]
      cases Nat.blt a.1 1000 with
      | true => exact .cons ⟨h1.1, mk1_notup⟩ b1
      | false => exact b1
    · rw [e1] at hc
      rcases List.mem_append.1 hc with hc | hc
      · exact h1.2 c hc
      · exact b2 c hc
    · rw [e1, e2, List.map_append, List.map_append, List.map_append, h2, b3]
    · rw [e1, e2, lv_append, lv_append, h3, b4]
theorem joinD_sound : ∀ {ds : List D} {vs : List Value}, F2 (fun d v => RdV F ι d v ∧ ∀ ds, d ≠ .tup ds) ds vs → RdV F ι (joinD ds) (joinV vs)
  | [], _, .nil => trivial
  | [_], [_], .cons h .nil => h.1
  | a :: b :: ds, _, .cons h (.cons h' t) => ⟨_, rfl, .cons (h.1.to_w h.2) (.cons (h'.1.to_w h'.2) (forall2_imp (fun _ _ h => h.1.to_w h.2) t))⟩
theorem without_without {ks A B : List Nat} : without (without ks A) B = without ks (B ++ A) := by
  simp only [without, List.filter_filter]
  refine List.filter_congr fun x _ => ?_
  simp only [List.contains_eq_mem, List.mem_append]
  by_cases h1 : x ∈ A <;> by_cases h2 : x ∈ B <;> simp [h1, h2]
theorem without_sub {ks A : List Nat} : (without ks A).Sublist ks := List.filter_sublist
theorem without_mono {ks A B : List Nat} (h : ∀ t ∈ A, t ∈ B) : (without ks B).Sublist (without ks A) := by
  have : without ks B = without (without ks A) B := by
    rw [without_without]
    refine List.filter_congr fun x _ => ?_
    simp only [List.contains_eq_mem, List.mem_append]
    by_cases h1 : x ∈ B
    · simp [h1]
    · have : x ∉ A := fun hA => h1 (h x hA)
      simp [h1, this]
  rw [this]
  exact without_sub
def Frz.wth (F F' : Frz) : Frz := ⟨F.m, F'.nid, F'.lv, F'.inj, F'.nlt⟩
theorem Hp.nid_eq (hm : Hp h F L0) (h1 : F'.m = F.m) (h2 : ∀ b, F'.lv b → F.lv b) : Hp h F' L0 := ⟨fun b o hb => hm.frz b o (by rw [← h1]; exact hb), hm.own, fun p hp => by rw [h1]; exact hm.sep p hp, hm.nodup, (fun b hb => hm.live b (h2 b hb)), by rw [h1]; exact hm.gl⟩
/-- Blocks that were looked at are owned as before. -/
theorem Hp.unfreeze {Lb L : List Blk} {h' : Array Obj} (hm : Hp h F (Lb ++ L)) (hF : ∀ p ∈ Lb, isB (F1.m p.1) p) (hf : F.le F1) {L' : List Blk} (hm' : Hp h' F1 L') : Hp h' (F.wth F1) (Lb ++ L') := by
  have hn := hm.nodup
  rw [List.map_append, List.nodup_append] at hn
  refine ⟨fun b o hb => hm'.frz b o (hf.1 b o hb), fun p hp => ?_, fun p hp => ?_, ?_, hm'.live, hm.gl⟩
  · rcases List.mem_append.1 hp with hp | hp
    · exact (hF p hp).frz hm'
    · exact hm'.own p hp
  · rcases List.mem_append.1 hp with hp | hp
    · exact hm.sep p (by simp [hp])
    · exact (hm'.weaken hf hm.gl).sep p hp
  · rw [List.map_append, List.nodup_append]
    refine ⟨hn.1, hm'.nodup, fun a ha b hb e => ?_⟩
    subst e
    obtain ⟨p, hp, rfl⟩ := List.mem_map.1 ha
    obtain ⟨q, hq, he⟩ := List.mem_map.1 hb
    obtain ⟨x, h1⟩ := (hF p hp).some
    have h2 := hm'.sep q hq
    rw [he, h1] at h2
    cases h2
theorem getD_map_g {xs : List Operand} (hr : Rel F ι s ρ) : ∀ i, RdV F ι ((xs.map (g s)).getD i .u) ((xs.map (ev ρ)).getD i undef) := by
  intro i
  simp only [List.getD_eq_getElem?_getD, List.getElem?_map]
  cases xs[i]? with
  | none => trivial
  | some x => exact g_rd hr x
theorem kl_key {ks : List Nat} {q : Blk} : q ∈ kl ι ks ↔ ∃ t ∈ ks, q ∈ (ι t).2 := by simp [kl]
/-- What the callee is handed. -/
theorem args_sound {sa : St} {vargs : List Value} {q : Pt} {x : Tup q} (hr : Rel F ι sa vargs) (hm : Hp h F (lv ι sa.ow ++ L0)) (hnd : (tags sa q ++ lent sa q).Nodup) (hu : unP sa true q = some x) :
    ∃ F1, F.le F1 ∧ F1.nid = F.nid ∧ (∀ t ∈ lent sa q, ∀ b ∈ (ι t).2, isB (F1.m b.1) b) ∧ MP F1 (reG ι sa) (fun i => vargs.getD i undef) q x ∧ lv (reG ι sa) (mkOw q x) = kl ι (tags sa q) ∧ Hp h F1 (kl ι (tags sa q) ++ (kl ι (without (sa.ow.map (·.1)) (tags sa q ++ lent sa q)) ++ L0)) ∧
      ∀ F2 h' L', F1.le F2 → Hp h' F2 L' → Hp h' (F.wth F2) (kl ι (lent sa q) ++ L') := by
  obtain ⟨h3, h4⟩ := unP_tag (ι := ι) hu
  have h5 := lent_look hu
  have hk : ∀ t ∈ tags sa q ++ lent sa q, t ∈ sa.ow.map (·.1) := fun t ht => by
    rcases List.mem_append.1 ht with ht | ht
    · obtain ⟨b, hb⟩ := h3 t ht; exact look_key hb
    · obtain ⟨b, hb⟩ := h5 t ht; exact look_key hb
  have hp := perm_without hr.nd hnd hk
  rw [lv_kl] at hm
  have hm1 := hm.perm (((kl_perm (ι := ι) hp).symm).append_right L0)
  rw [kl_append, kl_append] at hm1
  have hm2 : Hp h F (kl ι (lent sa q) ++ (kl ι (tags sa q) ++ (kl ι (without (sa.ow.map (·.1)) (tags sa q ++ lent sa q)) ++ L0))) := by
    refine hm1.perm ?_
    simp only [List.append_assoc]
    exact List.perm_append_comm_assoc _ _ _
  obtain ⟨hm3, hle⟩ := hm2.freeze
  have hn := hm2.nodup
  rw [List.map_append, List.nodup_append] at hn
  have hF : ∀ t ∈ lent sa q, ∀ b ∈ (ι t).2, isB ((F.add h (kl ι (lent sa q))).m b.1) b := fun t ht b hb => add_get hm2 (kl_key.2 ⟨t, ht, hb⟩)
  exact ⟨_, hle, rfl, hF, unP_sound hr.toV hle rfl (fun _ => hF) hu, h4, hm3, fun F2 h' L' h12 hm' => hm2.unfreeze (fun b hb => (add_get hm2 hb).mono h12) (hle.trans h12) hm'⟩
theorem look_of_key {t : Nat} (hk : t ∈ s.ow.map (·.1)) : ∃ b, s.look t = some b := by
  unfold St.look
  cases hf : s.ow.find? (fun p => p.1 == t) with
  | none =>
    obtain ⟨q, hq, rfl⟩ := List.mem_map.1 hk
    have := List.find?_eq_none.1 hf q hq
    simp at this
  | some q => exact ⟨q.2, rfl⟩
theorem OwnR.same1 {b : OB} (h1 : ∀ t', (ι' t').1 = (ι t').1) (h2 : ι' t = ι t) (h : OwnR F ι t b) : OwnR F ι' t b := by
  cases b with
  | rows e T xs => obtain ⟨q, n, cp, rows, a, c, f⟩ := h; exact ⟨q, n, cp, rows, by rw [h2]; exact a, by rw [h2]; exact c, f⟩
  | cells T ds => obtain ⟨B, cs, a, c, f⟩ := h; exact ⟨B, cs, by rw [h2]; exact a, by rw [h2]; exact c, forall2_imp (fun _ _ h => h.same1 h1) f⟩
  | nodes cl T A hs hole => obtain ⟨h0, hds, a, c, f⟩ := h; exact ⟨h0, hds, by rw [h2]; exact a, by rw [h2]; exact c, f⟩
  | nodesR cl hs => exact ⟨by rw [h2]; exact h.1, h.2⟩
  | mp l => obtain ⟨B, cs, a, c, f⟩ := h; exact ⟨B, cs, by rw [h2]; exact a, by rw [h2]; exact c, f⟩
  | sit l pos => obtain ⟨B, a, c⟩ := h; exact ⟨B, by rw [h2]; exact a, by rw [h2]; exact c⟩
theorem RdV.same1 (h1 : ∀ t', (ι' t').1 = (ι t').1) (h : RdV F ι d v) : RdV F ι' d v := by
  cases d with
  | tup ds => obtain ⟨vs, a, c⟩ := h; exact ⟨vs, a, forall2_imp (fun _ _ h => h.same1 h1) c⟩
  | _ => exact .of_w ((RdV.to_w h (fun _ e => by cases e)).same1 h1)
theorem Rel.same1 (hr : Rel F ι s ρ) (h1 : ∀ t', (ι' t').1 = (ι t').1) (h2 : ∀ p ∈ s.ow, ι' p.1 = ι p.1) : Rel F ι' s ρ :=
  ⟨hr.len, fun i => (hr.sl i).same1 h1, fun p hp => (hr.ow p hp).same1 h1 (h2 p hp), hr.nd⟩
theorem Rel.fewer (hr : Rel F ι s ρ) (k : Nat × OB → Bool) : Rel F ι ⟨s.n, s.np, s.nw, s.sl, s.ow.filter k⟩ ρ :=
  ⟨hr.len, hr.sl, fun p hp => hr.ow p (List.mem_filter.1 hp).1, hr.nd.sublist ((List.filter_sublist).map _)⟩
theorem hasNT_iff {p : Pt} : hasNT p = true ↔ NT ∈ p.map (·.1) := by
  simp [hasNT]
theorem sb_ble {k : Nat} (h : k < SB) : Nat.ble SB k = false := by
  cases hb : Nat.ble SB k with
  | false => rfl
  | true => rw [Nat.ble_eq] at hb; omega
theorem outTag_low {d k : Nat} {args : List D} (h : k < SB) : outTag d args k = outTag0 d args k := by
  unfold outTag
  rw [sb_ble h]
  rfl
theorem outTag_nt {d : Nat} {args : List D} : outTag d args NT = NT := by
  rw [outTag_low (by decide)]
  unfold outTag0
  have h1 : Nat.blt NT 1000 = false := by decide
  rw [h1]
  simp
theorem outTag_lt {d k : Nat} {args : List D} (h : k < 1000) : outTag d args k = 1000 * (d + 1) + k := by
  rw [outTag_low (by have : 1000 < SB := by decide
                     omega)]
  unfold outTag0
  have h1 : Nat.blt k 1000 = true := by rw [Nat.blt_eq]; exact h
  rw [h1]
  rfl
theorem cond_ble {a k x y : Nat} (h : a ≤ k) : cond (Nat.ble a k) x y = x := by rw [Nat.ble_eq_true_of_le h]; rfl
theorem subT_ge {i j : Nat} : SB ≤ subT i j := by unfold subT; omega
theorem subT_div {i j : Nat} (h : j < 64) : (subT i j - SB) / 64 = i := by unfold subT; omega
theorem subT_mod {i j : Nat} (h : j < 64) : (subT i j - SB) % 64 = j := by unfold subT; omega
theorem outTag_sb {d k : Nat} {args : List D} (h : SB ≤ k) : SB ≤ outTag d args k := by
  unfold outTag
  rw [cond_ble h]
  exact subT_ge
theorem outTag_sub {d i y : Nat} {args : List D} (hi : i < SB) (hy : y < 64) : outTag d args (subT i y) = subT (outTag d args i) y := by
  rw [outTag_low hi]
  unfold outTag
  rw [cond_ble subT_ge, subT_div hy, subT_mod hy]
theorem nodup_of_map {τ : Nat → Nat} : ∀ {l : List Nat}, (l.map τ).Nodup → l.Nodup
  | [], _ => .nil
  | a :: l, h => by
    rw [List.map_cons, List.nodup_cons] at h
    exact List.nodup_cons.2 ⟨fun hin => h.1 (List.mem_map.2 ⟨a, hin, rfl⟩), nodup_of_map h.2⟩
def pickK (l : List Nat) (τ : Nat → Nat) (t : Nat) : Option Nat := l.find? fun k => τ k == t
theorem pickK_some {l : List Nat} {τ : Nat → Nat} {k : Nat} (hn : (l.map τ).Nodup) (hk : k ∈ l) : pickK l τ (τ k) = some k := by
  induction l with
  | nil => cases hk
  | cons a l ih =>
    rw [List.map_cons, List.nodup_cons] at hn
    unfold pickK
    rw [List.find?_cons]
    by_cases e : τ a = τ k
    · rcases List.mem_cons.1 hk with rfl | hk
      · simp
      · exact absurd (show τ a ∈ l.map τ by rw [e]; exact List.mem_map.2 ⟨k, hk, rfl⟩) hn.1
    · have : (τ a == τ k) = false := by simp [e]
      rw [this]
      rcases List.mem_cons.1 hk with rfl | hk
      · exact absurd rfl e
      · exact ih hn.2 hk
theorem pickK_none {l : List Nat} {τ : Nat → Nat} {t : Nat} (h : t ∉ l.map τ) : pickK l τ t = none := by
  unfold pickK
  rw [List.find?_eq_none]
  intro k hk
  simp only [beq_iff_eq]
  exact fun e => h (List.mem_map.2 ⟨k, hk, e⟩)
set_option maxHeartbeats 1000000 in
theorem evCallA_sound {K : D → St → Option R} {f : FuncId} {argd : List D} {argv : List Value} {dn : Nat} (hC : CxOK P C) (hr : Rel F ι s ρ) (hm : Hp h F (lv ι s.ow ++ L0)) (hal : argv.length = argd.length) (hav : ∀ i, RdV F ι (argd.getD i .u) (argv.getD i undef)) (h0 : evCall C s dn f argd K = some r) : (∀ args w, (callFunc f args).run P w = .ok (.enter f args) w) ∧ Ret P f argv h (Post K r F ι s ρ L0 dn) := by
  unfold evCall at h0
  split at h0
  · cases h0
  · rename_i ent hent
    obtain ⟨hfn, hcal⟩ := pickE_ok hC hent
    refine ⟨hcal, ?_⟩
    cases hc : callOK s dn argd ent with
    | false => rw [hc] at h0; cases h0
    | true =>
      rw [hc] at h0
      simp only [cond_true] at h0
      unfold callOK at hc
      generalize hτ : outTag dn argd = τ at h0 hc
      generalize hsa : argSt s argd = sa at h0 hc
      have hra : Rel F ι sa argv := by
        subst hsa
        exact ⟨by simp [argSt, hal], hav, hr.ow, hr.nd⟩
      have how : sa.ow = s.ow := by subst hsa; rfl
      have hsnp : sa.np = 0 := by subst hsa; rfl
      simp only [Bool.and_eq_true, beq_iff_eq, Nat.ble_eq] at hc
      obtain ⟨⟨⟨⟨⟨⟨⟨⟨⟨⟨⟨hc1, hc2⟩, hc3⟩, hc4⟩, hc4'⟩, hc5⟩, hc6⟩, hc7⟩, hc8⟩, hc9⟩, hc10⟩, hc11⟩ := hc
      split at h0
      · cases h0
      · rename_i x hx
        split at h0
        · cases h0
        · rename_i s0 hs0
          obtain ⟨rr, hrr, h0⟩ := Option.bind_eq_some_iff.1 h0
          have hma : Hp h F (lv ι sa.ow ++ L0) := by rw [how]; exact hm
          have hTL := nodupB_nodup hc1
          obtain ⟨F1, hle, hnid1, hF1, hMP, hlv, hH, hun⟩ := args_sound hra hma hTL hx
          have hlen : argv.length = (realK ent.pin).length := by rw [hc2]; simp [hal]
          refine (hfn x rr hrr F1 (reG ι sa) h (kl ι (without (sa.ow.map (·.1)) (tags sa ent.pin ++ lent sa ent.pin)) ++ L0) _ hlen hMP (by rw [hlv]; exact hH)).mono ?_
          rintro v h' ⟨F2, ι2, vs, hle2, hnid2, hvl, hres, hv, hH2, hio⟩
          have hnds : (s.ow.map (·.1)).Nodup := hr.nd
          -- what is told of the caller's slots behind the call
          have hmid : ∃ Fx F3, Fx.le F3 ∧ F.le F3 ∧ Fx.nid = F.nid ∧ F3.nid = F2.nid ∧ Rel Fx ι s0 ρ ∧ MP F3 ι2 (vX vs (reG ι sa)) ent.pout rr ∧ Hp h' F3 (lv ι2 (mkOw ent.pout rr) ++ (kl ι (without (s0.ow.map (·.1)) (tags sa ent.pin)) ++ L0)) ∧ s0.n = s.n ∧ s0.np = s.np ∧ s0.nw = s.nw := by
            cases hfl : (ent.pout.all fun q => q.2.flat) with
            | true =>
              rw [hfl] at hs0
              simp only [cond_true] at hs0
              cases hs0
              have hl3 : F.le (F.wth F2) := ⟨fun _ _ h => h, (hle.trans hle2).2⟩
              refine ⟨F, F.wth F2, hl3, hl3, rfl, rfl, hr, MP.flat (F := F2) (F' := F.wth F2) rfl hres hfl, ?_, rfl, rfl, rfl⟩
              have h1 := hun F2 h' _ hle2 hH2
              have h2 : (kl ι (lent sa ent.pin) ++ (lv ι2 (mkOw ent.pout rr) ++ (kl ι (without (sa.ow.map (·.1)) (tags sa ent.pin ++ lent sa ent.pin)) ++ L0))).Perm (lv ι2 (mkOw ent.pout rr) ++ (kl ι (without (s.ow.map (·.1)) (tags sa ent.pin)) ++ L0)) := by
                refine (List.perm_append_comm_assoc _ _ _).trans (List.Perm.append_left _ ?_)
                rw [← List.append_assoc, ← kl_append]
                refine List.Perm.append_right _ (kl_perm ?_)
                have h3 := perm_without (ks := without (s.ow.map (·.1)) (tags sa ent.pin)) (T := lent sa ent.pin) (hnds.sublist without_sub) (List.nodup_append.1 hTL).2.1 fun t ht => by
                  have h5 := lent_look hx t ht
                  obtain ⟨b, hb⟩ := h5
                  have h6 := look_key hb
                  rw [how] at h6
                  refine List.mem_filter.2 ⟨h6, ?_⟩
                  simp only [List.contains_eq_mem, Bool.not_eq_true', decide_eq_false_iff_not]
                  intro h7
                  exact (List.nodup_append.1 hTL).2.2 t h7 t ht rfl
                rw [without_without] at h3
                refine (List.Perm.symm ?_)
                rw [how]
                refine h3.trans (List.Perm.append_left _ (List.Perm.of_eq ?_))
                refine List.filter_congr fun y _ => ?_
                simp only [List.contains_eq_mem, List.mem_append]
                by_cases h8 : y ∈ tags sa ent.pin <;> by_cases h9 : y ∈ lent sa ent.pin <;> simp [h8, h9]
              exact h1.perm h2.symm
            | false =>
              rw [hfl] at hs0
              simp only [cond_false] at hs0
              obtain ⟨q1, q2, q3, q4, q5⟩ := freezeAll_sound hr hle hnid1 hF1 hs0
              refine ⟨F1, F2, hle2, hle.trans hle2, hnid1, rfl, q1, hres, ?_, q3, q4, q5⟩
              rw [q2, without_without, ← how]
              exact hH2
          obtain ⟨Fx, F3, hlex, hle3, hnidx, hnid3, hr0, hres3, hH3, hn0, hnp0, hnw0⟩ := hmid
          generalize hpg : ((tags sa ent.pin).filter fun t => !((backT τ ent.pout).contains t) || t == NT) ++ (newK ent.pout).map τ = pg at h0
          let ι3 : Gh := fun t => match pickK (ent.pout.map (·.1)) τ t with
            | some k => ι2 k
            | none => ι t
          have hτn : ((ent.pout.map (·.1)).map τ).Nodup := by
            have := nodupB_nodup hc5
            simpa [List.map_map, Function.comp_def] using this
          have hι3 : ∀ k ∈ ent.pout.map (·.1), ι3 (τ k) = ι2 k := fun k hk => by
            show (match pickK (ent.pout.map (·.1)) τ (τ k) with | some k => ι2 k | none => ι (τ k)) = _
            rw [pickK_some hτn hk]
          have hι3' : ∀ t, t ∉ (ent.pout.map (·.1)).map τ → ι3 t = ι t := fun t ht => by
            show (match pickK (ent.pout.map (·.1)) τ t with | some k => ι2 k | none => ι t) = _
            rw [pickK_none ht]
          have hτNT : τ NT = NT := by rw [← hτ]; exact outTag_nt
          -- keys that are handed back keep their address
          have hback : ∀ k ∈ ent.pout.map (·.1), 1000 ≤ k → k ≠ NT → k < SB → (ι2 k).1 = (ι (τ k)).1 := fun k hk h1 h2 hsb => by
            rw [hio k hk h1 h2 hsb]
            have h3 := List.all_eq_true.1 hc4'
            obtain ⟨q, hq, rfl⟩ := List.mem_map.1 hk
            have h4 := h3 q hq
            have e1 : Nat.blt q.1 1000 = false := by cases hb : Nat.blt q.1 1000 with
              | false => rfl
              | true => rw [Nat.blt_eq] at hb; omega
            have e2 : (q.1 == NT) = false := by simpa using h2
            simp only [e1, e2, sb_ble hsb, Bool.false_or, Bool.and_eq_true] at h4
            obtain ⟨h5, h6⟩ := h4
            have h5 : q.1 < NT := by simpa [Nat.blt_eq] using h5
            have hsl : sa.sl (q.1 - 1000) = argd.getD (q.1 - 1000) .u := by subst hsa; rfl
            have htau : τ q.1 = match argd.getD (q.1 - 1000) .u with | .op t _ => t | .own t => t | .clov _ t _ => t | _ => 0 := by
              rw [← hτ, outTag_low hsb]
              unfold outTag0
              rw [e1, e2]
              rfl
            have hne : NT < NTR := by decide
            have hcnd : ∀ t, ((nkp sa.np (q.1 - 1000) || t == (q.1 - 1000)) && !((q.1 - 1000) == NT) && !(Nat.ble NTR (q.1 - 1000))) = true := fun t => by
              have g1 : nkp sa.np (q.1 - 1000) = true := by rw [hsnp, nkp_iff]; omega
              have g2 : ((q.1 - 1000) == NT) = false := by simp; omega
              have g3 : (Nat.ble NTR (q.1 - 1000)) = false := by
                cases hb : Nat.ble NTR (q.1 - 1000) with
                | false => rfl
                | true => rw [Nat.ble_eq] at hb; omega
              rw [g1, g2, g3]
              rfl
            revert h6 htau
            rw [← hsl]
            intro h6 htau
            cases hd : sa.sl (q.1 - 1000) with
            | own t =>
              rw [hd] at htau
              rw [htau, reG_ref (o := 0) (hcnd t) (.inl hd)]
            | op t o =>
              rw [hd] at htau
              rw [htau, reG_ref (o := o) (hcnd t) (.inr (.inl hd))]
            | clov f t cs =>
              rw [hd] at htau
              rw [htau, reG_ref (o := 0) (hcnd t) (.inr (.inr ⟨_, _, hd⟩))]
            | _ => rw [hd] at h6; simp [D.isRef] at h6
          have hkk : ∀ k ∈ ent.pout.map (·.1), (1000 ≤ k ∧ k ≠ NT ∧ k < SB) ∨ τ k ∈ pg := fun k hk => by
            by_cases e : k = NT
            · right
              subst e
              rw [hτNT, ← hpg]
              refine List.mem_append_left _ (List.mem_filter.2 ⟨?_, by simp⟩)
              have h3 := List.all_eq_true.1 hc4
              have := h3 NT (by
                refine List.mem_map.2 ⟨NT, List.mem_filter.2 ⟨hk, ?_⟩, hτNT⟩
                have h1 : Nat.blt NT 1000 = false := by decide
                have h2 : Nat.blt NT SB = true := by decide
                rw [h1, h2]; rfl)
              simpa using this
            · by_cases e3 : SB ≤ k
              · right
                rw [← hpg]
                refine List.mem_append_right _ (List.mem_map.2 ⟨k, List.mem_filter.2 ⟨hk, ?_⟩, rfl⟩)
                rw [Nat.ble_eq_true_of_le e3, Bool.or_true]
              · by_cases e2 : 1000 ≤ k
                · exact .inl ⟨e2, e, by omega⟩
                · right
                  rw [← hpg]
                  refine List.mem_append_right _ (List.mem_map.2 ⟨k, List.mem_filter.2 ⟨hk, ?_⟩, rfl⟩)
                  rw [Bool.or_eq_true, Nat.blt_eq]; left; omega
          have hsame : ∀ t, t ∉ pg → (ι3 t).1 = (ι t).1 := fun t ht => by
            by_cases hin : t ∈ (ent.pout.map (·.1)).map τ
            · obtain ⟨k, hk, rfl⟩ := List.mem_map.1 hin
              rw [hι3 k hk]
              rcases hkk k hk with h1 | h1
              · exact hback k hk h1.1 h1.2.1 h1.2.2
              · exact absurd h1 ht
            · rw [hι3' t hin]
          let ι4 : Gh := fun t => if t ∈ pg then ι3 t else ι t
          have hr1 : Rel Fx ι4 (purgeAll s0 pg) ρ := purgeAll_rel hr0 fun t ht => if_neg ht
          have hr2 := hr1.fewer fun p => !((backT τ ent.pout).contains p.1)
          have hk2 : ((purgeAll s0 pg).ow.filter fun p => !((backT τ ent.pout).contains p.1)).map (·.1) = without (without (s0.ow.map (·.1)) pg) (backT τ ent.pout) := by
            have : ((purgeAll s0 pg).ow.filter fun p => !((backT τ ent.pout).contains p.1)).map (·.1) = ((purgeAll s0 pg).ow.map (·.1)).filter fun k => !((backT τ ent.pout).contains k) := by rw [List.filter_map]; rfl
            rw [this, purgeAll_keys]
            rfl
          have hτpg : ∀ t ∈ (ent.pout.map (·.1)).map τ, t ∈ pg ∨ t ∈ backT τ ent.pout := fun t ht => by
            obtain ⟨k, hk, rfl⟩ := List.mem_map.1 ht
            rcases hkk k hk with h1 | h1
            · right
              refine List.mem_map.2 ⟨k, List.mem_filter.2 ⟨hk, ?_⟩, rfl⟩
              have : Nat.blt k 1000 = false := by cases hb : Nat.blt k 1000 with
                | false => rfl
                | true => rw [Nat.blt_eq] at hb; omega
              have h2 : Nat.blt k SB = true := by rw [Nat.blt_eq]; exact h1.2.2
              rw [this, h2]; rfl
            · exact .inl h1
          have hrest : ∀ t ∈ ((purgeAll s0 pg).ow.filter fun p => !((backT τ ent.pout).contains p.1)).map (·.1), t ∉ pg ∧ t ∉ (ent.pout.map (·.1)).map τ := fun t ht => by
            rw [hk2] at ht
            obtain ⟨h1, h2⟩ := List.mem_filter.1 ht
            obtain ⟨h3, h4⟩ := List.mem_filter.1 h1
            simp only [List.contains_eq_mem, Bool.not_eq_true', decide_eq_false_iff_not] at h2 h4
            refine ⟨h4, fun h5 => ?_⟩
            rcases hτpg t h5 with h6 | h6
            · exact h4 h6
            · exact h2 h6
          have hr3 := hr2.same1 (ι' := ι3) (fun t => by
            show _ = (if t ∈ pg then ι3 t else ι t).1
            split
            · rfl
            · rename_i h; exact hsame t h) fun q hq => by
            have := (hrest q.1 (List.mem_map.2 ⟨q, hq, rfl⟩)).1
            show _ = if q.1 ∈ pg then ι3 q.1 else ι q.1
            rw [if_neg this, hι3' _ (hrest q.1 (List.mem_map.2 ⟨q, hq, rfl⟩)).2]
          have hr4 : Rel F3 ι3 ⟨(purgeAll s0 pg).n, (purgeAll s0 pg).np, (purgeAll s0 pg).nw, (purgeAll s0 pg).sl, (purgeAll s0 pg).ow.filter fun p => !((backT τ ent.pout).contains p.1)⟩ ρ := by
            cases hNT : hasNT ent.pout with
            | false => exact hr3.mono hlex (by rw [hnid3, hnid2 hNT, hnid1, hnidx])
            | true =>
              refine hr3.mono' hlex fun q hq e => ?_
              have h1 := (hrest q.1 (List.mem_map.2 ⟨q, hq, rfl⟩)).2
              rw [e] at h1
              exact h1 (List.mem_map.2 ⟨NT, hasNT_iff.1 hNT, hτNT⟩)
          have hn : (purgeAll s0 pg).n = s.n ∧ (purgeAll s0 pg).np = s.np ∧ (purgeAll s0 pg).nw = s.nw := by
            obtain ⟨a, b, c⟩ := purgeAll_n (T := pg) (s := s0)
            exact ⟨a.trans hn0, b.trans hnp0, c.trans hnw0⟩
          obtain ⟨w1, w2, w3, w4⟩ := out_sound (τ := τ) (ι3 := ι3) (nb := hasNT ent.pout) (fun hnb => by have := hι3 NT (hasNT_iff.1 hnb); rwa [hτNT] at this) (fun a ha => List.all_eq_true.1 hc9 a ha) hι3 (fun a ha y hy => by
            have h1 := List.all_eq_true.1 (List.all_eq_true.1 hc10 a ha) y hy
            simp only [Bool.and_eq_true, Nat.blt_eq] at h1
            have h2 : subT a.1 y ∈ ent.pout.map (·.1) := by simpa using h1.1.1
            have h3 := hι3 _ h2
            rw [← hτ, outTag_sub h1.2 h1.1.2, hτ] at h3
            exact h3) (fun k _ e => by rw [e]; exact hτNT) hres3
          have hvs : (realK ent.pout).map (vX vs (reG ι sa)) = vs := by
            have e1 : (realK ent.pout).map (vX vs (reG ι sa)) = (realK ent.pout).map fun i => vs.getD i undef := List.map_congr_left fun k hk => by
              have := (List.mem_filter.1 hk).2
              rw [Nat.blt_eq] at this
              exact if_pos this
            rw [e1, hc3, ← hvl]
            apply List.ext_getElem?
            intro i
            rw [List.getElem?_map]
            rcases Nat.lt_or_ge i vs.length with hi | hi
            · rw [List.getElem?_range hi]
              simp [List.getD_eq_getElem?_getD, hi]
            · rw [List.getElem?_eq_none (by simp; omega), List.getElem?_eq_none hi]
              rfl
          rw [hvs] at w1
          have hkeys : (outOw τ ent.pout rr).map (·.1) = ((mkOw ent.pout rr).map (·.1)).map τ := w3
          have hsubk : ∀ t ∈ (outOw τ ent.pout rr).map (·.1), t ∈ (ent.pout.map (·.1)).map τ := fun t ht => by
            rw [hkeys] at ht
            obtain ⟨k, hk, rfl⟩ := List.mem_map.1 ht
            obtain ⟨q, hq, rfl⟩ := List.mem_map.1 hk
            exact List.mem_map.2 ⟨_, mkOw_keys q hq, rfl⟩
          have hpn : (ent.pout.map (·.1)).Nodup := by
            refine nodup_of_map hτn
          have hnod : ((outOw τ ent.pout rr).map (·.1)).Nodup := by
            rw [hkeys]
            have h1 := mkOw_nodup (x := rr) hpn
            have h2 : ∀ k ∈ (mkOw ent.pout rr).map (·.1), k ∈ ent.pout.map (·.1) := fun k hk => by
              obtain ⟨q, hq, rfl⟩ := List.mem_map.1 hk
              exact mkOw_keys q hq
            generalize (mkOw ent.pout rr).map (·.1) = l at h1 h2
            induction l with
            | nil => exact .nil
            | cons a l ih =>
              rw [List.nodup_cons] at h1
              rw [List.map_cons, List.nodup_cons]
              refine ⟨fun hin => ?_, ih h1.2 fun k hk => h2 k (List.mem_cons_of_mem _ hk)⟩
              obtain ⟨b, hb, he⟩ := List.mem_map.1 hin
              have p1 := pickK_some hτn (h2 a (by simp))
              have p2 := pickK_some hτn (h2 b (List.mem_cons_of_mem _ hb))
              rw [he, p1] at p2
              exact h1.1 ((Option.some.inj p2) ▸ hb)
          refine ⟨F3, ι3, _, ⟨(purgeAll s0 pg).n, (purgeAll s0 pg).np, (purgeAll s0 pg).nw, (purgeAll s0 pg).sl, outOw τ ent.pout rr ++ (purgeAll s0 pg).ow.filter fun p => !((backT τ ent.pout).contains p.1)⟩, hle3, ⟨hr4.len, hr4.sl, fun q hq => ?_, ?_⟩, ?_, ?_, h0, hn.1, hn.2.1, hn.2.2, fun e => ?_, fun t ht => ?_, fun t ht h1 h2 htsb => ?_⟩
          · rcases List.mem_append.1 hq with hq | hq
            · exact w2 q hq
            · exact hr4.ow q hq
          · show ((outOw τ ent.pout rr ++ _).map _).Nodup
            rw [List.map_append, List.nodup_append]
            exact ⟨hnod, hr4.nd, fun a ha b hb e => (hrest b hb).2 (e ▸ hsubk a ha)⟩
          · show Hp h' F3 (lv ι3 (outOw τ ent.pout rr ++ _) ++ L0)
            rw [lv_append, w4, List.append_assoc]
            refine hH3.sub ((List.Sublist.refl _).append (List.Sublist.append ?_ (List.Sublist.refl _)))
            rw [lv_kl, hk2, without_without]
            have e1 : kl ι3 (without (s0.ow.map (·.1)) (backT τ ent.pout ++ pg)) = kl ι (without (s0.ow.map (·.1)) (backT τ ent.pout ++ pg)) := kl_congr fun t ht => by
              refine hι3' t ?_
              rw [← without_without, ← hk2] at ht
              exact (hrest t ht).2
            rw [e1]
            refine kl_sub (without_mono fun t ht => ?_)
            by_cases hb : t ∈ backT τ ent.pout
            · exact List.mem_append_left _ hb
            · refine List.mem_append_right _ ?_
              rw [← hpg]
              refine List.mem_append_left _ (List.mem_filter.2 ⟨ht, ?_⟩)
              simp [hb]
          · rw [hv]
            exact joinD_sound w1
          · have hN : hasNT ent.pout = false := by
              have hc9 := hc8
              clear hc8
              revert hc9
              rw [e]
              cases hasNT ent.pout <;> simp
            exact hnid3.trans ((hnid2 hN).trans hnid1)
          · by_cases hin : t ∈ (ent.pout.map (·.1)).map τ
            · obtain ⟨k, hk, rfl⟩ := List.mem_map.1 hin
              rw [hι3 k hk]
              by_cases e1 : k < 1000
              · rw [← hτ, outTag_lt e1] at ht
                omega
              · by_cases e2 : k = NT
                · subst e2
                  rw [hτNT] at ht
                  omega
                · by_cases e3 : SB ≤ k
                  · have h5 := outTag_sb (d := dn) (args := argd) e3
                    rw [hτ] at h5
                    have : 1000 < SB := by decide
                    omega
                  · exact hback k hk (by omega) e2 (by omega)
            · rw [hι3' t hin]
          · refine hι3' t fun hin => ?_
            obtain ⟨k, hk, rfl⟩ := List.mem_map.1 hin
            by_cases e1 : k < 1000
            · rw [← hτ, outTag_lt e1] at h2
              omega
            · have e3 : k < SB := by
                rcases Nat.lt_or_ge k SB with h5 | h5
                · exact h5
                · exfalso
                  have h6 := outTag_sb (d := dn) (args := argd) h5
                  rw [hτ] at h6
                  obtain ⟨m1, m2⟩ := htsb h6
                  obtain ⟨q, hq, hqe⟩ := List.mem_map.1 hk
                  have h7 := List.all_eq_true.1 hc11 q hq
                  have hqb : Nat.blt q.1 SB = false := by
                    cases hb : Nat.blt q.1 SB with
                    | false => rfl
                    | true => rw [Nat.blt_eq] at hb; omega
                  rw [hqb, Bool.false_or, Bool.and_eq_true, Nat.blt_eq, hqe] at h7
                  obtain ⟨h7, h8⟩ := h7
                  have h7 : (k - SB) / 64 ∈ ent.pout.map (·.1) := by simpa using h7
                  have h9 : τ k = subT (τ ((k - SB) / 64)) ((k - SB) % 64) := by
                    have e : k = subT ((k - SB) / 64) ((k - SB) % 64) := by unfold subT; omega
                    have := outTag_sub (d := dn) (args := argd) (i := (k - SB) / 64) (y := (k - SB) % 64) h8 (by omega)
                    rw [← e, hτ] at this
                    exact this
                  have h10 : (τ k - SB) / 64 = τ ((k - SB) / 64) := by
                    rw [h9]; unfold subT; omega
                  rw [h10] at m1 m2
                  by_cases e4 : (k - SB) / 64 < 1000
                  · have h11 := outTag_lt (d := dn) (args := argd) e4
                    rw [hτ] at h11
                    omega
                  · have h3 : τ ((k - SB) / 64) ∈ backT τ ent.pout := by
                      refine List.mem_map.2 ⟨_, List.mem_filter.2 ⟨h7, ?_⟩, rfl⟩
                      have : Nat.blt ((k - SB) / 64) 1000 = false := by cases hb : Nat.blt ((k - SB) / 64) 1000 with
                        | false => rfl
                        | true => rw [Nat.blt_eq] at hb; omega
                      have h7 : Nat.blt ((k - SB) / 64) SB = true := by rw [Nat.blt_eq]; exact h8
                      rw [this, h7]; rfl
                    have h4 := List.all_eq_true.1 hc4 _ h3
                    have h5 : τ ((k - SB) / 64) ∈ tags sa ent.pin := by simpa using h4
                    obtain ⟨b, hb⟩ := (unP_tag (ι := ι) hx).1 _ h5
                    have h6 := look_key hb
                    rw [how] at h6
                    obtain ⟨q, hq, he⟩ := List.mem_map.1 h6
                    exact m1 q hq he
              have h3 : τ k ∈ backT τ ent.pout := by
                refine List.mem_map.2 ⟨k, List.mem_filter.2 ⟨hk, ?_⟩, rfl⟩
                have : Nat.blt k 1000 = false := by cases hb : Nat.blt k 1000 with
                  | false => rfl
                  | true => rw [Nat.blt_eq] at hb; omega
                have h7 : Nat.blt k SB = true := by rw [Nat.blt_eq]; exact e3
                rw [this, h7]; rfl
              have h4 := List.all_eq_true.1 hc4 _ h3
              have h5 : τ k ∈ tags sa ent.pin := by simpa using h4
              obtain ⟨b, hb⟩ := (unP_tag (ι := ι) hx).1 _ h5
              have h6 := look_key hb
              rw [how] at h6
              obtain ⟨q, hq, he⟩ := List.mem_map.1 h6
              exact ht q hq he
theorem evCall_sound {K : D → St → Option R} {f : FuncId} {xs : List Operand} {dn : Nat} (hC : CxOK P C) (hr : Rel F ι s ρ) (hm : Hp h F (lv ι s.ow ++ L0)) (h0 : evCall C s dn f (xs.map (g s)) K = some r) : (∀ args w, (callFunc f args).run P w = .ok (.enter f args) w) ∧ Ret P f (xs.map (ev ρ)) h (Post K r F ι s ρ L0 dn) :=
  evCallA_sound hC hr hm (by simp) (getD_map_g hr) h0
/-- A function value's call: what it has captured comes behind the arguments. -/
theorem evCallD_sound {K : D → St → Option R} {f : FuncId} {xs : List Operand} {ds : List D} {cs : List Value} {dn : Nat} (hC : CxOK P C) (hr : Rel F ι s ρ) (hm : Hp h F (lv ι s.ow ++ L0)) (dv : F2 (RdW F ι) ds cs) (h0 : evCall C s dn f (xs.map (g s) ++ ds) K = some r) : (∀ args w, (callFunc f args).run P w = .ok (.enter f args) w) ∧ Ret P f (xs.map (ev ρ) ++ cs) h (Post K r F ι s ρ L0 dn) := by
  refine evCallA_sound hC hr hm (by simp [forall2_len dv]) (fun i => ?_) h0
  simp only [List.getD_eq_getElem?_getD]
  rcases Nat.lt_or_ge i xs.length with hi | hi
  · rw [List.getElem?_append_left (by simpa using hi), List.getElem?_append_left (by simpa using hi), ← List.getD_eq_getElem?_getD, ← List.getD_eq_getElem?_getD]
    exact getD_map_g hr i
  · rw [List.getElem?_append_right (by simpa using hi), List.getElem?_append_right (by simpa using hi)]
    simp only [List.length_map]
    cases hd : ds[i - xs.length]? with
    | none => trivial
    | some d =>
      obtain ⟨v, h1, h2⟩ := forall2_get dv hd
      rw [h1]
      exact .of_w h2
/-- What a method is called with comes first. -/
theorem evCallM_sound {K : D → St → Option R} {f : FuncId} {xs : List Operand} {ds : List D} {cs : List Value} {dn : Nat} (hC : CxOK P C) (hr : Rel F ι s ρ) (hm : Hp h F (lv ι s.ow ++ L0)) (dv : F2 (RdW F ι) ds cs) (h0 : evCall C s dn f (ds ++ xs.map (g s)) K = some r) : (∀ args w, (callFunc f args).run P w = .ok (.enter f args) w) ∧ Ret P f (cs ++ xs.map (ev ρ)) h (Post K r F ι s ρ L0 dn) := by
  refine evCallA_sound hC hr hm (by simp [forall2_len dv]) (fun i => ?_) h0
  simp only [List.getD_eq_getElem?_getD]
  have hl := forall2_len dv
  rcases Nat.lt_or_ge i ds.length with hi | hi
  · rw [List.getElem?_append_left hi, List.getElem?_append_left (by omega)]
    cases hd : ds[i]? with
    | none => trivial
    | some d =>
      obtain ⟨v, h1, h2⟩ := forall2_get dv hd
      rw [h1]
      exact .of_w h2
  · rw [List.getElem?_append_right hi, List.getElem?_append_right (by omega), ← hl, ← List.getD_eq_getElem?_getD, ← List.getD_eq_getElem?_getD]
    exact getD_map_g hr _
theorem run_inv {x : Operand} {n : String} {T f : Nat} {v : Value} {xs : Array Operand} {ta : Array TypeId} (hv : ev ρ x = .iface T v) (hm : MtOK P T n f) (hc : ∀ args w, (callFunc f args).run P w = .ok (.enter f args) w) (w : World) : (execOp (ev ρ) ⟨dst, .call ⟨.invoke x n, xs, ta⟩, ty, p, af, gd⟩).run P w = .ok (.enter f (v :: xs.toList.map (ev ρ)).toArray) w := by
  obtain ⟨k, hk⟩ := types_succ P
  have e : #[v] ++ xs.map (ev ρ) = (v :: xs.toList.map (ev ρ)).toArray := Array.ext' (by simp)
  have e0 : (#[Value.iface T v] ++ xs.map (ev ρ))[0]? = some (.iface T v) := by simp [Array.getElem?_append]
  have e1 : (#[Value.iface T v] ++ xs.map (ev ρ)).extract 1 (#[Value.iface T v] ++ xs.map (ev ρ)).size = xs.map (ev ρ) := by
    apply Array.ext'
    simp only [Array.toList_extract, Array.toList_append, Array.toList_map, Array.size_append, Array.size_map, List.size_toArray, List.length_cons, List.length_nil, List.extract_eq_take_drop]
    simp only [List.singleton_append, List.drop_succ_cons, List.drop_zero]
    exact List.take_of_length_le (by simp)
  simp only [execOp, resolve, hv, invoke, Sem.run_bind, Sem.run_pure, Result.andThen_ok, e0, e1, callMethod]
  simp [hk, method_run hm, hc, e]
theorem run_dyn {f : FuncId} {t : Nat} {xs : Array Operand} {ta : Array TypeId} {cs : List Value} (hv : ev ρ (.tmp t) = .func (.func f) #[] cs.toArray) (hc : ∀ args w, (callFunc f args).run P w = .ok (.enter f args) w) (w : World) : (execOp (ev ρ) ⟨dst, .call ⟨.value (.tmp t), xs, ta⟩, ty, p, af, gd⟩).run P w = .ok (.enter f (xs.toList.map (ev ρ) ++ cs).toArray) w := by
  have e : xs.map (ev ρ) ++ cs.toArray = (xs.toList.map (ev ρ) ++ cs).toArray := Array.ext' (by simp)
  simp [execOp, resolve, hv, Deferred.ofValue, invoke, hc, e]
end
end Go.Proofs.YtpedmnlpccngiaaDoor.V
