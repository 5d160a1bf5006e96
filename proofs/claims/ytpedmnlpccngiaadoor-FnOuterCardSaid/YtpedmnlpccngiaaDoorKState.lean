/-
  What a slot's data says of the machine's value.
-/
import Derived.Test.YtpedmnlpccngiaaDoorKRun
set_option linter.unusedVariables false
set_option linter.unusedSimpArgs false
namespace Go.Proofs.YtpedmnlpccngiaaDoor.V
open Go K

theorem recEnc_len : ∀ (f : Fl) (fs : List Fl) (x : recT f fs), (recEnc f fs x).length = 1 + fs.length
  | _, [], _ => rfl
  | _, g :: fs, x => by simp [recEnc, recEnc_len g fs x.2]; omega
theorem enc_len : ∀ (e : E) (x : e.T), (e.enc x).length = e.sz
  | .int, _ => rfl | .u8, _ => rfl | .str, _ => rfl | .bool, _ => rfl | .attr, _ => rfl | .node, _ => rfl | .sel, _ => rfl | .hattr, _ => rfl | .np, _ => rfl
  | .rc f fs k, x => by simp [E.enc, recEnc_len, E.sz]
theorem sz_pos : ∀ (e : E), 0 < e.sz := by intro e; cases e <;> first | decide | (simp only [E.sz]; omega)

/-- Cells that read as data, in memory that nobody changes. -/
inductive Rd (F : Frz) : List D → List Value → Prop
  | nil : Rd F [] []
  | int {k n ds vs} : Rd F ds vs → Rd F (.int k n :: ds) (.int k n :: vs)
  | bool {b ds vs} : Rd F ds vs → Rd F (.bool b :: ds) (.bool b :: vs)
  | str {l ds vs} : Rd F ds vs → Rd F (.str l :: ds) (bs l :: vs)
  | niln {ds vs} : Rd F ds vs → Rd F (.nil :: ds) (.slice none 0 0 :: vs)
  | pnil {ds vs} : Rd F ds vs → Rd F (.pnil :: ds) (.pointer none :: vs)
  | lst {e : E} {xs : List e.T} {q : Option Addr} {cp : Nat} {ds vs} (cs : Nat → List Value) (hcp : xs.length ≤ cp) (h1 : ∀ i x, xs[i]? = some x → q = some ⟨blk q, offs q, none⟩ ∧ cellsF F (blk q) (offs q + i * e.sz) (cs i)) (h2 : ∀ i x, xs[i]? = some x → Rd F (e.enc x) (cs i)) (h : Rd F ds vs) : Rd F (.lst e xs :: ds) (.slice q xs.length cp :: vs)
  | fp {ds' : List D} {off B o : Nat} {cs : List Value} {ds vs} (h1 : cellsF F B o cs) (h2 : Rd F ds' cs) (h : Rd F ds vs) : Rd F (.fp ds' off :: ds) (.pointer (some ⟨B, o + off, none⟩) :: vs)
  | npN {ds vs} : Rd F ds vs → Rd F (.np none :: ds) (.pointer none :: vs)
  | npS {i B ds vs} (hB : F.nid i = some B) (h : Rd F ds vs) : Rd F (.np (some i) :: ds) (.pointer (some ⟨B, 0, none⟩) :: vs)
  | any {v ds vs} (h1 : v.oneCell' = true) (h : Rd F ds vs) : Rd F (.any :: ds) (v :: vs)
  | mnil {ds vs} : Rd F ds vs → Rd F (.mnil :: ds) (.map none :: vs)
  | gm {n b ds vs} (h1 : ∃ T z, F.m n = some (.cells #[.map (some b)] T z)) (h : Rd F ds vs) : Rd F (.gm n :: ds) (.map (some b) :: vs)
  | inil {ds vs} : Rd F ds vs → Rd F (.inil :: ds) (.nilIface :: vs)
  | fnl {ds vs} : Rd F ds vs → Rd F (.fnl :: ds) (.nilFunc :: vs)
  | err {b : Bool} {v ds vs} (h1 : if b then ∃ T u, v = .iface T u else v = .nilIface) (h : Rd F ds vs) : Rd F (.err b :: ds) (v :: vs)
  | ifc {T : TypeId} {l : List D} {cs : List Value} {ds vs} (h1 : Rd F l cs) (h : Rd F ds vs) : Rd F (.ifc T l :: ds) (.iface T (.agg cs.toArray) :: vs)
  | clo {f : FuncId} {l : List D} {cs : List Value} {ds vs} (h1 : Rd F l cs) (h : Rd F ds vs) : Rd F (.clo f l :: ds) (.func (.func f) #[] cs.toArray :: vs)
  | agg {l : List D} {cs : List Value} {ds vs} (h1 : Rd F l cs) (h : Rd F ds vs) : Rd F (.agg l :: ds) (.agg cs.toArray :: vs)

section
variable {F F' : Frz} {ds : List D} {vs : List Value} {d : D} {v : Value}
theorem Rd.mono (hr : Rd F ds vs) (hf : F.le F') : Rd F' ds vs := by
  induction hr with
  | nil => exact .nil
  | int _ ih => exact .int ih
  | bool _ ih => exact .bool ih
  | str _ ih => exact .str ih
  | niln _ ih => exact .niln ih
  | pnil _ ih => exact .pnil ih
  | npN _ ih => exact .npN ih
  | npS hB _ ih => exact .npS (hf.2.1 _ _ hB) ih
  | any h1 _ ih => exact .any h1 ih
  | mnil _ ih => exact .mnil ih
  | gm h1 _ ih => obtain ⟨T, z, h1⟩ := h1; exact .gm ⟨T, z, hf.1 _ _ h1⟩ ih
  | inil _ ih => exact .inil ih
  | fnl _ ih => exact .fnl ih
  | err h1 _ ih => exact .err h1 ih
  | ifc h1 h ih1 ih => exact .ifc ih1 ih
  | clo h1 h ih1 ih => exact .clo ih1 ih
  | lst cs hcp h1 h2 h ih2 ih => exact .lst cs hcp (fun i x hx => ⟨(h1 i x hx).1, (h1 i x hx).2.mono hf⟩) ih2 ih
  | fp h1 h2 h ih2 ih => exact .fp (h1.mono hf) ih2 ih
  | agg h1 h ih1 ih => exact .agg ih1 ih
theorem Rd.length (hr : Rd F ds vs) : vs.length = ds.length := by
  induction hr with
  | nil => rfl
  | int _ ih => simp [ih]
  | bool _ ih => simp [ih]
  | str _ ih => simp [ih]
  | niln _ ih => simp [ih]
  | pnil _ ih => simp [ih]
  | npN _ ih => simp [ih]
  | npS hB _ ih => simp [ih]
  | any h1 _ ih => simp [ih]
  | mnil _ ih => simp [ih]
  | gm h1 _ ih => simp [ih]
  | inil _ ih => simp [ih]
  | fnl _ ih => simp [ih]
  | err h1 _ ih => simp [ih]
  | ifc h1 h ih1 ih => simp [ih]
  | clo h1 h ih1 ih => simp [ih]
  | lst cs hcp h1 h2 h ih2 ih => simp [ih]
  | fp h1 h2 h ih2 ih => simp [ih]
  | agg h1 h ih1 ih => simp [ih]
theorem Rd.cons (h1 : Rd F [d] [v]) (h2 : Rd F ds vs) : Rd F (d :: ds) (v :: vs) := by
  cases h1 with
  | int _ => exact .int h2
  | bool _ => exact .bool h2
  | str _ => exact .str h2
  | niln _ => exact .niln h2
  | pnil _ => exact .pnil h2
  | npN _ => exact .npN h2
  | npS hB _ => exact .npS hB h2
  | any h1 _ => exact .any h1 h2
  | mnil _ => exact .mnil h2
  | gm h1 _ => exact .gm h1 h2
  | inil _ => exact .inil h2
  | fnl _ => exact .fnl h2
  | err h1 _ => exact .err h1 h2
  | ifc a _ => exact .ifc a h2
  | clo a _ => exact .clo a h2
  | lst cs hcp a b _ => exact .lst cs hcp a b h2
  | fp a b _ => exact .fp a b h2
  | agg a _ => exact .agg a h2
theorem Rd.head (h : Rd F (d :: ds) (v :: vs)) : Rd F [d] [v] := by
  cases h with
  | int _ => exact .int .nil
  | bool _ => exact .bool .nil
  | str _ => exact .str .nil
  | niln _ => exact .niln .nil
  | pnil _ => exact .pnil .nil
  | npN _ => exact .npN .nil
  | npS hB _ => exact .npS hB .nil
  | any h1 _ => exact .any h1 .nil
  | mnil _ => exact .mnil .nil
  | gm h1 _ => exact .gm h1 .nil
  | inil _ => exact .inil .nil
  | fnl _ => exact .fnl .nil
  | err h1 _ => exact .err h1 .nil
  | ifc a _ => exact .ifc a .nil
  | clo a _ => exact .clo a .nil
  | lst cs hcp a b _ => exact .lst cs hcp a b .nil
  | fp a b _ => exact .fp a b .nil
  | agg a _ => exact .agg a .nil
theorem Rd.fp_inv {ds : List D} {off : Nat} (h : Rd F [.fp ds off] [v]) : ∃ B o cs, v = .pointer (some ⟨B, o + off, none⟩) ∧ cellsF F B o cs ∧ Rd F ds cs := by
  cases h with
  | fp h1 h2 _ => exact ⟨_, _, _, rfl, h1, h2⟩
theorem Rd.tail (h : Rd F (d :: ds) (v :: vs)) : Rd F ds vs := by cases h <;> assumption
theorem Rd.iff_cons : Rd F (d :: ds) (v :: vs) ↔ Rd F [d] [v] ∧ Rd F ds vs := ⟨fun h => ⟨h.head, h.tail⟩, fun h => h.1.cons h.2⟩
theorem Rd.inv_cons (h : Rd F (d :: ds) vs) : ∃ v vs', vs = v :: vs' ∧ Rd F [d] [v] ∧ Rd F ds vs' := by
  match vs, h with
  | [], h => have := h.length; simp at this
  | v :: vs', h => exact ⟨v, vs', rfl, h.head, h.tail⟩
theorem Rd.get : ∀ {ds : List D} {vs : List Value} {i : Nat} {d : D}, Rd F ds vs → ds[i]? = some d → ∃ v, vs[i]? = some v ∧ Rd F [d] [v]
  | [], _, i, d, _, h => by simp at h
  | d0 :: ds, vs, i, d, hr, h => by
    obtain ⟨v, vs', rfl, h1, h2⟩ := hr.inv_cons
    match i with
    | 0 => simp at h; subst h; exact ⟨v, rfl, h1⟩
    | i + 1 =>
      obtain ⟨u, hu, hr⟩ := Rd.get h2 (by simpa using h)
      exact ⟨u, by simpa using hu, hr⟩
theorem Rd.take : ∀ {ds : List D} {vs : List Value} (n : Nat), Rd F ds vs → Rd F (ds.take n) (vs.take n)
  | _, _, 0, _ => .nil
  | [], vs, n + 1, h => by cases h; exact .nil
  | d :: ds, vs, n + 1, h => by
    obtain ⟨v, vs', rfl, h1, h2⟩ := h.inv_cons
    exact h1.cons (h2.take n)
theorem Rd.drop : ∀ {ds : List D} {vs : List Value} (n : Nat), Rd F ds vs → Rd F (ds.drop n) (vs.drop n)
  | _, _, 0, h => h
  | [], vs, n + 1, h => by cases h; exact .nil
  | d :: ds, vs, n + 1, h => by
    obtain ⟨v, vs', rfl, h1, h2⟩ := h.inv_cons
    exact h2.drop n
theorem Rd.append : ∀ {ds ds' : List D} {vs vs' : List Value}, Rd F ds vs → Rd F ds' vs' → Rd F (ds ++ ds') (vs ++ vs')
  | [], _, vs, _, h, h' => by cases h; exact h'
  | d :: ds, _, vs, _, h, h' => by
    obtain ⟨v, vs1, rfl, h1, h2⟩ := h.inv_cons
    exact h1.cons (h2.append h')
theorem Rd.set : ∀ {ds : List D} {vs : List Value} {i : Nat} {d : D} {v : Value}, Rd F ds vs → Rd F [d] [v] → Rd F (ds.set i d) (vs.set i v)
  | [], vs, i, d, v, h, _ => by cases h; exact .nil
  | d0 :: ds, vs, i, d, v, h, hd => by
    obtain ⟨v0, vs', rfl, h1, h2⟩ := h.inv_cons
    match i with
    | 0 => exact hd.cons h2
    | i + 1 => exact h1.cons (h2.set hd)
theorem Rd.one (hr : Rd F [d] [v]) (hp : d.plain = true) : v.oneCell' = true := by
  cases hr with
  | @err b v _ _ h1 _ =>
    cases b with
    | true => obtain ⟨T, u, rfl⟩ := h1; rfl
    | false => cases h1; rfl
  | _ => first | rfl | assumption | (simp [D.plain] at hp)
theorem Rd.ones : ∀ {ds : List D} {vs : List Value}, Rd F ds vs → ds.all D.plain = true → ∀ v ∈ vs, v.oneCell' = true
  | [], vs, h, _, v, hv => by cases h; cases hv
  | d :: ds, vs, h, hp, v, hv => by
    obtain ⟨v0, vs', rfl, h1, h2⟩ := h.inv_cons
    simp only [List.all_cons, Bool.and_eq_true] at hp
    rcases List.mem_cons.1 hv with rfl | hv
    · exact h1.one hp.1
    · exact Rd.ones h2 hp.2 v hv
theorem fl_plain : ∀ (f : Fl) (x : f.T), (f.enc x).plain = true := by intro f x; cases f <;> rfl
theorem recEnc_plain : ∀ (f : Fl) (fs : List Fl) (x : recT f fs), (recEnc f fs x).all D.plain = true
  | f, [], x => by simp [recEnc, fl_plain]
  | f, g :: fs, x => by
    have := recEnc_plain g fs x.2
    simp only [recEnc, List.all_cons, fl_plain, this, Bool.and_true]
theorem enc_plain : ∀ (e : E) (x : e.T), (e.enc x).all D.plain = true
  | .int, _ => rfl | .u8, _ => rfl | .str, _ => rfl | .bool, _ => rfl | .attr, _ => rfl | .node, _ => rfl | .sel, _ => rfl | .hattr, _ => rfl | .np, _ => rfl
  | .rc f fs k, x => by
    simp only [E.enc, List.all_append, recEnc_plain, Bool.true_and]
    simp [D.plain]

/-- A list's i-th element. -/
theorem Rd.at {e : E} {xs : List e.T} (hr : Rd F [.lst e xs] [v]) : ∃ q cp, v = .slice q xs.length cp ∧ xs.length ≤ cp ∧ ∀ i x, xs[i]? = some x → ∃ cs, q = some ⟨blk q, offs q, none⟩ ∧ cellsF F (blk q) (offs q + i * e.sz) cs ∧ Rd F (e.enc x) cs := by
  cases hr with
  | lst cs hcp h1 h2 _ => exact ⟨_, _, rfl, hcp, fun i x hx => ⟨cs i, (h1 i x hx).1, (h1 i x hx).2, h2 i x hx⟩⟩
theorem Rd.of_at {e : E} {xs : List e.T} {q : Option Addr} {cp : Nat} (hcp : xs.length ≤ cp) (h : ∀ i x, xs[i]? = some x → ∃ cs, q = some ⟨blk q, offs q, none⟩ ∧ cellsF F (blk q) (offs q + i * e.sz) cs ∧ Rd F (e.enc x) cs) : Rd F [.lst e xs] [.slice q xs.length cp] := by
  classical
  refine .lst (fun i => if hx : ∃ x, xs[i]? = some x then (h i hx.choose hx.choose_spec).choose else []) hcp (fun i x hx => ?_) (fun i x hx => ?_) .nil
  · have hh : ∃ x, xs[i]? = some x := ⟨x, hx⟩
    simp only [dif_pos hh]
    have := (h i hh.choose hh.choose_spec).choose_spec
    exact ⟨this.1, this.2.1⟩
  · have hh : ∃ x, xs[i]? = some x := ⟨x, hx⟩
    simp only [dif_pos hh]
    have := (h i hh.choose hh.choose_spec).choose_spec
    have he : hh.choose = x := Option.some.inj (hh.choose_spec.symm.trans hx)
    rw [← he]
    exact this.2.2
theorem Rd.nil_lst (e : E) : Rd F [.nil] [v] → Rd F [.lst e []] [v] := by
  intro h
  cases h with
  | niln _ => exact .lst (fun _ => []) (Nat.le_refl _) (fun i x hx => by simp at hx) (fun i x hx => by simp at hx) .nil
theorem dAttrs_rd {as1 : List Attr} (h : dAttrs d = some as1) (hr : Rd F [d] [v]) : Rd F [.lst .attr as1] [v] := by
  unfold dAttrs at h
  split at h
  · cases h; exact hr
  · cases h; exact Rd.nil_lst _ hr
  · cases h
theorem castE_eq : ∀ {e e' : E} {xs : List e.T} {ys : List e'.T}, castE e e' xs = some ys → ∃ h : e = e', h ▸ xs = ys := by
  intro e e' xs ys h
  unfold castE at h
  split at h
  · rename_i he
    cases h
    exact ⟨he, rfl⟩
  · cases h
theorem dPtr_rd {o : Option Nat} (h : dPtr d = some o) (hr : Rd F [d] [v]) : Rd F [.np o] [v] := by
  unfold dPtr at h
  split at h
  · cases h; exact hr
  · cases h
    cases hr with
    | pnil _ => exact .npN .nil
  · cases h
theorem dLst_rd {e : E} {xs : List e.T} (h : dLst e d = some xs) (hr : Rd F [d] [v]) : Rd F [.lst e xs] [v] := by
  unfold dLst at h
  split at h
  · obtain ⟨rfl, rfl⟩ := castE_eq h; exact hr
  · cases h; exact Rd.nil_lst _ hr
  · cases h
theorem Rd.to_any (hr : Rd F [d] [v]) (hp : d.plain = true) : Rd F [.any] [v] := .any (hr.one hp) .nil
theorem Rd.to_anys : ∀ {ds : List D} {vs : List Value}, Rd F ds vs → ds.all D.plain = true → Rd F (List.replicate ds.length .any) vs
  | [], vs, h, _ => by cases h; exact .nil
  | d :: ds, vs, h, hp => by
    obtain ⟨v, vs', rfl, h1, h2⟩ := h.inv_cons
    simp only [List.all_cons, Bool.and_eq_true] at hp
    exact (h1.to_any hp.1).cons (Rd.to_anys h2 hp.2)
theorem any_rd {x : Unit} (h : cond d.plain (some ()) none = some x) (hr : Rd F [d] [v]) : Rd F [.any] [v] := by
  cases hp : d.plain with
  | false => rw [hp] at h; cases h
  | true => exact hr.to_any hp
theorem fl_rd : ∀ {f : Fl} {x : f.T}, f.dec d = some x → Rd F [d] [v] → Rd F [f.enc x] [v] := by
  intro f x h hr
  unfold Fl.dec at h
  split at h
  · rename_i k k' n
    cases hk : decide (k' = k) with
    | false => rw [hk] at h; cases h
    | true =>
      rw [hk] at h
      cases h
      have : k' = k := by simpa using hk
      subst this
      exact hr
  · cases h; exact hr
  · cases h; exact hr
  · exact dPtr_rd h hr
  · cases h; exact hr
  · cases h; exact hr
  · exact dLst_rd h hr
  · exact dLst_rd h hr
  · exact dLst_rd h hr
  · exact dLst_rd h hr
  · exact dLst_rd h hr
  · exact dLst_rd h hr
  · rename_i d a b
    cases hp : (a.plain && b.plain) with
    | false => rw [hp] at h; cases h
    | true =>
      rw [hp] at h
      simp only [cond_true] at h
      rw [Bool.and_eq_true] at hp
      cases hr with
      | fp h1 h2 h3 =>
        obtain ⟨v0, vs, rfl, g0, h2⟩ := h2.inv_cons
        obtain ⟨v1, vs, rfl, g1, h2⟩ := h2.inv_cons
        exact .fp h1 ((dLst_rd h g0).cons ((g1.to_any hp.1).cons (h2.to_anys (by simp [hp.2])))) h3
  · rename_i a b
    cases hp : (a.plain && b.plain) with
    | false => rw [hp] at h; cases h
    | true =>
      rw [Bool.and_eq_true] at hp
      cases hr with
      | fp h1 h2 h3 =>
        obtain ⟨v0, vs, rfl, g0, h2⟩ := h2.inv_cons
        obtain ⟨v1, vs, rfl, g1, h2⟩ := h2.inv_cons
        exact .fp h1 (g0.cons ((g1.to_any hp.1).cons (h2.to_anys (by simp [hp.2])))) h3
  · cases h; exact hr
  · cases h; exact hr
  · exact any_rd h hr
  · rename_i f f' d
    cases hp : decide (f' = f) with
    | false => rw [hp] at h; cases h
    | true =>
      rw [hp] at h
      simp only [cond_true] at h
      have : f' = f := by simpa using hp
      subst this
      cases hr with
      | clo h1 h2 =>
        obtain ⟨v0, vs, rfl, g0, h3⟩ := h1.inv_cons
        obtain ⟨v1, vs, rfl, g1, h4⟩ := h3.inv_cons
        cases g1 with
        | fp a b c =>
          obtain ⟨v2, vs2, rfl, g2, b⟩ := b.inv_cons
          cases b
          cases h4
          exact .clo (g0.cons (.fp a (dLst_rd h g2) c)) h2
  · cases h
theorem rec_rd : ∀ {f : Fl} {fs : List Fl} {k : Nat} {ds : List D} {vs : List Value} {x : recT f fs}, recDec f fs k ds = some x → Rd F ds vs → Rd F (recEnc f fs x ++ List.replicate k .any) vs
  | f, [], k, d :: ds, vs, x, h, hr => by
    simp only [recDec] at h
    cases hp : (ds.length == k && ds.all D.plain) with
    | false => rw [hp] at h; cases h
    | true =>
      rw [hp] at h
      simp only [cond_true] at h
      rw [Bool.and_eq_true, beq_iff_eq] at hp
      obtain ⟨v, vs', rfl, h1, h2⟩ := hr.inv_cons
      rw [← hp.1]
      exact (fl_rd h h1).cons (h2.to_anys hp.2)
  | f, g :: fs, k, d :: ds, vs, x, h, hr => by
    simp only [recDec] at h
    cases h1 : f.dec d with
    | none => rw [h1] at h; cases h
    | some a =>
      rw [h1] at h
      simp only at h
      cases h2 : recDec g fs k ds with
      | none => rw [h2] at h; cases h
      | some b =>
        rw [h2] at h
        cases h
        obtain ⟨v, vs', rfl, g1, g2⟩ := hr.inv_cons
        exact (fl_rd h1 g1).cons (rec_rd h2 g2)
  | _, [], _, [], _, _, h, _ => by cases h
  | _, _ :: _, _, [], _, _, h, _ => by cases h
theorem byteI_eq {n : Int} {c : UInt8} (h : byteI n = some c) : (c.toNat : Int) = n := by
  unfold byteI at h
  split at h
  · rename_i hn
    cases h
    rw [UInt8.toNat_ofNat']
    omega
  · cases h
theorem dec_rd : ∀ {e : E} {ds : List D} {vs : List Value} {x : e.T}, e.dec ds = some x → Rd F ds vs → Rd F (e.enc x) vs := by
  intro e ds vs x h hr
  unfold E.dec at h
  split at h
  · cases h; exact hr
  · have := byteI_eq h
    simp only [E.enc, this]
    exact hr
  · cases h; exact hr
  · cases h; exact hr
  · cases h; exact hr
  · rename_i k tg tx d z
    cases hd : dAttrs d with
    | none => rw [hd] at h; cases h
    | some as1 =>
      rw [hd] at h
      cases h
      obtain ⟨v0, vs, rfl, h0, hr⟩ := hr.inv_cons
      obtain ⟨v1, vs, rfl, h1, hr⟩ := hr.inv_cons
      obtain ⟨v2, vs, rfl, h2, hr⟩ := hr.inv_cons
      obtain ⟨v3, vs, rfl, h3, hr⟩ := hr.inv_cons
      exact h0.cons (h1.cons (h2.cons ((dAttrs_rd hd h3).cons hr)))
  · cases h; exact hr
  · cases h; exact hr
  · obtain ⟨v, vs', rfl, h1, h2⟩ := hr.inv_cons
    cases h2
    exact dPtr_rd h h1
  · exact rec_rd h hr
  · cases h
theorem HN.dec_rd {as1 : List HAttr} {n : HN} : ∀ {ds : List D} {vs : List Value}, HN.dec as1 ds = some n → Rd F ds vs → Rd F n.enc vs ∧ n.attrs = as1 := by
  intro ds vs h hr
  unfold HN.dec at h
  split at h
  · rename_i a b c d e t m da nn
    cases ha : dPtr a with
    | none => rw [ha] at h; cases h
    | some a' =>
      cases hb : dPtr b with
      | none => rw [ha, hb] at h; cases h
      | some b' =>
        cases hc : dPtr c with
        | none => rw [ha, hb, hc] at h; cases h
        | some c' =>
          cases hd : dPtr d with
          | none => rw [ha, hb, hc, hd] at h; cases h
          | some d' =>
            cases he : dPtr e with
            | none => rw [ha, hb, hc, hd, he] at h; cases h
            | some e' =>
              rw [ha, hb, hc, hd, he] at h
              cases h
              obtain ⟨v0, vs, rfl, h0, hr⟩ := hr.inv_cons
              obtain ⟨v1, vs, rfl, h1, hr⟩ := hr.inv_cons
              obtain ⟨v2, vs, rfl, h2, hr⟩ := hr.inv_cons
              obtain ⟨v3, vs, rfl, h3, hr⟩ := hr.inv_cons
              obtain ⟨v4, vs, rfl, h4, hr⟩ := hr.inv_cons
              exact ⟨(dPtr_rd ha h0).cons ((dPtr_rd hb h1).cons ((dPtr_rd hc h2).cons ((dPtr_rd hd h3).cons ((dPtr_rd he h4).cons hr)))), rfl⟩
  · cases h
end

theorem KN.dec_rd {F : Frz} {l : List (Option Nat)} {n : KN} : ∀ {ds : List D} {vs : List Value}, KN.dec l ds = some n → Rd F ds vs → Rd F n.enc vs ∧ n.kids = l := by
  intro ds vs h hr
  unfold KN.dec at h
  split at h
  · rename_i a k tg tx d z p
    cases hd : dAttrs d with
    | none => rw [hd] at h; cases h
    | some as1 =>
      cases hp : dPtr p with
      | none => rw [hd, hp] at h; cases h
      | some o =>
        rw [hd, hp] at h
        cases h
        obtain ⟨v0, vs, rfl, h0, hr⟩ := hr.inv_cons
        obtain ⟨v1, vs, rfl, h1, hr⟩ := hr.inv_cons
        obtain ⟨v2, vs, rfl, h2, hr⟩ := hr.inv_cons
        obtain ⟨v3, vs, rfl, h3, hr⟩ := hr.inv_cons
        obtain ⟨v4, vs, rfl, h4, hr⟩ := hr.inv_cons
        obtain ⟨v5, vs, rfl, h5, hr⟩ := hr.inv_cons
        obtain ⟨v6, vs, rfl, h6, hr⟩ := hr.inv_cons
        exact ⟨h0.cons (h1.cons (h2.cons (h3.cons ((dAttrs_rd hd h4).cons (h5.cons ((dPtr_rd hp h6).cons hr)))))), rfl⟩
  · cases h
theorem Cl.dec_rd {F : Frz} {c : Cl} {l : List c.e.T} {n : c.R} {ds : List D} {vs : List Value} (h : c.dec l ds = some n) (hr : Rd F ds vs) : Rd F (c.enc n) vs ∧ c.xs n = l := by
  cases c with
  | h => exact HN.dec_rd h hr
  | k => exact KN.dec_rd h hr
theorem Cl.enc_len {c : Cl} (n : c.R) : (c.enc n).length = c.n := by cases c <;> rfl
theorem Cl.wx_enc {c : Cl} (n : c.R) (xs : List c.e.T) : c.enc (c.wx n xs) = c.enc n := by cases c <;> rfl
theorem Cl.wx_xs {c : Cl} (n : c.R) (xs : List c.e.T) : c.xs (c.wx n xs) = xs := by cases c <;> rfl
theorem Cl.cast_eq {c c' : Cl} {hs : List c.R} {hs' : List c'.R} (h : c.cast c' hs = some hs') : ∃ e : c = c', e ▸ hs = hs' := by
  unfold Cl.cast at h
  split at h
  · rename_i e
    cases h
    exact ⟨e, rfl⟩
  · cases h

inductive F2 {α β : Type} (R : α → β → Prop) : List α → List β → Prop
  | nil : F2 R [] []
  | cons {a : α} {b : β} {l : List α} {m : List β} (h : R a b) (t : F2 R l m) : F2 R (a :: l) (b :: m)
/-! Slots -/
abbrev Gh := Nat → Value × List Blk
def NapR (x : Value) (o : Option (Nat × Nat)) (v : Value) : Prop :=
  match o with
  | none => v = .pointer none
  | some q => ∃ (hd : List Value) (B n cp : Nat), x = .tuple hd.toArray ∧ hd[q.1]? = some (.slice (some ⟨B, 0, none⟩) n cp) ∧ v = .pointer (some ⟨B, q.2 * 3, none⟩)
/-- What a function value, or an interface's value, that holds a variable's address is. -/
def CloV (f B : Nat) (cs : List Value) (v : Value) : Prop :=
  (f < 1000000 ∧ v = .func (.func f) #[] (Value.pointer (some ⟨B, 0, none⟩) :: cs).toArray) ∨ (∃ T, f = ifN T ∧ v = .iface T (.pointer (some ⟨B, 0, none⟩))) ∨
  ∃ T c, f = mtN T c ∧ c < 16 ∧ v = .func (.method (mname c)) #[.iface T (.pointer (some ⟨B, 0, none⟩))] #[]
def RdW (F : Frz) (ι : Gh) (d : D) (v : Value) : Prop :=
  match d with
  | .u => True
  | .und => v = undef
  | .own t => v = (ι t).1
  | .op t o => ∃ B, (ι t).1 = .pointer (some ⟨B, 0, none⟩) ∧ v = .pointer (some ⟨B, o, none⟩)
  | .oe t z i o => ∃ B n cp, (ι t).1 = .slice (some ⟨B, 0, none⟩) n cp ∧ v = .pointer (some ⟨B, i * z + o, none⟩)
  | .nf i o => ∃ B, F.nid i = some B ∧ v = .pointer (some ⟨B, o, none⟩)
  | .na i => ∃ hd : List Value, (ι NT).1 = .tuple hd.toArray ∧ hd[i]? = some v
  | .nae z i j o => ∃ (hd : List Value) (B n cp : Nat), (ι NT).1 = .tuple hd.toArray ∧ hd[i]? = some (.slice (some ⟨B, 0, none⟩) n cp) ∧ v = .pointer (some ⟨B, j * z + o, none⟩)
  | .nas z i a b => ∃ (hd : List Value) (q : Option Addr) (n cp : Nat), (ι NT).1 = .tuple hd.toArray ∧ hd[i]? = some (.slice q n cp) ∧ a ≤ b ∧ b ≤ n ∧ v = .slice (if cp = a then q else q.map (·.add (a * z))) (b - a) (cp - a)
  | .aggo ds t => ∃ cs : List Value, v = .agg (cs ++ [(ι t).1]).toArray ∧ Rd F ds cs
  | .aggh t ds => ∃ cs : List Value, v = .agg ((ι t).1 :: cs).toArray ∧ Rd F ds cs
  | .clov f t ds => ∃ B cs, (ι t).1 = .pointer (some ⟨B, 0, none⟩) ∧ CloV f B cs v ∧ Rd F ds cs
  | .opb t b => ∃ B, (ι t).1 = .pointer (some ⟨B, 0, none⟩) ∧ v = if b then .pointer (some ⟨B, 0, none⟩) else .pointer none
  | .nap o => NapR (ι NT).1 o v
  | d => Rd F [d] [v]
def RdV (F : Frz) (ι : Gh) (d : D) (v : Value) : Prop :=
  match d with
  | .tup ds => ∃ vs : List Value, v = .tuple vs.toArray ∧ F2 (RdW F ι) ds vs
  | d => RdW F ι d v
/-- Nodes one behind the other, from number i on: what stands in their attribute cells, and their blocks. -/
inductive NR (F : Frz) {c : Cl} (T A : TypeId) (hole : Option Nat) : Nat → List c.R → List Value → List Blk → Prop
  | nil {i} : NR F T A hole i [] [] []
  | cons {i h hs hd hds B cs Lv L} (hB : F.nid i = some B) (hc : Rd F (c.enc h) cs) (h1 : hd.oneCell' = true) (ha : hole ≠ some i → ∃ q n cp rows, hd = .slice q n cp ∧ SlO c.e.sz A q n cp Lv rows ∧ F2 (fun x r => Rd F (c.e.enc x) r) (c.xs h) rows) (hh : hole = some i → Lv = []) (t : NR F T A hole (i + 1) hs hds L) : NR F T A hole i (h :: hs) (hd :: hds) ((B, cs ++ [hd], BT.c T) :: (Lv ++ L))
def mpD : List (Option Nat × Bool) → List D
  | [] => []
  | p :: l => .np p.1 :: .bool p.2 :: mpD l
def OwnR (F : Frz) (ι : Gh) (t : Nat) : OB → Prop
  | .nodes _ T A hs hole => t = NT ∧ ∃ hds : List Value, (ι t).1 = .tuple hds.toArray ∧ NR F T A hole 0 hs hds (ι t).2 ∧ ∀ j, hs.length ≤ j → F.nid j = none
  | .nodesR c hs => (ι t).2 = [] ∧ ∀ i h, hs[i]? = some h → ∃ B cs, F.nid i = some B ∧ cellsF F B 0 cs ∧ Rd F (c.enc h ++ [.lst c.e (c.xs h)]) cs
  | .rows e T xs => ∃ q n cp rows, (ι t).1 = .slice q n cp ∧ SlO e.sz T q n cp (ι t).2 rows ∧ F2 (fun x r => Rd F (e.enc x) r) xs rows
  | .cells T ds => ∃ B cs, (ι t).1 = .pointer (some ⟨B, 0, none⟩) ∧ (ι t).2 = [(B, cs, BT.c T)] ∧ F2 (RdW F ι) ds cs
  | .mp l => ∃ B cs, (ι t).1 = .map (some B) ∧ (ι t).2 = [(B, cs, BT.map)] ∧ Rd F (mpD l) cs
  | .sit l pos => ∃ B, (ι t).1 = .pointer (some ⟨B, 0, none⟩) ∧ (ι t).2 = [(B, [bs l, Value.int .i64 (pos : Int)], BT.sit)]
structure Rel (F : Frz) (ι : Gh) (s : St) (ρ : List Value) : Prop where
  len : ρ.length = s.n
  sl : ∀ i, RdV F ι (s.sl i) (ρ.getD i undef)
  ow : ∀ p ∈ s.ow, OwnR F ι p.1 p.2
  nd : (s.ow.map (·.1)).Nodup
def lv (ι : Gh) (ow : List (Nat × OB)) : List Blk := ow.flatMap fun p => (ι p.1).2

section
variable {F F' : Frz} {ι ι' : Gh} {s s' : St} {ρ : List Value} {d : D} {v : Value} {t : Nat}
theorem RdW.of_rd (h : Rd F [d] [v]) : RdW F ι d v := by
  cases d <;> first | exact h | trivial | cases h
theorem RdV.of_rd (h : Rd F [d] [v]) : RdV F ι d v := by
  cases d with
  | tup ds => cases h
  | _ => exact RdW.of_rd (ι := ι) h
theorem RdV.of_w (h : RdW F ι d v) : RdV F ι d v := by
  cases d with
  | tup ds => cases h
  | _ => exact h
theorem RdW.to_rd (h : RdW F ι d v) (hp : d.plain = true) : Rd F [d] [v] := by
  cases d <;> first | exact h | (simp [D.plain] at hp)
theorem RdV.to_w (h : RdV F ι d v) (hp : ∀ ds, d ≠ .tup ds) : RdW F ι d v := by
  cases d <;> first | exact h | exact absurd rfl (hp _)
theorem RdV.to_rd (h : RdV F ι d v) (hp : d.plain = true) : Rd F [d] [v] := (h.to_w (fun ds e => by subst e; simp [D.plain] at hp)).to_rd hp
theorem RdW.mono (h : RdW F ι d v) (hf : F.le F') : RdW F' ι d v := by
  cases d <;> first | exact Rd.mono h hf | exact h | (obtain ⟨B, h1, h2⟩ := h; exact ⟨B, hf.2.1 _ _ h1, h2⟩) | (obtain ⟨cs, h1, h2⟩ := h; exact ⟨cs, h1, h2.mono hf⟩) | (obtain ⟨B, cs, h1, h2, h3⟩ := h; exact ⟨B, cs, h1, h2, h3.mono hf⟩)
theorem forall2_imp {α β : Type} {R R' : α → β → Prop} (hi : ∀ a b, R a b → R' a b) : ∀ {l : List α} {m : List β}, F2 R l m → F2 R' l m
  | _, _, .nil => .nil
  | _, _, .cons h t => .cons (hi _ _ h) (forall2_imp hi t)
theorem RdV.mono (h : RdV F ι d v) (hf : F.le F') : RdV F' ι d v := by
  cases d with
  | tup ds => obtain ⟨vs, h1, h2⟩ := h; exact ⟨vs, h1, forall2_imp (fun _ _ h => h.mono hf) h2⟩
  | _ => exact .of_w ((RdV.to_w h (fun _ e => by cases e)).mono hf)
theorem NR.mono {c : Cl} {T A : TypeId} {hole : Option Nat} (hf : F.le F') : ∀ {i : Nat} {hs : List c.R} {hds : List Value} {L : List Blk}, NR F T A hole i hs hds L → NR F' T A hole i hs hds L
  | _, _, _, _, .nil => .nil
  | _, _, _, _, .cons hB hc h1 ha hh t => .cons (hf.2.1 _ _ hB) (hc.mono hf) h1 (fun hn => by obtain ⟨q, n, cp, rows, a, b, c⟩ := ha hn; exact ⟨q, n, cp, rows, a, b, forall2_imp (fun _ _ h => h.mono hf) c⟩) hh (NR.mono hf t)
def OB.isN : OB → Bool
  | .nodes _ _ _ _ _ => true
  | _ => false
theorem OwnR.mono {b : OB} (h : OwnR F ι t b) (hf : F.le F') (hn : b.isN = true → F'.nid = F.nid) : OwnR F' ι t b := by
  cases b with
  | nodes c T A hs hole =>
    obtain ⟨h0, hds, h1, h2, h3⟩ := h
    exact ⟨h0, hds, h1, h2.mono hf, by rw [hn rfl]; exact h3⟩
  | nodesR c hs =>
    exact ⟨h.1, fun i x hx => by obtain ⟨B, cs, a, b, c⟩ := h.2 i x hx; exact ⟨B, cs, hf.2.1 _ _ a, b.mono hf, c.mono hf⟩⟩
  | rows e T xs =>
    obtain ⟨q, n, cp, rows, h1, h2, h3⟩ := h
    exact ⟨q, n, cp, rows, h1, h2, forall2_imp (fun _ _ h => h.mono hf) h3⟩
  | cells T ds =>
    obtain ⟨B, cs, h1, h2, h3⟩ := h
    exact ⟨B, cs, h1, h2, forall2_imp (fun _ _ h => h.mono hf) h3⟩
  | mp l =>
    obtain ⟨B, cs, h1, h2, h3⟩ := h
    exact ⟨B, cs, h1, h2, h3.mono hf⟩
  | sit l pos => exact h
theorem Rel.mono (h : Rel F ι s ρ) (hf : F.le F') (hn : F'.nid = F.nid) : Rel F' ι s ρ := ⟨h.len, fun i => (h.sl i).mono hf, fun p hp => (h.ow p hp).mono hf fun _ => hn, h.nd⟩
theorem OwnR.isN {b : OB} (h : OwnR F ι t b) (hb : b.isN = true) : t = NT := by
  cases b with
  | nodes c T A hs hole => exact h.1
  | _ => cases hb
theorem Rel.mono' (h : Rel F ι s ρ) (hf : F.le F') (hn : ∀ p ∈ s.ow, p.1 ≠ NT) : Rel F' ι s ρ := ⟨h.len, fun i => (h.sl i).mono hf, fun p hp => (h.ow p hp).mono hf fun hb => absurd ((h.ow p hp).isN hb) (hn p hp), h.nd⟩
theorem forall2_len {α β : Type} {R : α → β → Prop} : ∀ {l : List α} {m : List β}, F2 R l m → m.length = l.length
  | _, _, .nil => rfl
  | _, _, .cons _ t => by simp [forall2_len t]
theorem forall2_get {α β : Type} {R : α → β → Prop} : ∀ {l : List α} {m : List β} {i : Nat} {a : α}, F2 R l m → l[i]? = some a → ∃ b, m[i]? = some b ∧ R a b
  | _, _, _, _, .nil, h => by simp at h
  | _, _, 0, a, .cons h t, ha => by simp at ha; subst ha; exact ⟨_, rfl, h⟩
  | _, _, i + 1, a, .cons h t, ha => by
    obtain ⟨b, hb, hr⟩ := forall2_get (i := i) t (by simpa using ha)
    exact ⟨b, by simpa using hb, hr⟩
theorem look_mem {b : OB} (h : s.look t = some b) : (t, b) ∈ s.ow := by
  unfold St.look at h
  cases hf : s.ow.find? (fun p => p.1 == t) with
  | none => rw [hf] at h; cases h
  | some p =>
    rw [hf] at h
    have h1 := List.find?_some hf
    simp at h1
    cases h
    rw [← h1]
    exact List.mem_of_find?_eq_some hf
theorem Rel.look {b : OB} (hr : Rel F ι s ρ) (h : s.look t = some b) : OwnR F ι t b := hr.ow _ (look_mem h)
theorem lv_mem {b : OB} (h : s.look t = some b) {p : Blk} (hp : p ∈ (ι t).2) : p ∈ lv ι s.ow := List.mem_flatMap.2 ⟨_, look_mem h, hp⟩
theorem Rel.ev (hr : Rel F ι s ρ) (t : Nat) : RdV F ι (s.sl t) (ev ρ (.tmp t)) := hr.sl t
theorem ofVal_rd : ∀ (v : Value), RdW F ι (ofVal v) v
  | .int k n => .int .nil
  | .bool b => .bool .nil
  | .string s => by
    have : Value.string s = bs s.data.toList := by simp [bs]
    rw [this]
    have h2 : ofVal (bs s.data.toList) = .str s.data.toList := by simp [ofVal, bs]
    rw [h2]
    exact Rd.str .nil
  | .slice none 0 0 => .niln .nil
  | .pointer none => .pnil .nil
  | .map none => .mnil .nil
  | .nilIface => Rd.inil .nil
  | .nilFunc => Rd.fnl .nil
  | .slice (some _) _ _ => trivial
  | .slice none (_ + 1) _ => trivial
  | .slice none 0 (_ + 1) => trivial
  | .pointer (some _) => trivial
  | v => by
    unfold ofVal
    split <;> first | trivial | exact Rd.int .nil | exact Rd.bool .nil | exact Rd.niln .nil | exact Rd.pnil .nil | exact Rd.mnil .nil | exact Rd.inil .nil | exact Rd.fnl .nil | skip
    rename_i s
    have : Value.string s = bs s.data.toList := by simp [bs]
    rw [this]
    exact Rd.str .nil
theorem g_rd (hr : Rel F ι s ρ) : ∀ x : Operand, RdV F ι (g s x) (ev ρ x)
  | .tmp t => hr.sl t
  | .const v => .of_w (ofVal_rd v)
  | .global _ => trivial
  | .func _ => .of_w (Rd.clo .nil .nil)
/-- A slot is set. -/
theorem Rel.set (hr : Rel F ι s ρ) (ht : t < s.n) (hd : RdV F ι d v) : Rel F ι (s.set t d) (ρ.set t v) :=
  ⟨by simp [St.set, hr.len], fun i => by
    simp only [St.set]
    by_cases e : i = t
    · subst e
      simp [List.getD_eq_getElem?_getD, List.getElem?_set_self (show i < ρ.length by rw [hr.len]; exact ht)]
      exact hd
    · have : (i == t) = false := by simp [e]
      rw [this]
      have h1 := hr.sl i
      simp only [List.getD_eq_getElem?_getD] at h1 ⊢
      rw [List.getElem?_set_ne (fun h => e h.symm)]
      exact h1, hr.ow, hr.nd⟩
theorem Rel.put {dst : Option Tmp} (hr : Rel F ι s ρ) (hp : s.put dst d = some s') (hd : dst ≠ none → RdV F ι d v) : Rel F ι s' (setD ρ dst v) ∧ s'.ow = s.ow ∧ s'.np = s.np ∧ s'.n = s.n ∧ s'.nw = s.nw := by
  cases dst with
  | none => cases hp; exact ⟨hr, rfl, rfl, rfl, rfl⟩
  | some t =>
    simp only [St.put] at hp
    cases hb : Nat.blt t s.n with
    | false => rw [hb] at hp; cases hp
    | true =>
      rw [hb] at hp
      cases hp
      exact ⟨hr.set (by simpa [Nat.blt_eq] using hb) (hd (by simp)), rfl, rfl, rfl, rfl⟩
/-- Only what is spoken of counts. -/
theorem RdW.purge (h : RdW F ι d v) (he : ∀ t', t' ≠ t → ι' t' = ι t') : RdW F ι' (d.purge1 t) v := by
  cases d with
  | own t' =>
    simp only [D.purge1]
    by_cases e : t' = t
    · subst e; simp; trivial
    · have : (t' == t) = false := by simp [e]
      rw [this]
      show v = _
      rw [he _ e]; exact h
  | op t' o =>
    simp only [D.purge1]
    by_cases e : t' = t
    · subst e; simp; trivial
    · have : (t' == t) = false := by simp [e]
      rw [this]
      obtain ⟨B, h1, h2⟩ := h
      exact ⟨B, by rw [he _ e]; exact h1, h2⟩
  | oe t' z i o =>
    simp only [D.purge1]
    by_cases e : t' = t
    · subst e; simp; trivial
    · have : (t' == t) = false := by simp [e]
      rw [this]
      obtain ⟨B, n, cp, h1, h2⟩ := h
      exact ⟨B, n, cp, by rw [he _ e]; exact h1, h2⟩
  | na i =>
    simp only [D.purge1]
    by_cases e : NT = t
    · subst e; simp; trivial
    · have : (NT == t) = false := by simp [e]
      rw [this]
      obtain ⟨hd, h1, h2⟩ := h
      exact ⟨hd, by rw [he _ e]; exact h1, h2⟩
  | nae z i j o =>
    simp only [D.purge1]
    by_cases e : NT = t
    · subst e; simp; trivial
    · have : (NT == t) = false := by simp [e]
      rw [this]
      obtain ⟨hd, B, n, cp, h1, h2⟩ := h
      exact ⟨hd, B, n, cp, by rw [he _ e]; exact h1, h2⟩
  | nas z i a b =>
    simp only [D.purge1]
    by_cases e : NT = t
    · subst e; simp; trivial
    · have : (NT == t) = false := by simp [e]
      rw [this]
      obtain ⟨hd, q, n, cp, h1, h2⟩ := h
      exact ⟨hd, q, n, cp, by rw [he _ e]; exact h1, h2⟩
  | aggo ds t' =>
    simp only [D.purge1]
    by_cases e : t' = t
    · subst e; simp; trivial
    · have : (t' == t) = false := by simp [e]
      rw [this]
      obtain ⟨cs, h1, h2⟩ := h
      exact ⟨cs, by rw [he _ e]; exact h1, h2⟩
  | aggh t' ds =>
    simp only [D.purge1]
    by_cases e : t' = t
    · subst e; simp; trivial
    · have : (t' == t) = false := by simp [e]
      rw [this]
      obtain ⟨cs, h1, h2⟩ := h
      exact ⟨cs, by rw [he _ e]; exact h1, h2⟩
  | clov f t' ds =>
    simp only [D.purge1]
    by_cases e : t' = t
    · subst e; simp; trivial
    · have : (t' == t) = false := by simp [e]
      rw [this]
      obtain ⟨B, cs, h1, h2, h3⟩ := h
      exact ⟨B, cs, by rw [he _ e]; exact h1, h2, h3⟩
  | nap o =>
    simp only [D.purge1]
    by_cases e : NT = t
    · subst e; simp; trivial
    · have : (NT == t) = false := by simp [e]
      rw [this]
      show NapR _ o v
      rw [he _ e]
      exact h
  | opb t' b =>
    simp only [D.purge1]
    by_cases e : t' = t
    · subst e; simp; trivial
    · have : (t' == t) = false := by simp [e]
      rw [this]
      obtain ⟨B, h1, h2⟩ := h
      exact ⟨B, by rw [he _ e]; exact h1, h2⟩
  | _ => exact h
theorem RdW.frz {x : D} (h : RdW F ι d v) (hx : Rd F [x] [(ι t).1]) : RdW F ι (d.frz1 t x) v := by
  cases d with
  | own t' =>
    simp only [D.frz1]
    by_cases e : t' = t
    · subst e
      have h' : v = (ι t').1 := h
      simp
      rw [h']
      exact .of_rd hx
    · have : (t' == t) = false := by simp [e]
      rw [this]
      exact h
  | op t' o =>
    simp only [D.frz1]
    by_cases e : t' = t
    · subst e
      simp only [beq_self_eq_true, cond_true]
      split
      · rename_i ds off
        obtain ⟨B, h1, h2⟩ := h
        obtain ⟨B', o', cs, e', g1, g2⟩ := Rd.fp_inv hx
        rw [h1] at e'
        have e1 : B = B' ∧ 0 = o' + off := by simpa using e'
        obtain ⟨rfl, e2⟩ := e1
        have h0 : o' = 0 ∧ off = 0 := by omega
        obtain ⟨rfl, rfl⟩ := h0
        have := Rd.fp (off := o) g1 g2 .nil
        rw [Nat.zero_add] at this
        rw [h2]
        exact this
      · trivial
    · have : (t' == t) = false := by simp [e]
      rw [this]
      exact h
  | na i =>
    simp only [D.frz1]
    by_cases e : NT = t
    · subst e; simp; trivial
    · have : (NT == t) = false := by simp [e]
      rw [this]; exact h
  | nae z i j o =>
    simp only [D.frz1]
    by_cases e : NT = t
    · subst e; simp; trivial
    · have : (NT == t) = false := by simp [e]
      rw [this]; exact h
  | nas z i a b =>
    simp only [D.frz1]
    by_cases e : NT = t
    · subst e; simp; trivial
    · have : (NT == t) = false := by simp [e]
      rw [this]; exact h
  | aggo ds t' =>
    simp only [D.frz1]
    by_cases e : t' = t
    · subst e; simp; trivial
    · have : (t' == t) = false := by simp [e]
      rw [this]; exact h
  | aggh t' ds =>
    simp only [D.frz1]
    by_cases e : t' = t
    · subst e; simp; trivial
    · have : (t' == t) = false := by simp [e]
      rw [this]; exact h
  | clov f t' ds =>
    simp only [D.frz1]
    by_cases e : t' = t
    · subst e; simp; trivial
    · have : (t' == t) = false := by simp [e]
      rw [this]; exact h
  | nap o =>
    simp only [D.frz1]
    by_cases e : NT = t
    · subst e; simp; trivial
    · have : (NT == t) = false := by simp [e]
      rw [this]; exact h
  | opb t' b =>
    simp only [D.frz1]
    by_cases e : t' = t
    · subst e; simp; trivial
    · have : (t' == t) = false := by simp [e]
      rw [this]; exact h
  | oe t' z i o =>
    simp only [D.frz1]
    by_cases e : t' = t
    · subst e; simp; trivial
    · have : (t' == t) = false := by simp [e]
      rw [this]
      exact h
  | _ => exact h
end
end Go.Proofs.YtpedmnlpccngiaaDoor.V
namespace Go.Proofs.YtpedmnlpccngiaaDoor.V
open Go K

section
variable {F F' : Frz} {ι ι' : Gh} {s s' : St} {ρ : List Value} {d : D} {v : Value} {t : Nat} {L0 : List Blk} {h : Array Obj}
theorem purge1_purge1 : ∀ d : D, (d.purge1 t).purge1 t = d.purge1 t := by
  intro d
  cases d with
  | own t' => cases hb : (t' == t) <;> simp [hb, D.purge1]
  | op t' o => cases hb : (t' == t) <;> simp [hb, D.purge1]
  | oe t' z i o => cases hb : (t' == t) <;> simp [hb, D.purge1]
  | na i => cases hb : (NT == t) <;> simp [hb, D.purge1]
  | nae z i j o => cases hb : (NT == t) <;> simp [hb, D.purge1]
  | nas z i a b => cases hb : (NT == t) <;> simp [hb, D.purge1]
  | aggo ds t' => cases hb : (t' == t) <;> simp [hb, D.purge1]
  | aggh t' ds => cases hb : (t' == t) <;> simp [hb, D.purge1]
  | clov f t' ds => cases hb : (t' == t) <;> simp [hb, D.purge1]
  | opb t' b => cases hb : (t' == t) <;> simp [hb, D.purge1]
  | nap o => cases hb : (NT == t) <;> simp [hb, D.purge1]
  | _ => rfl
theorem RdW.other (h : RdW F ι d v) (hp : d.purge1 t = d) (he : ∀ t', t' ≠ t → ι' t' = ι t') : RdW F ι' d v := by
  have := h.purge (t := t) he
  rwa [hp] at this
theorem F2.map_l {α β γ : Type} {R : α → β → Prop} {R' : γ → β → Prop} {f : α → γ} (hi : ∀ a b, R a b → R' (f a) b) : ∀ {l : List α} {m : List β}, F2 R l m → F2 R' (l.map f) m
  | _, _, .nil => .nil
  | _, _, .cons h t => .cons (hi _ _ h) (F2.map_l hi t)
theorem RdV.purge (h : RdV F ι d v) (he : ∀ t', t' ≠ t → ι' t' = ι t') : RdV F ι' (d.purge t) v := by
  cases d with
  | tup ds => obtain ⟨vs, h1, h2⟩ := h; exact ⟨vs, h1, h2.map_l fun _ _ h => h.purge he⟩
  | _ => exact .of_w ((RdV.to_w h (fun _ e => by cases e)).purge he)
theorem RdV.frz {x : D} (h : RdV F ι d v) (hx : Rd F [x] [(ι t).1]) : RdV F ι (d.frz t x) v := by
  cases d with
  | tup ds => obtain ⟨vs, h1, h2⟩ := h; exact ⟨vs, h1, h2.map_l fun _ _ h => h.frz hx⟩
  | _ => exact .of_w ((RdV.to_w h (fun _ e => by cases e)).frz hx)
theorem split_ow {b : OB} (hn : (s.ow.map (·.1)).Nodup) (hl : s.look t = some b) : ∃ A B, s.ow = A ++ (t, b) :: B ∧ (∀ p ∈ A, p.1 ≠ t) ∧ ∀ p ∈ B, p.1 ≠ t := by
  obtain ⟨A, B, h⟩ := List.append_of_mem (look_mem hl)
  rw [h, List.map_append, List.map_cons, List.nodup_append, List.nodup_cons] at hn
  refine ⟨A, B, h, fun p hp e => ?_, fun p hp e => ?_⟩
  · exact hn.2.2 p.1 (List.mem_map.2 ⟨p, hp, rfl⟩) t (by simp) e
  · exact hn.2.1.1 (e ▸ List.mem_map.2 ⟨p, hp, rfl⟩)
theorem filter_ne {A : List (Nat × OB)} (h : ∀ p ∈ A, p.1 ≠ t) : A.filter (fun p => !(p.1 == t)) = A := List.filter_eq_self.2 fun p hp => by simp [h p hp]
theorem lv_congr {A B : List (Nat × OB)} (h : A.map (·.1) = B.map (·.1)) : lv ι A = lv ι B := by
  have : ∀ A : List (Nat × OB), lv ι A = (A.map (·.1)).flatMap fun t => (ι t).2 := fun A => by simp [lv, List.flatMap_map]
  rw [this, this, h]
theorem lv_other {A : List (Nat × OB)} (h : ∀ p ∈ A, ι' p.1 = ι p.1) : lv ι' A = lv ι A := by
  unfold lv
  induction A with
  | nil => rfl
  | cons p A ih => simp only [List.flatMap_cons]; rw [h p (by simp), ih fun q hq => h q (by simp [hq])]
theorem lv_append (A B : List (Nat × OB)) : lv ι (A ++ B) = lv ι A ++ lv ι B := by simp [lv]
theorem lv_cons (p : Nat × OB) (B : List (Nat × OB)) : lv ι (p :: B) = (ι p.1).2 ++ lv ι B := by simp [lv]
theorem purge_keys (s : St) (t : Nat) : (s.purge t).ow.map (·.1) = (s.ow.filter fun p => !(p.1 == t)).map (·.1) := by simp [St.purge, List.map_map, Function.comp_def]
theorem purge_ne {p : Nat × OB} (hp : p ∈ (s.purge t).ow) : p.1 ≠ t := by
  have : p.1 ∈ (s.purge t).ow.map (·.1) := List.mem_map.2 ⟨p, hp, rfl⟩
  rw [purge_keys] at this
  obtain ⟨q, hq, he⟩ := List.mem_map.1 this
  rw [← he]
  simpa using (List.mem_filter.1 hq).2
theorem RdW.purgeC {k : Bool} (h : RdW F ι d v) (hk : k = true → (ι t).1.oneCell' = true) (he : ∀ t', t' ≠ t → ι' t' = ι t') : RdW F ι' (d.purgeC k t) v := by
  by_cases hd : d = .own t
  · subst hd
    cases k with
    | false => simp only [D.purgeC, beq_self_eq_true, cond_true, cond_false]; trivial
    | true =>
      simp only [D.purgeC, beq_self_eq_true, cond_true]
      have hv : v = (ι t).1 := h
      subst hv
      exact .of_rd (.any (hk rfl) .nil)
  · have e : d.purgeC k t = d.purge1 t := by
      cases d with
      | own t' =>
        have : (t' == t) = false := by simp; exact fun e => hd (by rw [e])
        simp only [D.purgeC, D.purge1, this, cond_false]
      | _ => rfl
    rw [e]
    exact h.purge he
theorem purge1_purgeC {k : Bool} : ∀ d : D, (d.purgeC k t).purgeC false t = d.purgeC k t := by
  intro d
  cases d with
  | own t' => cases hb : (t' == t) <;> cases k <;> simp [hb, D.purgeC, D.purge1]
  | op t' o => cases hb : (t' == t) <;> simp [hb, D.purgeC, D.purge1]
  | oe t' z i o => cases hb : (t' == t) <;> simp [hb, D.purgeC, D.purge1]
  | na i => cases hb : (NT == t) <;> simp [hb, D.purgeC, D.purge1]
  | nae z i j o => cases hb : (NT == t) <;> simp [hb, D.purgeC, D.purge1]
  | nas z i a b => cases hb : (NT == t) <;> simp [hb, D.purgeC, D.purge1]
  | aggo ds t' => cases hb : (t' == t) <;> simp [hb, D.purgeC, D.purge1]
  | aggh t' ds => cases hb : (t' == t) <;> simp [hb, D.purgeC, D.purge1]
  | clov f t' ds => cases hb : (t' == t) <;> simp [hb, D.purgeC, D.purge1]
  | opb t' b => cases hb : (t' == t) <;> simp [hb, D.purgeC, D.purge1]
  | nap o => cases hb : (NT == t) <;> simp [hb, D.purgeC, D.purge1]
  | _ => rfl
theorem look_none {s : St} (h : ∀ p ∈ s.ow, p.1 ≠ t) : s.look t = none := by
  unfold St.look
  rw [Option.map_eq_none_iff, List.find?_eq_none]
  intro p hp
  simpa using h p hp
theorem look_in {s : St} {b : OB} (h : s.look t = some b) : (t, b) ∈ s.ow := by
  unfold St.look at h
  obtain ⟨p, hp, rfl⟩ := Option.map_eq_some_iff.1 h
  have h1 := List.mem_of_find?_eq_some hp
  have h2 := List.find?_some hp
  have : p.1 = t := by simpa using h2
  rw [← this]
  exact h1
theorem OwnR.purge {b : OB} {k : Bool} {t' : Nat} (hne : t' ≠ t) (h : OwnR F ι t' b) (hk : k = true → (ι t).1.oneCell' = true) (he : ∀ t', t' ≠ t → ι' t' = ι t') : OwnR F ι' t' (b.purge k t) := by
  cases b with
  | rows e T xs =>
    obtain ⟨q, n, cp, rows, h1, h2, h3⟩ := h
    exact ⟨q, n, cp, rows, by rw [he _ hne]; exact h1, by rw [he _ hne]; exact h2, h3⟩
  | cells T ds =>
    obtain ⟨B, cs, h1, h2, h3⟩ := h
    exact ⟨B, cs, by rw [he _ hne]; exact h1, by rw [he _ hne]; exact h2, h3.map_l fun a b hab => hab.purgeC hk he⟩
  | nodes c T A hs hole =>
    obtain ⟨h0, hds, h1, h2, h3⟩ := h
    exact ⟨h0, hds, by rw [he _ hne]; exact h1, by rw [he _ hne]; exact h2, h3⟩
  | nodesR c hs => exact ⟨by rw [he _ hne]; exact h.1, h.2⟩
  | mp l =>
    obtain ⟨B, cs, h1, h2, h3⟩ := h
    exact ⟨B, cs, by rw [he _ hne]; exact h1, by rw [he _ hne]; exact h2, h3⟩
  | sit l pos =>
    obtain ⟨B, h1, h2⟩ := h
    exact ⟨B, by rw [he _ hne]; exact h1, by rw [he _ hne]; exact h2⟩
theorem Rel.purge' (hr : Rel F ι s ρ) (he : ∀ t', t' ≠ t → ι' t' = ι t') : Rel F ι' (s.purge t) ρ := by
  refine ⟨hr.len, fun i => (hr.sl i).purge he, fun p hp => ?_, ?_⟩
  · have hne := purge_ne hp
    simp only [St.purge, List.mem_map, List.mem_filter] at hp
    obtain ⟨q, ⟨hq, _⟩, rfl⟩ := hp
    refine (hr.ow q hq).purge hne (fun hg => ?_) he
    unfold St.gone at hg
    cases hl : s.look t with
    | none => rw [hl] at hg; cases hg
    | some b =>
      rw [hl] at hg
      cases b with
      | rows e T xs =>
        obtain ⟨q0, n, cp, rows, h1, _⟩ := hr.ow _ (look_in hl)
        rw [h1]; rfl
      | _ => cases hg
  · rw [purge_keys]
    exact hr.nd.sublist ((List.filter_sublist).map _)
theorem Rel.purge (hr : Rel F ι s ρ) : Rel F ι (s.purge t) ρ := hr.purge' fun _ _ => rfl
theorem filter_sub (s : St) (t : Nat) : (lv ι (s.ow.filter fun p => !(p.1 == t))).Sublist (lv ι s.ow) := by
  unfold lv
  induction s.ow with
  | nil => exact .slnil
  | cons p A ih =>
    rw [List.filter_cons]
    split
    · simp only [List.flatMap_cons]; exact (List.Sublist.refl _).append ih
    · simp only [List.flatMap_cons]; exact ih.trans (List.sublist_append_right _ _)
theorem purge_sub (s : St) (t : Nat) : (lv ι (s.purge t).ow).Sublist (lv ι s.ow) := by
  rw [lv_congr (purge_keys s t)]
  exact filter_sub s t
theorem purge_lv (he : ∀ t', t' ≠ t → ι' t' = ι t') : lv ι' (s.purge t).ow = lv ι (s.purge t).ow := lv_other fun _ hp => he _ (purge_ne hp)
theorem Hp.purge (hm : Hp h F (lv ι s.ow ++ L0)) : Hp h F (lv ι (s.purge t).ow ++ L0) := hm.sub ((purge_sub s t).append (List.Sublist.refl _))
def Gh.upd (ι : Gh) (t : Nat) (x : Value × List Blk) : Gh := fun t' => if t' = t then x else ι t'
theorem Gh.upd_ne {x : Value × List Blk} {t' : Nat} (h : t' ≠ t) : ι.upd t x t' = ι t' := by simp [Gh.upd, h]
theorem Gh.upd_same {x : Value × List Blk} : ι.upd t x t = x := by simp [Gh.upd]
/-- A block that is made. -/
theorem Rel.make {b : OB} {x : Value × List Blk} (hr : Rel F ι (s.purge t) ρ) (hb : OwnR F (ι.upd t x) t b) : Rel F (ι.upd t x) ((s.purge t).make t b) ρ ∧ lv (ι.upd t x) ((s.purge t).make t b).ow = x.2 ++ lv ι (s.purge t).ow := by
  have h2 : Rel F (ι.upd t x) ((s.purge t).purge t) ρ := hr.purge' fun t' h => Gh.upd_ne h
  have hs : (s.purge t).purge t = s.purge t := by
    simp only [St.purge, St.mk.injEq, true_and]
    refine ⟨funext fun i => ?_, ?_⟩
    · cases s.sl i with
      | tup ds => simp [D.purge, purge1_purge1]
      | own t' => cases hb : (t' == t) <;> simp [hb, D.purge, D.purge1]
      | op t' o => cases hb : (t' == t) <;> simp [hb, D.purge, D.purge1]
      | oe t' z i o => cases hb : (t' == t) <;> simp [hb, D.purge, D.purge1]
      | na i => cases hb : (NT == t) <;> simp [hb, D.purge, D.purge1]
      | nae z i j o => cases hb : (NT == t) <;> simp [hb, D.purge, D.purge1]
      | nas z i a b => cases hb : (NT == t) <;> simp [hb, D.purge, D.purge1]
      | aggo ds t' => cases hb : (t' == t) <;> simp [hb, D.purge, D.purge1]
      | aggh t' ds => cases hb : (t' == t) <;> simp [hb, D.purge, D.purge1]
      | clov f t' ds => cases hb : (t' == t) <;> simp [hb, D.purge, D.purge1]
      | opb t' b => cases hb : (t' == t) <;> simp [hb, D.purge, D.purge1]
      | nap o => cases hb : (NT == t) <;> simp [hb, D.purge, D.purge1]
      | _ => rfl
    · rw [List.filter_map, List.filter_filter]
      simp only [List.map_map, Function.comp_def]
      have hgo : (s.purge t).gone t = false := by
        unfold St.gone
        rw [look_none fun p hp => purge_ne hp]
      have hg2 : St.gone ⟨s.n, s.np, s.nw, fun i => (s.sl i).purge t, (s.ow.filter fun p => !(p.1 == t)).map fun p => (p.1, p.2.purge (s.gone t) t)⟩ t = false := hgo
      have : ∀ b : OB, (b.purge (s.gone t) t).purge false t = b.purge (s.gone t) t := fun b => by
        cases b with
        | rows e T xs => rfl
        | cells T ds => simp [OB.purge, purge1_purgeC]
        | nodes c T A hs hole => rfl
        | nodesR c hs => rfl
        | mp l => rfl
        | sit l pos => rfl
      simp [this]
      intro a b _ _
      exact (congrArg (fun k => OB.purge k t (OB.purge (s.gone t) t b)) hg2).trans (this b)
  rw [hs] at h2
  refine ⟨⟨h2.len, h2.sl, fun p hp => ?_, ?_⟩, ?_⟩
  · rcases List.mem_cons.1 hp with rfl | hp
    · exact hb
    · exact h2.ow p hp
  · simp only [St.make, List.map_cons, List.nodup_cons]
    exact ⟨fun hin => by obtain ⟨p, hp, he⟩ := List.mem_map.1 hin; exact purge_ne hp he, h2.nd⟩
  · simp only [St.make, lv_cons, Gh.upd_same]
    rw [purge_lv fun t' h => Gh.upd_ne h]
/-- A block that is changed. -/
theorem Rel.upd {b b' : OB} {x : Value × List Blk} (hr : Rel F ι s ρ) (hl : s.look t = some b) (hx : x.1 = (ι t).1) (hb : OwnR F (ι.upd t x) t b') : Rel F (ι.upd t x) (s.upd t b') ρ ∧ ∃ l1 l2, lv ι s.ow = l1 ++ ((ι t).2 ++ l2) ∧ lv (ι.upd t x) (s.upd t b').ow = l1 ++ (x.2 ++ l2) ∧ lv ι (s.purge t).ow = l1 ++ l2 := by
  have hW : ∀ d v, RdW F ι d v → RdW F (ι.upd t x) d v := fun d v h => by
    have h1 : ∀ t', (ι.upd t x t').1 = (ι t').1 := fun t' => by
      by_cases e : t' = t
      · subst e; rw [Gh.upd_same, hx]
      · rw [Gh.upd_ne e]
    cases d with
    | own t' => show v = _; rw [h1]; exact h
    | op t' o => obtain ⟨B, a, c⟩ := h; exact ⟨B, by rw [h1]; exact a, c⟩
    | oe t' z i o => obtain ⟨B, n, cp, a, c⟩ := h; exact ⟨B, n, cp, by rw [h1]; exact a, c⟩
    | na i => obtain ⟨hd, a, c⟩ := h; exact ⟨hd, by rw [h1]; exact a, c⟩
    | nae z i j o => obtain ⟨hd, B, n, cp, a, c⟩ := h; exact ⟨hd, B, n, cp, by rw [h1]; exact a, c⟩
    | nas z i x y => obtain ⟨hd, B, n, cp, a, c⟩ := h; exact ⟨hd, B, n, cp, by rw [h1]; exact a, c⟩
    | aggo ds t' => obtain ⟨cs, a, c⟩ := h; exact ⟨cs, by rw [h1]; exact a, c⟩
    | aggh t' ds => obtain ⟨cs, a, c⟩ := h; exact ⟨cs, by rw [h1]; exact a, c⟩
    | clov f t' ds => obtain ⟨B, cs, a, c⟩ := h; exact ⟨B, cs, by rw [h1]; exact a, c⟩
    | opb t' b => obtain ⟨B, a, c⟩ := h; exact ⟨B, by rw [h1]; exact a, c⟩
    | nap o => show NapR _ o v; rw [h1]; exact h
    | _ => exact h
  have hV : ∀ d v, RdV F ι d v → RdV F (ι.upd t x) d v := fun d v h => by
    cases d with
    | tup ds => obtain ⟨vs, a, c⟩ := h; exact ⟨vs, a, forall2_imp hW c⟩
    | _ => exact .of_w (hW _ _ (RdV.to_w h (fun _ e => by cases e)))
  have hO : ∀ t' b, t' ≠ t → OwnR F ι t' b → OwnR F (ι.upd t x) t' b := fun t' b hne h => by
    cases b with
    | rows e T xs => obtain ⟨q, n, cp, rows, a, c, f⟩ := h; exact ⟨q, n, cp, rows, by rw [Gh.upd_ne hne]; exact a, by rw [Gh.upd_ne hne]; exact c, f⟩
    | cells T ds => obtain ⟨B, cs, a, c, f⟩ := h; exact ⟨B, cs, by rw [Gh.upd_ne hne]; exact a, by rw [Gh.upd_ne hne]; exact c, forall2_imp hW f⟩
    | nodes cl T A hs hole => obtain ⟨h0, hds, a, c, f⟩ := h; exact ⟨h0, hds, by rw [Gh.upd_ne hne]; exact a, by rw [Gh.upd_ne hne]; exact c, f⟩
    | nodesR c hs => exact ⟨by rw [Gh.upd_ne hne]; exact h.1, h.2⟩
    | mp l => obtain ⟨B, cs, a, c, f⟩ := h; exact ⟨B, cs, by rw [Gh.upd_ne hne]; exact a, by rw [Gh.upd_ne hne]; exact c, f⟩
    | sit l pos => obtain ⟨B, a, c⟩ := h; exact ⟨B, by rw [Gh.upd_ne hne]; exact a, by rw [Gh.upd_ne hne]; exact c⟩
  obtain ⟨A, B, hs, hA, hB⟩ := split_ow hr.nd hl
  have hm : ∀ A : List (Nat × OB), (∀ p ∈ A, p.1 ≠ t) → A.map (fun p => cond (p.1 == t) (t, b') p) = A := fun A hA => by
    refine (List.map_congr_left fun p hp => ?_).trans (List.map_id _)
    have : (p.1 == t) = false := by simp [hA p hp]
    rw [this]
    rfl
  have hu : (s.upd t b').ow = A ++ (t, b') :: B := by
    simp only [St.upd, hs, List.map_append, List.map_cons, hm A hA, hm B hB]
    simp
  refine ⟨⟨hr.len, fun i => hV _ _ (hr.sl i), fun p hp => ?_, ?_⟩, lv ι A, lv ι B, ?_, ?_, ?_⟩
  · rw [hu] at hp
    rcases List.mem_append.1 hp with hp | hp
    · exact hO _ _ (hA p hp) (hr.ow p (by rw [hs]; simp [hp]))
    · rcases List.mem_cons.1 hp with rfl | hp
      · exact hb
      · exact hO _ _ (hB p hp) (hr.ow p (by rw [hs]; simp [hp]))
  · have := hr.nd
    rw [hs] at this
    rw [hu]
    simpa using this
  · rw [hs, lv_append, lv_cons]
  · rw [hu, lv_append, lv_cons, Gh.upd_same, lv_other fun p hp => Gh.upd_ne (hA p hp), lv_other fun p hp => Gh.upd_ne (hB p hp)]
  · rw [lv_congr (purge_keys s t), hs, List.filter_append, List.filter_cons, filter_ne hA, filter_ne hB]
    simp [lv_append]
theorem cellsF_row {F : Frz} {B : Nat} {e : TypeId} {fz : Nat × Nat} : ∀ (cs pre post : List Value) (off : Nat), F.m B = some (.cells (pre ++ cs ++ post).toArray e fz) → off = pre.length → cellsF F B off cs
  | [], _, _, _, _, _ => trivial
  | c :: cs, pre, post, off, hb, ho => by
    subst ho
    refine ⟨?_, cellsF_row cs (pre ++ [c]) post (pre.length + 1) (by simpa using hb) (by simp)⟩
    unfold cellF
    rw [hb]
    simp
theorem freeze_keys (s : St) (t : Nat) (d : D) : (s.freeze t d).ow.map (·.1) = (s.ow.filter fun p => !(p.1 == t)).map (·.1) := by simp [St.freeze, List.map_map, Function.comp_def]
/-- A list that is owned reads as it does, once nobody changes it. -/
theorem own_rd {e : E} {T : TypeId} {xs : List e.T} (ho : OwnR F ι t (.rows e T xs)) (hf : F.le F') (hF : ∀ p ∈ (ι t).2, isB (F'.m p.1) p) : Rd F' [.lst e xs] [(ι t).1] := by
  obtain ⟨q, n, cp, rows, h1, h2, h3⟩ := ho
  have hn : xs.length = n := by rw [h2.len, ← forall2_len h3]
  rw [h1, ← hn]
  refine Rd.of_at (by rw [hn]; exact h2.le) fun i x hx => ?_
  obtain ⟨r, hr, hrd⟩ := forall2_get h3 hx
  obtain ⟨pre, post, e1, e2⟩ := flat_split h2.row hr
  rcases h2.sh with ⟨he, _, hv⟩ | ⟨B, n', cap, spare, he, hL, _, _, _⟩
  · have hz : n = 0 := by cases he; rfl
    have := (List.getElem?_eq_some_iff.1 hx).1
    omega
  · cases he
    refine ⟨r, rfl, ?_, hrd.mono hf⟩
    obtain ⟨fz, _, this⟩ := (hF (B, rows.flatten ++ spare, BT.c T) (by rw [hL]; simp)).cells
    simp only at this
    rw [e1] at this
    exact cellsF_row r pre (post ++ spare) _ (by simpa [blk] using this) (by simp [offs, e2])
theorem OwnR.frz {b : OB} {t' : Nat} {x : D} (h : OwnR F ι t' b) (hx : Rd F [x] [(ι t).1]) : OwnR F ι t' (OB.frz t x b) := by
  cases b with
  | cells T ds =>
    obtain ⟨B, cs, a, c, f⟩ := h
    exact ⟨B, cs, a, c, f.map_l fun _ _ h => h.frz hx⟩
  | rows e T xs => exact h
  | nodes c T A hs hole => exact h
  | nodesR c hs => exact h
  | mp l => exact h
  | sit l pos => exact h
theorem add_nid {L : List Blk} : (F.add h L).nid = F.nid := rfl
/-- A block is frozen, if it then reads as something. -/
theorem Rel.freeze' {b : OB} {x : D} (hr : Rel F ι s ρ) (hm : Hp h F (lv ι s.ow ++ L0)) (hl : s.look t = some b) (hx : ∀ F', F.le F' → (∀ p ∈ (ι t).2, isB (F'.m p.1) p) → Rd F' [x] [(ι t).1]) : ∃ F', F.le F' ∧ F'.nid = F.nid ∧ Hp h F' (lv ι (s.freeze t x).ow ++ L0) ∧ Rel F' ι (s.freeze t x) ρ ∧ Rd F' [x] [(ι t).1] := by
  obtain ⟨A, B, hs, hA, hB⟩ := split_ow hr.nd hl
  have hf : s.ow.filter (fun p => !(p.1 == t)) = A ++ B := by rw [hs, List.filter_append, List.filter_cons, filter_ne hA, filter_ne hB]; simp
  have hm1 : Hp h F ((ι t).2 ++ (lv ι (A ++ B) ++ L0)) := by
    refine hm.perm ?_
    rw [hs, lv_append, lv_append, lv_cons]
    simp only [List.append_assoc]
    refine (List.perm_append_comm_assoc _ _ _)
  have hn := hm1.nodup
  rw [List.map_append, List.nodup_append] at hn
  obtain ⟨hm2, hle⟩ := hm1.freeze
  have hrd := hx (F.add h (ι t).2) hle fun p hp => add_get hm1 hp
  refine ⟨F.add h (ι t).2, hle, rfl, ?_, ⟨hr.len, fun i => ((hr.sl i).mono hle).frz hrd, fun p hp => ?_, ?_⟩, hrd⟩
  · rw [lv_congr (freeze_keys s t _), hf]
    exact hm2
  · simp only [St.freeze, List.mem_map, List.mem_filter] at hp
    obtain ⟨q, ⟨hq, _⟩, rfl⟩ := hp
    exact ((hr.ow q hq).mono hle fun _ => rfl).frz hrd
  · rw [freeze_keys]
    exact hr.nd.sublist ((List.filter_sublist).map _)
theorem cells_fp {T : TypeId} {ds : List D} (ho : OwnR F ι t (.cells T ds)) (hp : ds.all D.plain = true) (hf : F.le F') (hF : ∀ p ∈ (ι t).2, isB (F'.m p.1) p) : Rd F' [.fp ds 0] [(ι t).1] := by
  obtain ⟨B, cs, h1, h2, h3⟩ := ho
  rw [h1]
  have h4 : Rd F ds cs := by
    clear h1 h2 hF
    induction h3 with
    | nil => exact .nil
    | cons h t ih =>
      simp only [List.all_cons, Bool.and_eq_true] at hp
      exact (h.to_rd hp.1).cons (ih hp.2)
  obtain ⟨fz, _, h5⟩ := (hF (B, cs, BT.c T) (by rw [h2]; simp)).cells
  have h5 : F'.m B = some (.cells ([] ++ cs ++ []).toArray T fz) := by simpa using h5
  exact .fp (o := 0) (off := 0) (cellsF_row cs [] [] 0 h5 rfl) (h4.mono hf) .nil
theorem Rel.freeze {e : E} {T : TypeId} {xs : List e.T} (hr : Rel F ι s ρ) (hm : Hp h F (lv ι s.ow ++ L0)) (hl : s.look t = some (.rows e T xs)) : ∃ F', F.le F' ∧ F'.nid = F.nid ∧ Hp h F' (lv ι (s.freeze t (.lst e xs)).ow ++ L0) ∧ Rel F' ι (s.freeze t (.lst e xs)) ρ ∧ Rd F' [.lst e xs] [(ι t).1] :=
  hr.freeze' hm hl fun F' hf hF => own_rd (hr.look hl) hf hF
theorem Rel.freezeB {T : TypeId} {ds : List D} (hr : Rel F ι s ρ) (hm : Hp h F (lv ι s.ow ++ L0)) (hl : s.look t = some (.cells T ds)) (hp : ds.all D.plain = true) : ∃ F', F.le F' ∧ F'.nid = F.nid ∧ Hp h F' (lv ι (s.freeze t (.fp ds 0)).ow ++ L0) ∧ Rel F' ι (s.freeze t (.fp ds 0)) ρ ∧ Rd F' [.fp ds 0] [(ι t).1] :=
  hr.freeze' hm hl fun F' hf hF => cells_fp (hr.look hl) hp hf hF
/-- A list that is owned, looked at as long as nobody changes it. -/
theorem Hp.lend (hm : Hp h F (lv ι s.ow ++ L0)) {b : OB} (hn : (s.ow.map (·.1)).Nodup) (hl : s.look t = some b) : ∃ l1 l2, lv ι s.ow = l1 ++ ((ι t).2 ++ l2) ∧ Hp h (F.add h (ι t).2) (l1 ++ l2 ++ L0) ∧ F.le (F.add h (ι t).2) ∧ ∀ p ∈ (ι t).2, isB ((F.add h (ι t).2).m p.1) p := by
  obtain ⟨A, B, hs, hA, hB⟩ := split_ow hn hl
  have e : lv ι s.ow = lv ι A ++ ((ι t).2 ++ lv ι B) := by rw [hs, lv_append, lv_cons]
  have hm1 : Hp h F ((ι t).2 ++ (lv ι A ++ lv ι B ++ L0)) := by
    refine hm.perm ?_
    rw [e]
    simp only [List.append_assoc]
    exact List.perm_append_comm_assoc _ _ _
  have hn := hm1.nodup
  rw [List.map_append, List.nodup_append] at hn
  exact ⟨_, _, e, hm1.freeze.1, hm1.freeze.2, fun p hp => add_get hm1 hp⟩
end
end Go.Proofs.YtpedmnlpccngiaaDoor.V
