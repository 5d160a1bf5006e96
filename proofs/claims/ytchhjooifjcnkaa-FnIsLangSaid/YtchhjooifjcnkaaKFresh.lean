/-
  Functions that make nodes and hand none back: for their callers there are no nodes.
-/
import Derived.Test.YtchhjooifjcnkaaKBridge
namespace Go.Proofs.Ytchhjooifjcnkaa.V
open Go K

def snocT : (p : Pt) → (q : Nat × Kd) → Tup p → q.2.T → Tup (p ++ [q])
  | [], _, _, y => y
  | [_], _, x, y => (x, y)
  | _ :: b :: ps, q, x, y => (x.1, snocT (b :: ps) q x.2 y)
def initT : (p : Pt) → (q : Nat × Kd) → Tup (p ++ [q]) → Tup p
  | [], _, _ => ()
  | [_], _, x => x.1
  | _ :: b :: ps, q, x => (x.1, initT (b :: ps) q x.2)
def E.nn : E → Bool
  | .int => true | .u8 => true | .str => true | .bool => true | .attr => true | .node => true | .sel => true
  | _ => false
def Kd.nn : Kd → Bool
  | .int _ => true | .bool => true | .str => true | .lst e => e.nn | .el e => e.nn
  | _ => false
def Kd.no : Kd → Bool
  | .int _ => true | .bool => true | .str => true | .own e _ => e.nn && e.flat
  | _ => false
section
variable {F G : Frz} {ι ι' : Gh} {v : Value} {h h' : Array Obj} {L : List Blk}
theorem cellF_m (hm : ∀ b o, F.m b = some o → G.m b = some o) {a : Addr} {v : Value} (hc : cellF F a = some v) : cellF G a = some v := by
  unfold cellF at *
  cases hb : F.m a.block with
  | none => rw [hb] at hc; cases hc
  | some o => rw [hm _ _ hb]; rw [hb] at hc; exact hc
theorem cellsF_m (hm : ∀ b o, F.m b = some o → G.m b = some o) {B : Nat} : ∀ {cs : List Value} {off : Nat}, cellsF F B off cs → cellsF G B off cs
  | [], _, _ => trivial
  | _ :: _, _, ⟨h1, h2⟩ => ⟨cellF_m hm h1, cellsF_m hm h2⟩
theorem rd_lst_m {e : E} {xs : List e.T} (hm : ∀ b o, F.m b = some o → G.m b = some o) (he : ∀ (x : e.T) (vs : List Value), Rd F (e.enc x) vs → Rd G (e.enc x) vs) (h : Rd F [.lst e xs] [v]) : Rd G [.lst e xs] [v] := by
  obtain ⟨q, cp, rfl, hcp, hat⟩ := Rd.at h
  exact Rd.of_at hcp fun i x hx => by
    obtain ⟨cs, a, b, c⟩ := hat i x hx
    exact ⟨cs, a, cellsF_m hm b, he x cs c⟩
theorem rd_attr_m {x : Attr} {vs : List Value} (h : Rd F (E.attr.enc x) vs) : Rd G (E.attr.enc x) vs := by
  obtain ⟨v1, r1, rfl, h1, h⟩ := h.inv_cons
  obtain ⟨v2, r2, rfl, h2, h⟩ := h.inv_cons
  cases h
  rw [Rd.str_inv h1, Rd.str_inv h2]
  exact .str (.str .nil)
theorem rd_nn {e : E} (he : e.nn = true) (hm : ∀ b o, F.m b = some o → G.m b = some o) {x : e.T} {vs : List Value} (h : Rd F (e.enc x) vs) : Rd G (e.enc x) vs := by
  cases e with
  | int => obtain ⟨v1, r1, rfl, h1, h⟩ := h.inv_cons; cases h; rw [Rd.int_inv h1]; exact .int .nil
  | u8 => obtain ⟨v1, r1, rfl, h1, h⟩ := h.inv_cons; cases h; rw [Rd.int_inv h1]; exact .int .nil
  | str => obtain ⟨v1, r1, rfl, h1, h⟩ := h.inv_cons; cases h; rw [Rd.str_inv h1]; exact .str .nil
  | bool => obtain ⟨v1, r1, rfl, h1, h⟩ := h.inv_cons; cases h; rw [Rd.bool_inv h1]; exact .bool .nil
  | attr => exact rd_attr_m h
  | node =>
    obtain ⟨v1, r1, rfl, h1, h⟩ := h.inv_cons
    obtain ⟨v2, r2, rfl, h2, h⟩ := h.inv_cons
    obtain ⟨v3, r3, rfl, h3, h⟩ := h.inv_cons
    obtain ⟨v4, r4, rfl, h4, h⟩ := h.inv_cons
    obtain ⟨v5, r5, rfl, h5, h⟩ := h.inv_cons
    cases h
    have h4' := rd_lst_m hm (fun _ _ h => rd_attr_m h) h4
    rw [Rd.int_inv h1, Rd.str_inv h2, Rd.str_inv h3, Rd.int_inv h5]
    exact .int (.str (.str (h4'.cons (.int .nil))))
  | sel =>
    obtain ⟨v1, r1, rfl, h1, h⟩ := h.inv_cons
    obtain ⟨v2, r2, rfl, h2, h⟩ := h.inv_cons
    obtain ⟨v3, r3, rfl, h3, h⟩ := h.inv_cons
    obtain ⟨v4, r4, rfl, h4, h⟩ := h.inv_cons
    obtain ⟨v5, r5, rfl, h5, h⟩ := h.inv_cons
    obtain ⟨v6, r6, rfl, h6, h⟩ := h.inv_cons
    obtain ⟨v7, r7, rfl, h7, h⟩ := h.inv_cons
    obtain ⟨v8, r8, rfl, h8, h⟩ := h.inv_cons
    cases h
    rw [Rd.int_inv h1, Rd.int_inv h2, Rd.str_inv h3, Rd.str_inv h4, Rd.int_inv h5, Rd.int_inv h6, Rd.int_inv h7, Rd.int_inv h8]
    exact .int (.int (.str (.str (.int (.int (.int (.int .nil)))))))
  | _ => simp [E.nn] at he
theorem M1.nn {i : Nat} {k : Kd} {x : k.T} (hk : k.nn = true) (hm : ∀ b o, F.m b = some o → G.m b = some o) (h : M1 F ι i k x v) : M1 G ι' i k x v := by
  cases k with
  | int k => exact ⟨by rw [Rd.int_inv h.1]; exact Rd.int .nil, fun q hq => by simp [mk1] at hq⟩
  | bool => exact ⟨by rw [Rd.bool_inv h.1]; exact Rd.bool .nil, fun q hq => by simp [mk1] at hq⟩
  | str => exact ⟨by rw [Rd.str_inv h.1]; exact Rd.str .nil, fun q hq => by simp [mk1] at hq⟩
  | lst e => exact ⟨.of_rd (rd_lst_m hm (fun _ _ h => rd_nn hk hm h) (RdV.to_rd h.1 rfl)), fun q hq => by simp [mk1] at hq⟩
  | el e =>
    obtain ⟨cs, hv, hcs⟩ := Rd.agg_inv h.1
    exact ⟨by rw [hv]; exact Rd.agg (rd_nn hk hm hcs) .nil, fun q hq => by simp [mk1] at hq⟩
  | _ => simp [Kd.nn] at hk
theorem M1.no {i : Nat} {k : Kd} {x : k.T} (hk : k.no = true) (hm : ∀ b o, F.m b = some o → G.m b = some o) (h : M1 F ι i k x v) : M1 G ι i k x v := by
  cases k with
  | int k => exact ⟨by rw [Rd.int_inv h.1]; exact Rd.int .nil, fun q hq => by simp [mk1] at hq⟩
  | bool => exact ⟨by rw [Rd.bool_inv h.1]; exact Rd.bool .nil, fun q hq => by simp [mk1] at hq⟩
  | str => exact ⟨by rw [Rd.str_inv h.1]; exact Rd.str .nil, fun q hq => by simp [mk1] at hq⟩
  | own e T =>
    simp only [Kd.no, Bool.and_eq_true] at hk
    refine ⟨h.1, fun q hq => ?_⟩
    have := h.2 q hq
    simp only [mk1, List.mem_singleton] at hq
    subst hq
    obtain ⟨q, n, cp, rows, a, b, c⟩ := this
    exact ⟨q, n, cp, rows, a, b, forall2_imp (fun _ _ h => rd_nn hk.1 hm h) c⟩
  | _ => simp [Kd.no] at hk
theorem MP.nn {σ : Nat → Value} (hm : ∀ b o, F.m b = some o → G.m b = some o) : ∀ {p : Pt} {x : Tup p}, (p.all fun q => q.2.nn) = true → MP F ι σ p x → MP G ι' σ p x
  | [], _, _, _ => trivial
  | [_], _, hk, h => M1.nn (by simpa using hk) hm h
  | _ :: b :: ps, _, hk, h => by
    rw [List.all_cons, Bool.and_eq_true] at hk
    exact ⟨h.1.nn hk.1 hm, MP.nn hm (p := b :: ps) hk.2 h.2⟩
theorem MP.no {σ : Nat → Value} (hm : ∀ b o, F.m b = some o → G.m b = some o) : ∀ {p : Pt} {x : Tup p}, (p.all fun q => q.2.no) = true → MP F ι σ p x → MP G ι σ p x
  | [], _, _, _ => trivial
  | [_], _, hk, h => M1.no (by simpa using hk) hm h
  | _ :: b :: ps, _, hk, h => by
    rw [List.all_cons, Bool.and_eq_true] at hk
    exact ⟨h.1.no hk.1 hm, MP.no hm (p := b :: ps) hk.2 h.2⟩
theorem MP.snoc {σ : Nat → Value} {q : Nat × Kd} {y : q.2.T} (hy : M1 F ι q.1 q.2 y (σ q.1)) : ∀ {p : Pt} {x : Tup p}, MP F ι σ p x → MP F ι σ (p ++ [q]) (snocT p q x y)
  | [], _, _ => hy
  | [_], _, h => ⟨h, hy⟩
  | _ :: b :: ps, _, h => ⟨h.1, MP.snoc hy (p := b :: ps) h.2⟩
theorem MP.init {σ : Nat → Value} {q : Nat × Kd} : ∀ {p : Pt} {x : Tup (p ++ [q])}, MP F ι σ (p ++ [q]) x → MP F ι σ p (initT p q x)
  | [], _, _ => trivial
  | [_], _, h => h.1
  | _ :: b :: ps, _, h => ⟨h.1, MP.init (p := b :: ps) h.2⟩
theorem mk1_nn {i : Nat} {k : Kd} {x : k.T} (hk : k.nn = true) : (mk1 i k x).2 = [] := by cases k <;> first | rfl | (simp [Kd.nn] at hk)
theorem mkOw_nn : ∀ {p : Pt} {x : Tup p}, (p.all fun q => q.2.nn) = true → mkOw p x = []
  | [], _, _ => rfl
  | [_], _, hk => mk1_nn (by simpa using hk)
  | _ :: b :: ps, _, hk => by
    rw [List.all_cons, Bool.and_eq_true] at hk
    show _ ++ mkOw (b :: ps) _ = []
    rw [mk1_nn hk.1, mkOw_nn hk.2]
    rfl
theorem mkOw_snoc {q : Nat × Kd} : ∀ {p : Pt} {x : Tup (p ++ [q])}, ∃ y : q.2.T, mkOw (p ++ [q]) x = mkOw p (initT p q x) ++ (mk1 q.1 q.2 y).2
  | [], x => ⟨x, rfl⟩
  | [_], x => ⟨x.2, rfl⟩
  | a :: b :: ps, x => by
    obtain ⟨y, hy⟩ := mkOw_snoc (q := q) (p := b :: ps) (x := x.2)
    refine ⟨y, ?_⟩
    show (mk1 a.1 a.2 x.1).2 ++ mkOw (b :: ps ++ [q]) x.2 = ((mk1 a.1 a.2 x.1).2 ++ mkOw (b :: ps) (initT (b :: ps) q x.2)) ++ _
    rw [hy, List.append_assoc]
theorem mkOw_snoc' {q : Nat × Kd} {y : q.2.T} : ∀ {p : Pt} {x : Tup p}, mkOw (p ++ [q]) (snocT p q x y) = mkOw p x ++ (mk1 q.1 q.2 y).2
  | [], _ => rfl
  | [_], _ => rfl
  | a :: b :: ps, x => by
    show (mk1 a.1 a.2 x.1).2 ++ mkOw (b :: ps ++ [q]) (snocT (b :: ps) q x.2 y) = ((mk1 a.1 a.2 x.1).2 ++ mkOw (b :: ps) x.2) ++ _
    rw [mkOw_snoc' (p := b :: ps), List.append_assoc]
end
def frT (np : Nat) (p q : Pt) (T A : TypeId) (m : Tup (p ++ [(NT, .ns T A)]) → Option (Tup (q ++ [(NT, .ns T A)]))) : Tup p → Option (Tup q) := fun x => (m (snocT p (NT, .ns T A) x [])).map (initT q (NT, .ns T A))
theorem fresh_ok {P : Program} {f : FuncId} {np : Nat} {p q : Pt} {T A : TypeId} {m : Tup (p ++ [(NT, .ns T A)]) → Option (Tup (q ++ [(NT, .ns T A)]))} (hok : FnOK P f ⟨np, p ++ [(NT, .ns T A)], q ++ [(NT, .ns T A)], m⟩) (hp : (p.all fun q => q.2.nn && Nat.blt q.1 1000) = true) (hq : (q.all fun q => q.2.no && Nat.blt q.1 1000) = true) : FnOK P f ⟨np, p, q, frT np p q T A m⟩ := by
  intro (x : Tup p) (r : Tup q) hx F ι h L0 vargs hlen hMP hH
  have hMP : MP F ι (fun i => vargs.getD i undef) p x := hMP
  have hlen : vargs.length = (realK p).length := hlen
  have hH : Hp h F (lv ι (mkOw p x) ++ L0) := hH
  have hp1 : (p.all fun q => q.2.nn) = true := List.all_eq_true.2 fun a ha => by have := List.all_eq_true.1 hp a ha; rw [Bool.and_eq_true] at this; exact this.1
  have hq1 : (q.all fun q => q.2.no) = true := List.all_eq_true.2 fun a ha => by have := List.all_eq_true.1 hq a ha; rw [Bool.and_eq_true] at this; exact this.1
  simp only [frT] at hx
  obtain ⟨r', hr', rfl⟩ := Option.map_eq_some_iff.1 hx
  -- no nodes are known
  let F1 : Frz := ⟨F.m, fun _ => none, F.lv, (fun _ _ _ h => by cases h), (fun _ _ h => by cases h)⟩
  have hM1 : MP F1 ι0 (fun i => vargs.getD i undef) (p ++ [(NT, .ns T A)]) (snocT p (NT, .ns T A) x []) := MP.snoc (m1_ns (fun _ => rfl)) (MP.nn (F := F) (G := F1) (fun _ _ h => h) hp1 hMP)
  have hbl : ∀ (l : Pt), (l.all fun q => Nat.blt q.1 1000) = true → realK (l ++ [(NT, .ns T A)]) = realK l := fun l hl => by
    have e : Nat.blt NT 1000 = false := by decide
    simp [realK, List.filter_append, e]
  have hp2 : (p.all fun q => Nat.blt q.1 1000) = true := List.all_eq_true.2 fun a ha => by have := List.all_eq_true.1 hp a ha; rw [Bool.and_eq_true] at this; exact this.2
  have hq2 : (q.all fun q => Nat.blt q.1 1000) = true := List.all_eq_true.2 fun a ha => by have := List.all_eq_true.1 hq a ha; rw [Bool.and_eq_true] at this; exact this.2
  have hH0 : Hp h F L0 := by rw [mkOw_nn hp1] at hH; exact hH
  have hH1 : Hp h F1 (lv ι0 (mkOw (p ++ [(NT, .ns T A)]) (snocT p (NT, .ns T A) x [])) ++ L0) := by
    rw [mkOw_snoc', mkOw_nn hp1]
    have e : lv ι0 ([] ++ (mk1 NT (.ns T A) []).2) = [] := lv0
    rw [e]
    exact ⟨hH0.frz, hH0.own, hH0.sep, hH0.nodup, hH0.live⟩
  refine (hok (snocT p (NT, .ns T A) x []) r' hr' F1 ι0 h L0 vargs (by rw [hlen]; exact congrArg List.length (hbl p hp2).symm) hM1 hH1).mono ?_
  rintro v h' ⟨F2, ι2, vs, h1, _, h2, h3, hv, h4, h5⟩
  -- the nodes that were made are forgotten
  let F3 : Frz := ⟨F2.m, F.nid, F2.lv, F.inj, fun i b hb => h1.2.2 b (F.nlt i b hb)⟩
  have h3' := MP.no (F := F2) (G := F3) (fun _ _ h => h) hq1 (MP.init (p := q) h3)
  obtain ⟨y, hy⟩ := mkOw_snoc (q := (NT, Kd.ns T A)) (p := q) (x := r')
  have h4' : Hp h' F3 (lv ι2 (mkOw q (initT q (NT, .ns T A) r')) ++ L0) := by
    have : Hp h' F2 (lv ι2 (mkOw q (initT q (NT, .ns T A) r')) ++ L0) := h4.sub (by
      show List.Sublist _ (lv ι2 (mkOw (q ++ [(NT, .ns T A)]) r') ++ L0)
      rw [hy, lv_append, List.append_assoc]
      exact (List.Sublist.refl _).append (List.sublist_append_right _ _))
    exact ⟨this.frz, this.own, this.sep, this.nodup, this.live⟩
  have hvl : vs.length = (realK q).length := by rw [h2]; exact congrArg List.length (hbl q hq2)
  refine ⟨F3, ι2, vs, ⟨fun b o hb => h1.1 b o hb, fun _ _ h => h, fun b hb => h1.2.2 b hb⟩, fun _ => rfl, hvl, ?_, hv, h4', fun k hk h6 _ => ?_⟩
  · refine h3'.congr fun k hk => ?_
    obtain ⟨a, ha, rfl⟩ := List.mem_map.1 hk
    have hlt : a.1 < 1000 := by have := List.all_eq_true.1 hq2 a ha; rwa [Nat.blt_eq] at this
    simp only [vX, if_pos hlt]
  · obtain ⟨a, ha, rfl⟩ := List.mem_map.1 hk
    have hlt : a.1 < 1000 := by have := List.all_eq_true.1 hq2 a ha; rwa [Nat.blt_eq] at this
    omega
end Go.Proofs.Ytchhjooifjcnkaa.V
