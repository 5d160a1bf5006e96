/-
  Plain facts and an evaluator for what a law needs.
-/
import Derived.Test.YtkmigbicabfodaaGreatQ2
set_option linter.unusedVariables false
set_option linter.unusedSimpArgs false
namespace Go.Proofs.YtkmigbicabfodaaGreat.V
open Go K
section
variable {P:Program} {C:Cx} {R:Type} {F F' F1:Frz} {ι ι' ι1:Gh} {s s':St} {ρ:List Value} {d:D} {v:Value} {t dt:Nat} {L0:List Blk} {r:R} {dst:Option Tmp} {ty:TypeId} {p:String} {af:Array Edge} {gd:Option (Nat×Bool)} {h:Array Obj}
def M1 (F:Frz) (ι:Gh) (i:Nat) (k:Kd) (x:k.T) (v:Value):Prop:=RdV F ι (mk1 i k x).1 v∧∀ q∈(mk1 i k x).2,OwnR F ι q.1 q.2
theorem fxe_ren {i j n:Nat} (e:ι' j=ι i):∀ {f:FX} {x:f.T} {v:Value},(f = .own→ι' (subT j n)=ι (subT i n))→RdW F ι (f.enc i n x) v→RdW F ι' (f.enc j n x) v
 | .fl f,x,v,_,h => .of_rd (RdW.to_rd h (fl_plain f x))
 | .own,_,v,hs,h=>by
  have h:v=(ι (subT i n)).1:=h
  show v=(ι' (subT j n)).1
  rw [hs rfl]; exact h
 | .self,b,v,_,h=>by
  obtain ⟨B,h1,h2⟩:=h
  exact ⟨B,by rw [e]; exact h1,h2⟩
theorem subsF_own {n:Nat} {f:FX} {fs:List FX} (h:f = .own):n∈subsF n (f::fs):=by subst h; simp [subsF]
theorem subsF_tail {n k:Nat} {f:FX} {fs:List FX} (h:k∈subsF (n+1) fs):k∈subsF n (f::fs):=by cases f <;> simp [subsF,h]
theorem fx_ren {i j:Nat} (e:ι' j=ι i):∀ {n:Nat} {fs:List FX} {x:fxT fs} {cs:List Value},(∀ k∈subsF n fs,ι' (subT j k)=ι (subT i k))→F2 (RdW F ι) (fxEnc i n fs x) cs→F2 (RdW F ι') (fxEnc j n fs x) cs
 | _,[],_,_,_, .nil => .nil
 | n,[f],x,_,hs, .cons h .nil => .cons (fxe_ren e (fun hf=>hs n (subsF_own hf)) h) .nil
 | n,f::g::fs,x,_,hs, .cons h t => .cons (fxe_ren e (fun hf=>hs n (subsF_own hf)) h) (fx_ren (n:=n+1) (fs:=g::fs) e (fun k hk=>hs k (subsF_tail hk)) t)
theorem M1.ren {i j:Nat} {k:Kd} {x:k.T} {nb:Bool} (h:M1 F ι i k x v) (hA:k.noAl nb=true) (e:ι' j=ι i) (hs:∀ y∈k.subs,ι' (subT j y)=ι (subT i y)) (hj:i=NT→j=NT) (hnb:nb=true→ι' NT=ι NT):M1 F ι' j k x v:=by
 cases k with
 | hown i0 jj e' T =>
  obtain ⟨_,h2⟩:=h
  obtain ⟨q,n,cp,rows,a,b,c⟩:=h2 (i, .rows e' T x) (by simp [mk1])
  refine ⟨trivial,fun q' hq=>?_⟩
  simp only [mk1,List.mem_singleton] at hq
  subst hq
  exact ⟨q,n,cp,rows,by rw [e]; exact a,by rw [e]; exact b,c⟩
 | blkx T fs =>
  obtain ⟨h1,h2⟩:=h
  obtain ⟨B,g1,g2⟩:=h1
  obtain ⟨B',cs,a,b,c⟩:=h2 (i, .cells T (fxEnc i 0 fs x)) (by simp [mk1])
  refine ⟨⟨B,by rw [e]; exact g1,g2⟩,fun q' hq=>?_⟩
  simp only [mk1,List.mem_singleton] at hq
  subst hq
  exact ⟨B',cs,by rw [e]; exact a,by rw [e]; exact b,fx_ren e hs c⟩
 | clox f T fs es =>
  obtain ⟨h1,h2⟩:=h
  obtain ⟨B,cs0,g1,g2,g3⟩:=h1
  obtain ⟨B',cs,a,b,c⟩:=h2 (i, .cells T (fxEnc i 0 fs x.1)) (by simp [mk1])
  refine ⟨⟨B,cs0,by rw [e]; exact g1,g2,g3⟩,fun q' hq=>?_⟩
  simp only [mk1,List.mem_singleton] at hq
  subst hq
  exact ⟨B',cs,by rw [e]; exact a,by rw [e]; exact b,fx_ren e hs c⟩
 | ns cl T A =>
  obtain ⟨h1,h2⟩:=h
  obtain ⟨h0,hds,a,b,c⟩:=h2 (i, .nodes cl T A x none) (by simp [mk1])
  refine ⟨trivial,fun q' hq=>?_⟩
  simp only [mk1,List.mem_singleton] at hq
  subst hq
  exact ⟨hj h0,hds,by rw [e]; exact a,by rw [e]; exact b,c⟩
 | nsr cl =>
  obtain ⟨h1,h2⟩:=h
  obtain ⟨a,b⟩:=h2 (i, .nodesR cl x) (by simp [mk1])
  refine ⟨trivial,fun q' hq=>?_⟩
  simp only [mk1,List.mem_singleton] at hq
  subst hq
  exact ⟨by rw [e]; exact a,b⟩
 | own e' T =>
  obtain ⟨h1,h2⟩:=h
  have h1:v=(ι i).1:=h1
  obtain ⟨q,n,cp,rows,a,b,c⟩:=h2 (i, .rows e' T x) (by simp [mk1])
  refine ⟨by show v=(ι' j).1; rw [e]; exact h1,fun q' hq=>?_⟩
  simp only [mk1,List.mem_singleton] at hq
  subst hq
  exact ⟨q,n,cp,rows,by rw [e]; exact a,by rw [e]; exact b,c⟩
 | blk e' T =>
  obtain ⟨h1,h2⟩:=h
  obtain ⟨B,g1,g2⟩:=h1
  obtain ⟨B',cs,a,b,c⟩:=h2 (i, .cells T (e'.enc x)) (by simp [mk1])
  refine ⟨⟨B,by rw [e]; exact g1,g2⟩,fun q' hq=>?_⟩
  simp only [mk1,List.mem_singleton] at hq
  subst hq
  exact ⟨B',cs,by rw [e]; exact a,by rw [e]; exact b,(c.rd (enc_plain _ _)).f2⟩
 | al j=>cases hA
 | nal=>cases hA
 | nap =>
  refine ⟨?_,fun q hq=>by simp [mk1] at hq⟩
  show NapR (ι' NT).1 x v
  rw [hnb hA]
  exact h.1
 | mp =>
  obtain ⟨h1,h2⟩:=h
  have h1:v=(ι i).1:=h1
  obtain ⟨B,cs,a,b,c⟩:=h2 (i, .mp x) (by simp [mk1])
  refine ⟨by show v=(ι' j).1; rw [e]; exact h1,fun q' hq=>?_⟩
  simp only [mk1,List.mem_singleton] at hq
  subst hq
  exact ⟨B,cs,by rw [e]; exact a,by rw [e]; exact b,c⟩
 | sit =>
  obtain ⟨h1,h2⟩:=h
  obtain ⟨B,g1,g2⟩:=h1
  obtain ⟨B',a,b⟩:=h2 (i, .sit x.1 x.2) (by simp [mk1])
  refine ⟨⟨B,by rw [e]; exact g1,g2⟩,fun q' hq=>?_⟩
  simp only [mk1,List.mem_singleton] at hq
  subst hq
  exact ⟨B',by rw [e]; exact a,by rw [e]; exact b⟩
 | _=>exact ⟨h.1,fun q hq=>by simp [mk1] at hq⟩
theorem M1.mono {i:Nat} {k:Kd} {x:k.T} (h:M1 F ι i k x v) (hf:F.le F') (hn:F'.nid=F.nid):M1 F' ι i k x v:=⟨h.1.mono hf,fun q hq=>(h.2 q hq).mono hf fun _=>hn⟩
def D.still:D→Bool
 | .int _ _=>true | .bool _=>true | .str _=>true | .np _=>true | .pnil=>true | .nil=>true | .any=>true | .err _=>true
 | _=>false
theorem rd_still (hn:F'.nid=F.nid):∀ {ds:List D} {vs:List Value},ds.all D.still=true→Rd F ds vs→Rd F' ds vs
 | [],_,_,h=>by cases h; exact .nil
 | d::ds,_,hd,h=>by
  obtain ⟨v,vs',rfl,h1,h2⟩:=h.inv_cons
  rw [List.all_cons,Bool.and_eq_true] at hd
  have h3:=rd_still hn hd.2 h2
  have h4:=hd.1
  cases h1 <;> first | exact .int h3 | exact .bool h3 | exact .str h3 | exact .niln h3 | exact .pnil h3 | exact .npN h3 | (rename_i hB _; exact .npS (by rw [hn]; exact hB) h3) | (rename_i h1 _; exact .any h1 h3) | (rename_i h1 _; exact .err h1 h3) | (simp [D.still] at h4)
theorem fl_still:∀ {f:Fl} {x:f.T},f.flat=true→(f.enc x).still=true:=by intro f x h; cases f <;> first | rfl | (simp [Fl.flat] at h)
theorem rec_still:∀ {f:Fl} {fs:List Fl} {x:recT f fs},f.flat=true→fs.all Fl.flat=true→(recEnc f fs x).all D.still=true
 | f,[],x,h,_=>by simp [recEnc,fl_still h]
 | f,g::fs,x,h,hs=>by
  rw [List.all_cons,Bool.and_eq_true] at hs
  simp only [recEnc,List.all_cons,fl_still h,rec_still hs.1 hs.2,Bool.and_self]
theorem enc_still:∀ {e:E} {x:e.T},e.flat=true→(e.enc x).all D.still=true:=by
 intro e x h
 cases e with
 | rc f fs k =>
  simp only [E.flat,Bool.and_eq_true] at h
  simp only [E.enc,List.all_append,rec_still h.1 h.2,Bool.true_and]
  simp [D.still]
 | node=>simp [E.flat] at h
 | _=>rfl
theorem rd_flat {e:E} {x:e.T} {vs:List Value} (hn:F'.nid=F.nid) (hf:e.flat=true) (h:Rd F (e.enc x) vs):Rd F' (e.enc x) vs:=rd_still hn (enc_still hf) h
theorem NR.flat {T A:TypeId} {hole:Option Nat} (hn:F'.nid=F.nid):∀ {i:Nat} {hs:List (Cl.R .h)} {hds:List Value} {L:List Blk},NR F (c := .h) T A hole i hs hds L→NR F' (c := .h) T A hole i hs hds L
 | _,_,_,_, .nil => .nil
 | _,_,_,_, .cons hB hc h1 ha hh t => .cons (by rw [hn]; exact hB) (rd_still hn (by rfl) hc) h1 (fun hne=>by obtain ⟨q,n,cp,rows,a,b,c⟩:=(ha hne).own rfl; exact .mk a b (forall2_imp (fun _ _ h=>rd_flat hn rfl h) c) rfl) hh (NR.flat hn t)
theorem mpD_still:∀ {l:List (Option Nat×Bool)},(mpD l).all D.still=true
 | []=>rfl
 | p::l=>by simp only [mpD,List.all_cons,D.still,Bool.true_and]; exact mpD_still
theorem fx_flat {i:Nat} (hn:F'.nid=F.nid):∀ {n:Nat} {fs:List FX} {x:fxT fs} {cs:List Value},fs.all FX.flat=true→F2 (RdW F ι) (fxEnc i n fs x) cs→F2 (RdW F' ι) (fxEnc i n fs x) cs:=by
 have one:∀ {n:Nat} {f:FX} {x:f.T} {v:Value},f.flat=true→RdW F ι (f.enc i n x) v→RdW F' ι (f.enc i n x) v:=fun {n f x v} hf h=>by
  cases f with
  | fl f =>
   have hf':f.flat=true:=by cases f <;> first | rfl | (simp [FX.flat] at hf)
   exact .of_rd (rd_still hn (by show (f.enc x::[]).all D.still=true; simp [fl_still hf']) (RdW.to_rd h (fl_plain f x)))
  | own=>exact h
  | self=>exact h
 intro n fs
 induction fs generalizing n with
 | nil=>intro x cs _ h; cases h; exact .nil
 | cons f fs ih =>
  intro x cs hf h
  rw [List.all_cons,Bool.and_eq_true] at hf
  cases fs with
  | nil =>
   cases h with
   | cons h t=>cases t; exact .cons (one hf.1 h) .nil
  | cons g fs =>
   cases h with
   | cons h t=>exact .cons (one hf.1 h) (ih hf.2 t)
theorem M1.flat {i:Nat} {k:Kd} {x:k.T} (hn:F'.nid=F.nid) (h:M1 F ι i k x v) (hk:k.flat=true):M1 F' ι i k x v:=by
 cases k with
 | int k=>exact ⟨by have:=Rd.int_inv h.1; rw [this]; exact Rd.int .nil,fun q hq=>by simp [mk1] at hq⟩
 | bool=>exact ⟨by have:=Rd.bool_inv h.1; rw [this]; exact Rd.bool .nil,fun q hq=>by simp [mk1] at hq⟩
 | str=>exact ⟨by have:=Rd.str_inv h.1; rw [this]; exact Rd.str .nil,fun q hq=>by simp [mk1] at hq⟩
 | np=>exact ⟨.of_rd (rd_still hn (by rfl) (RdV.to_rd h.1 rfl)),fun q hq=>by simp [mk1] at hq⟩
 | any=>exact ⟨.of_rd (rd_still hn (by rfl) (RdV.to_rd h.1 rfl)),fun q hq=>by simp [mk1] at hq⟩
 | mnil=>exact ⟨by have:=Rd.mnil_inv h.1; rw [this]; exact Rd.mnil .nil,fun q hq=>by simp [mk1] at hq⟩
 | snil=>exact ⟨by have:=Rd.nil_inv h.1; rw [this]; exact Rd.niln .nil,fun q hq=>by simp [mk1] at hq⟩
 | emp =>
  obtain ⟨cs,hv,hcs⟩:=Rd.agg_inv h.1
  exact ⟨by rw [hv]; exact Rd.agg (rd_still hn (by rfl) hcs) .nil,fun q hq=>by simp [mk1] at hq⟩
 | lst e=>simp [Kd.flat] at hk
 | fp e=>simp [Kd.flat] at hk
 | clo f es=>simp [Kd.flat] at hk
 | ifc T e=>simp [Kd.flat] at hk
 | intc k n=>exact ⟨by have:=Rd.int_inv h.1; rw [this]; exact Rd.int .nil,fun q hq=>by simp [mk1] at hq⟩
 | inil=>exact ⟨by have:=Rd.inil_inv h.1; rw [this]; exact Rd.inil .nil,fun q hq=>by simp [mk1] at hq⟩
 | fnl=>exact ⟨by have:=Rd.fnl_inv h.1; rw [this]; exact Rd.fnl .nil,fun q hq=>by simp [mk1] at hq⟩
 | nsr c=>simp [Kd.flat] at hk
 | err=>exact ⟨.of_rd (rd_still hn (by rfl) (RdV.to_rd h.1 rfl)),fun q hq=>by simp [mk1] at hq⟩
 | clox f T fs es=>simp [Kd.flat] at hk
 | hown i0 j e T =>
  refine ⟨trivial,fun q hq=>?_⟩
  have:=h.2 q hq
  simp only [mk1,List.mem_singleton] at hq
  subst hq
  obtain ⟨q,n,cp,rows,a,b,c⟩:=this
  exact ⟨q,n,cp,rows,a,b,forall2_imp (fun _ _ h=>rd_flat hn hk h) c⟩
 | blkx T fs =>
  refine ⟨h.1,fun q hq=>?_⟩
  have:=h.2 q hq
  simp only [mk1,List.mem_singleton] at hq
  subst hq
  obtain ⟨B,cs,a,b,c⟩:=this
  exact ⟨B,cs,a,b,fx_flat hn hk c⟩
 | al j=>exact ⟨h.1,fun q hq=>by simp [mk1] at hq⟩
 | nal=>exact ⟨h.1,fun q hq=>by simp [mk1] at hq⟩
 | nap=>exact ⟨h.1,fun q hq=>by simp [mk1] at hq⟩
 | mp =>
  refine ⟨h.1,fun q hq=>?_⟩
  have:=h.2 q hq
  simp only [mk1,List.mem_singleton] at hq
  subst hq
  obtain ⟨B,cs,a,b,c⟩:=this
  exact ⟨B,cs,a,b,rd_still hn mpD_still c⟩
 | sit=>exact ⟨h.1,fun q hq=>by
  have:=h.2 q hq
  simp only [mk1,List.mem_singleton] at hq
  subst hq
  exact this⟩
 | ns cl T A =>
  cases cl with
  | k=>simp [Kd.flat] at hk
  | h =>
  refine ⟨trivial,fun q hq=>?_⟩
  have:=h.2 q hq
  simp only [mk1,List.mem_singleton] at hq
  subst hq
  obtain ⟨h0,hds,a,b,c⟩:=this
  exact ⟨h0,hds,a,b.flat hn,by rw [hn]; exact c⟩
 | el e =>
  obtain ⟨cs,hv,hcs⟩:=Rd.agg_inv h.1
  exact ⟨by rw [hv]; exact Rd.agg (rd_flat hn hk hcs) .nil,fun q hq=>by simp [mk1] at hq⟩
 | own e T =>
  refine ⟨h.1,fun q hq=>?_⟩
  have:=h.2 q hq
  simp only [mk1,List.mem_singleton] at hq
  subst hq
  obtain ⟨q,n,cp,rows,a,b,c⟩:=this
  exact ⟨q,n,cp,rows,a,b,forall2_imp (fun _ _ h=>rd_flat hn hk h) c⟩
 | blk e T =>
  refine ⟨h.1,fun q hq=>?_⟩
  have:=h.2 q hq
  simp only [mk1,List.mem_singleton] at hq
  subst hq
  obtain ⟨B,cs,a,b,c⟩:=this
  exact ⟨B,cs,a,b,(rd_flat hn hk (c.rd (enc_plain _ _))).f2⟩
def MP (F:Frz) (ι:Gh) (ρ:Nat→Value):(p:Pt)→Tup p→Prop
 | [],_=>True
 | [q],x=>M1 F ι q.1 q.2 x (ρ q.1)
 | q::q'::ps,x=>M1 F ι q.1 q.2 x.1 (ρ q.1)∧MP F ι ρ (q'::ps) x.2
theorem MP.mono {ρ:Nat→Value} (hn:F'.nid=F.nid):∀ {p:Pt} {x:Tup p},MP F ι ρ p x→F.le F'→MP F' ι ρ p x
 | [],_,_,_=>trivial
 | [_],_,h,hf=>M1.mono h hf hn
 | _::q'::ps,_,h,hf=>⟨h.1.mono hf hn,MP.mono hn (p:=q'::ps) h.2 hf⟩
theorem MP.flat {ρ:Nat→Value} (hn:F'.nid=F.nid):∀ {p:Pt} {x:Tup p},MP F ι ρ p x→(p.all fun q=>q.2.flat)=true→MP F' ι ρ p x
 | [],_,_,_=>trivial
 | [_],_,h,hf=>M1.flat hn h (by simpa using hf)
 | _::q'::ps,_,h,hf=>by
  rw [List.all_cons,Bool.and_eq_true] at hf
  exact ⟨h.1.flat hn hf.1,MP.flat hn (p:=q'::ps) h.2 hf.2⟩
theorem mk1_keys {i:Nat} {k:Kd} {x:k.T}:∀ q∈(mk1 i k x).2,q.1=i:=by
 intro q hq
 cases k <;> simp [mk1] at hq <;> rw [hq]
theorem mk1_len {i:Nat} {k:Kd} {x:k.T}:(mk1 i k x).2.length≤1:=by cases k <;> simp [mk1]
theorem mkOw_keys:∀ {p:Pt} {x:Tup p},∀ q∈mkOw p x,q.1∈p.map (·.1)
 | [],_,q,hq=>by simp [mkOw] at hq
 | [_],_,q,hq=>by simp [mk1_keys q hq]
 | q0::q'::ps,x,q,hq=>by
  rcases List.mem_append.1 hq with hq | hq
  ·simp [mk1_keys q hq]
  ·have:=mkOw_keys (p:=q'::ps) q hq
   simp only [List.map_cons,List.mem_cons] at this ⊢
   exact .inr this
theorem nodupB_nodup:∀ {l:List Nat},nodupB l=true→l.Nodup
 | [],_ => .nil
 | t::ts,h=>by
  simp only [nodupB,Bool.and_eq_true,Bool.not_eq_true',List.any_eq_false,beq_iff_eq] at h
  exact List.nodup_cons.2 ⟨fun hin=>h.1 t hin rfl,nodupB_nodup h.2⟩
theorem mk1_nodup {i:Nat} {k:Kd} {x:k.T}:(((mk1 i k x).2).map (·.1)).Nodup:=by
 have h1:=mk1_len (i:=i) (k:=k) (x:=x)
 generalize (mk1 i k x).2=l at *
 match l,h1 with
 | [],_=>exact .nil
 | [a],_=>simp
theorem mkOw_nodup:∀ {p:Pt} {x:Tup p},(p.map (·.1)).Nodup→((mkOw p x).map (·.1)).Nodup
 | [],_,_ => .nil
 | [q],x,_=>mk1_nodup
 | q::q'::ps,x,hn=>by
  rw [List.map_cons,List.nodup_cons] at hn
  show (((mk1 q.1 q.2 x.1).2++mkOw (q'::ps) x.2).map (·.1)).Nodup
  rw [List.map_append,List.nodup_append]
  refine ⟨mk1_nodup,mkOw_nodup hn.2,fun a ha b hb e=>?_⟩
  subst e
  obtain ⟨c,hc,rfl⟩:=List.mem_map.1 ha
  obtain ⟨e,he,hee⟩:=List.mem_map.1 hb
  have h1:=mk1_keys c hc
  have h2:=mkOw_keys e he
  rw [hee,h1] at h2
  exact hn.1 h2
theorem MP.ow {ρ:Nat→Value}:∀ {p:Pt} {x:Tup p},MP F ι ρ p x→∀ q∈mkOw p x,OwnR F ι q.1 q.2
 | [],_,_,q,hq=>by simp [mkOw] at hq
 | [_],_,h,q,hq=>h.2 q hq
 | _::q'::ps,_,h,q,hq=>by
  rcases List.mem_append.1 hq with hq | hq
  ·exact h.1.2 q hq
  ·exact MP.ow (p:=q'::ps) h.2 q hq
theorem MP.sl {ρ:Nat→Value}:∀ {p:Pt} {x:Tup p},MP F ι ρ p x→∀ i,RdV F ι (mkSl p x i) (ρ i)
 | [],_,_,i=>trivial
 | [q],x,h,i=>by
  simp only [mkSl]
  by_cases e:i=q.1
  ·subst e; simp; exact h.1
  ·have:(i == q.1)=false:=by simp [e]
   rw [this]; trivial
 | q::q'::ps,x,h,i=>by
  simp only [mkSl]
  by_cases e:i=q.1
  ·subst e; simp; exact h.1.1
  ·have:(i == q.1)=false:=by simp [e]
   rw [this]; exact MP.sl (p:=q'::ps) h.2 i
theorem MP.rel {n np:Nat} {nw:Bool} {p:Pt} {x:Tup p} (h:MP F ι (fun i=>ρ.getD i undef) p x) (hn:(p.map (·.1)).Nodup) (hl:ρ.length=n):Rel F ι (mkP n np nw p x) ρ:=⟨hl,h.sl,h.ow,mkOw_nodup hn⟩
def slD (s:St) (i:Nat):D:=if SB≤i then subF s ((i - SB) / 64) ((i - SB) % 64) else s.sl i
def reG (ι:Gh) (s:St):Gh:=fun i=>if i=NTR then ((ι i).1,[]) else if (s.np / 1000≤i∧i<s.np % 1000)∨i=NT then ι i else match slD s i with
 | .own t=>ι t
 | .op t _=>ι t
 | .clov _ t _=>ι t
 | .nil=>(.slice none 0 0,[])
 | _=>ι i
theorem reG_np {i:Nat} (h:s.np / 1000≤i∧i<s.np % 1000):(reG ι s i).1=(ι i).1:=by
 unfold reG
 split
 ·rfl
 ·rw [if_pos (.inl h)]
theorem reG_nt:reG ι s NT=ι NT:=by
 unfold reG
 rw [if_neg (by decide),if_pos (.inr rfl)]
theorem reG_ntr:(reG ι s NTR).2=[]:=by
 unfold reG
 rw [if_pos rfl]
theorem nkp_iff {np i:Nat}:nkp np i=true↔¬ (np / 1000≤i∧i<np % 1000):=by
 simp only [nkp,Bool.or_eq_true,Nat.ble_eq,Nat.blt_eq]
 omega
theorem ntr_lt {i:Nat} (h:Nat.ble NTR i=false):i<NTR:=by
 rcases Nat.lt_or_ge i NTR with h1 | h1
 ·exact h1
 ·rw [Nat.ble_eq_true_of_le h1] at h; cases h
theorem ntr_sb:NTR<SB:=by decide
theorem slD_lt {i:Nat} (h:i<NTR):slD s i=s.sl i:=by
 unfold slD
 rw [if_neg (by have:=ntr_sb; omega)]
theorem reG_ref {i o t:Nat} (hc:((nkp s.np i || t == i) && !(i == NT) && !(Nat.ble NTR i))=true) (hk:s.sl i = .own t∨s.sl i = .op t o∨∃ f cs,s.sl i = .clov f t cs):reG ι s i=ι t:=by
 simp only [Bool.and_eq_true,Bool.or_eq_true,nkp_iff,beq_iff_eq,Bool.not_eq_true',beq_eq_false_iff_ne] at hc
 obtain ⟨⟨hc,h1⟩,h2⟩:=hc
 have h2:=ntr_lt h2
 unfold reG
 rw [if_neg (by omega)]
 split
 ·rename_i hlt
  rcases hlt with hlt | hlt
  ·rcases hc with hc | hc
   ·omega
   ·rw [hc]
  ·exact absurd hlt h1
 ·rw [slD_lt h2]
  rcases hk with hk | hk | ⟨f,cs,hk⟩ <;> rw [hk]
theorem reG_nil {i:Nat} (hc:(nkp s.np i && !(i == NT) && !(Nat.ble NTR i))=true) (hk:s.sl i = .nil):reG ι s i=(.slice none 0 0,[]):=by
 simp only [Bool.and_eq_true,nkp_iff,Bool.not_eq_true',beq_eq_false_iff_ne] at hc
 obtain ⟨⟨hc,h1⟩,h2⟩:=hc
 have h2:=ntr_lt h2
 unfold reG
 rw [if_neg (by omega),if_neg (fun h=>h.elim (fun h=>by omega) h1),slD_lt h2,hk]
theorem slD_sub {i0 j:Nat} (hj:j<64):slD s (subT i0 j)=subF s i0 j:=by
 unfold slD subT
 rw [if_pos (by omega),show (SB+64*i0+j - SB) / 64=i0 by omega,show (SB+64*i0+j - SB) % 64=j by omega]
theorem reG_sub {i0 j:Nat} (hj:j<64):reG ι s (subT i0 j)=match subF s i0 j with
 | .own t=>ι t
 | .op t _=>ι t
 | .clov _ t _=>ι t
 | .nil=>(.slice none 0 0,[])
 | _=>ι (subT i0 j):=by
 have h1:=ntr_sb
 have h2:NT<SB:=by decide
 have h3:1000<SB:=by decide
 have h4:SB≤subT i0 j:=by unfold subT; omega
 unfold reG
 rw [if_neg (by omega),if_neg (by omega),slD_sub hj]
theorem lent_cons {q:Nat×Kd} {ps:Pt}:lent s (q::ps)=lent s [q]++lent s ps:=by
 obtain ⟨i,k⟩:=q
 cases k <;> simp only [lent,List.nil_append]
 ·split <;> simp
 ·split <;> simp
 ·split
  ·simp
  ·split <;> simp
theorem rows_rd {e:E} {T q n cp:Nat} {qa:Option Addr} {xs:List e.T} {rows:List (List Value)} {Lv:List Blk} (hf:F.le F1) (h1:SlO e.sz T qa n cp Lv rows) (h2:F2 (fun x r=>Rd F (e.enc x) r) xs rows) (hF:∀ p∈Lv,isB (F1.m p.1) p):Rd F1 [.lst e xs] [.slice qa n cp] :=
 own_rd (ι:=fun _=>(.slice qa n cp,Lv)) (t:=0) (T:=T) ⟨qa,n,cp,rows,rfl,h1,h2⟩ hf hF
theorem nr_read {c:Cl} {T A:TypeId} {hs:List c.R} {hds:List Value} {L:List Blk} (hn:NR F T A none 0 hs hds L) (hf:F.le F1) (hF:∀ p∈L,isB (F1.m p.1) p) {i:Nat} {x:c.R} (hx:hs[i]?=some x):∃ B cs,F1.nid i=some B∧cellsF F1 B 0 cs∧Rd F1 (c.enc x++[.lst c.e (c.xs x)]) cs:=by
 obtain ⟨hs1,hs2,hds1,hds2,L1,L2,hd,B,cs,Lv,e1,e2,e3,e4,e5,e6,e7,e8⟩:=hn.split hx
 obtain ⟨q,n,cp,rows,Lv',a1,a2,a3,a4⟩:=e7.ha (by simp)
 have hB:=e7.hB
 rw [Nat.zero_add] at hB
 refine ⟨B,cs++[hd],hf.2.1 _ _ hB,?_,(e7.hc.mono hf).append ?_⟩
 ·obtain ⟨fz,_,this⟩:=(hF (B,cs++[hd],BT.c T) (by rw [e5]; simp)).cells
  exact cellsF_row (cs++[hd]) [] [] 0 (by simpa using this) rfl
 ·rw [a1]
  refine rows_rd (q:=0) (e:=c.e) hf a2 a3 fun p hp=>?_
  rcases a4 with ⟨_,rfl⟩ | ⟨_,_,a4⟩
  ·exact hF p (by rw [e5]; simp [hp])
  ·exact (a4 p hp).mono hf
structure RelV (F:Frz) (ι:Gh) (s:St) (σ:Nat→Value):Prop where
 sl:∀ i,RdV F ι (s.sl i) (σ i)
 ow:∀ p∈s.ow,OwnR F ι p.1 p.2
 nd:(s.ow.map (·.1)).Nodup
theorem RelV.look {σ:Nat→Value} {b:OB} (hr:RelV F ι s σ) (h:s.look t=some b):OwnR F ι t b:=hr.ow _ (look_mem h)
theorem Rel.toV (hr:Rel F ι s ρ):RelV F ι s fun i=>ρ.getD i undef:=⟨hr.sl,hr.ow,hr.nd⟩
theorem M1.ref {i:Nat} {k:Kd} {x:k.T} (h:M1 F ι i k x v) (hk:k.isRef=true):v=(ι i).1:=by
 cases k with
 | own e T=>exact h.1
 | blk e T =>
  obtain ⟨B,h1,h2⟩:=h.1
  rw [h1,h2]
 | blkx T fs =>
  obtain ⟨B,h1,h2⟩:=h.1
  rw [h1,h2]
 | mp=>exact h.1
 | _=>simp [Kd.isRef] at hk
theorem MP.ref {σ:Nat→Value}:∀ {p:Pt} {x:Tup p} {q:Nat×Kd},MP F ι σ p x→q∈p→q.2.isRef=true→σ q.1=(ι q.1).1
 | [],_,_,_,hq,_=>by cases hq
 | [q0],x,q,h,hq,hk=>by
  obtain rfl:q=q0:=by simpa using hq
  exact M1.ref h hk
 | q0::q'::ps,x,q,h,hq,hk=>by
  rcases List.mem_cons.1 hq with rfl | hq
  ·exact M1.ref h.1 hk
  ·exact MP.ref (p:=q'::ps) h.2 hq hk
theorem es_inv1 {e:E} {ds:List D} {x:e.T} (h:esDec [e] ds=some x):∃ ds',ds=[.fp ds' 0]∧e.dec ds'=some x:=by
 rcases ds with _ | ⟨d,_ | ⟨d2,r⟩⟩
 ·simp [esDec] at h
 ·cases d with
  | fp ds' off =>
   rcases off with _ | off
   ·exact ⟨_,rfl,by simpa [esDec] using h⟩
   ·simp [esDec] at h
  | _=>simp [esDec] at h
 ·cases d with
  | fp ds' off=>rcases off with _ | off <;> simp [esDec] at h
  | _=>simp [esDec] at h
theorem es_inv2 {e e':E} {es:List E} {ds:List D} {x:esT (e::e'::es)} (h:esDec (e::e'::es) ds=some x):∃ ds' r,ds = .fp ds' 0::r∧e.dec ds'=some x.1∧esDec (e'::es) r=some x.2:=by
 rcases ds with _ | ⟨d,r⟩
 ·simp [esDec] at h
 ·cases d with
  | fp ds' off =>
   rcases off with _ | off
   ·refine ⟨_,_,rfl,?_⟩
    simp only [esDec] at h
    split at h
    ·cases h
    ·rename_i a ha
     split at h
     ·cases h
     ·rename_i b hb
      cases h
      exact ⟨ha,hb⟩
   ·simp [esDec] at h
  | _=>simp [esDec] at h
theorem es_rd:∀ {es:List E} {ds:List D} {vs:List Value} {x:esT es},esDec es ds=some x→Rd F ds vs→Rd F (esEnc es x) vs
 | [],[],vs,x,_,hr=>hr
 | [],_::_,vs,x,h,_=>by cases h
 | [e],ds,vs,x,h,hr=>by
  obtain ⟨ds',rfl,h0⟩:=es_inv1 h
  obtain ⟨v,vs',rfl,h1,h2⟩:=hr.inv_cons
  cases h2
  obtain ⟨B,o,cs,hv,g1,g2⟩:=Rd.fp_inv h1
  rw [hv]
  exact .fp g1 (dec_rd h0 g2) .nil
 | e::e'::es,ds,vs,x,h,hr=>by
  obtain ⟨ds',r,rfl,ha,hb⟩:=es_inv2 h
  obtain ⟨v,vs',rfl,h1,h2⟩:=hr.inv_cons
  obtain ⟨B,o,cs,hv,g1,g2⟩:=Rd.fp_inv h1
  rw [hv]
  exact .fp g1 (dec_rd ha g2) (es_rd (es:=e'::es) hb h2)
theorem fxd_sound {i t n:Nat} (hf:F.le F1) (hg:ι' i=ι t) (hB:∃ B,(ι t).1 = .pointer (some ⟨B,0,none⟩)) {f:FX} {d:D} {x:f.T} {v:Value} (h:f.dec t d=some x) (hs:f = .own→(∀ t',d = .own t'→(ι' (subT i n)).1=(ι t').1)∧(d = .nil→(ι' (subT i n)).1 = .slice none 0 0)) (hr:RdW F ι d v):RdW F1 ι' (f.enc i n x) v:=by
 cases f with
 | fl f =>
  have h:f.dec d=some x:=h
  exact .of_rd (fl_rd h (RdW.to_rd (hr.mono hf) (flDec_plain h)))
 | own =>
  have hs:=hs rfl
  cases d with
  | own t' =>
   have hr:v=(ι t').1:=hr
   show v=_
   rw [hs.1 _ rfl]; exact hr
  | nil =>
   show v=_
   rw [hs.2 rfl]; exact Rd.nil_inv hr
  | _=>simp [FX.dec] at h
 | self =>
  cases d with
  | opb t' b =>
   simp only [FX.dec] at h
   cases ht:(t' == t) with
   | false=>rw [ht] at h; cases h
   | true =>
    rw [ht] at h
    cases h
    have ht:t'=t:=by simpa using ht
    subst ht
    obtain ⟨B,h1,h2⟩:=hr
    exact ⟨B,by rw [hg]; exact h1,h2⟩
  | op t' o =>
   match o,h,hr with
   | 0,h,hr =>
    simp only [FX.dec] at h
    cases ht:(t' == t) with
    | false=>rw [ht] at h; cases h
    | true =>
     rw [ht] at h
     cases h
     have ht:t'=t:=by simpa using ht
     subst ht
     obtain ⟨B,h1,h2⟩:=hr
     exact ⟨B,by rw [hg]; exact h1,h2⟩
   | o+1,h,_=>simp [FX.dec] at h
  | pnil =>
   cases h
   obtain ⟨B,h1⟩:=hB
   exact ⟨B,by rw [hg]; exact h1,Rd.pnil_inv hr⟩
  | _=>simp [FX.dec] at h
theorem subsF_lt:∀ {n k:Nat} {fs:List FX},k∈subsF n fs→n≤k∧k<n+fs.length
 | _,_,[],h=>by simp [subsF] at h
 | n,k,f::fs,h=>by
  have key:k=n∨k∈subsF (n+1) fs:=by cases f <;> simp [subsF] at h <;> first | exact .inr h | exact h
  rcases key with rfl | h
  ·simp
  ·have:=subsF_lt h
   simp only [List.length_cons]
   omega
theorem fx_sound {i t:Nat} (hf:F.le F1) (hg:ι' i=ι t) (hB:∃ B,(ι t).1 = .pointer (some ⟨B,0,none⟩)):∀ {n:Nat} {fs:List FX} {ds:List D} {x:fxT fs} {cs:List Value},fxDec t fs ds=some x→(∀ k∈subsF n fs,(∀ t',ds.getD (k - n) .u = .own t'→(ι' (subT i k)).1=(ι t').1)∧(ds.getD (k - n) .u = .nil→(ι' (subT i k)).1 = .slice none 0 0))→F2 (RdW F ι) ds cs→F2 (RdW F1 ι') (fxEnc i n fs x) cs
 | _,[],[],_,_,_,_, .nil => .nil
 | _,[],_::_,_,_,h,_,_=>by simp [fxDec] at h
 | n,[f],[d],x,_,h,hs, .cons hd .nil => .cons (fxd_sound hf hg hB (show f.dec t d=some x from h) (fun e=>by have:=hs n (subsF_own e); simpa using this) hd) .nil
 | n,[f],[],x,_,h,_,_=>by simp [fxDec] at h
 | n,[f],_::_::_,x,_,h,_,_=>by simp [fxDec] at h
 | n,f::g::fs,[],x,_,h,_,_=>by simp [fxDec] at h
 | n,f::g::fs,d::ds,x,_,h,hs, .cons hd ht=>by
  simp only [fxDec] at h
  cases h1:f.dec t d with
  | none=>rw [h1] at h; cases h
  | some a =>
   rw [h1] at h
   simp only at h
   cases h2:fxDec t (g::fs) ds with
   | none=>rw [h2] at h; cases h
   | some b =>
    rw [h2] at h
    cases h
    refine .cons (fxd_sound hf hg hB h1 (fun e=>by have:=hs n (subsF_own e); simpa using this) hd) (fx_sound (n:=n+1) (fs:=g::fs) hf hg hB h2 (fun k hk=>?_) ht)
    have h3:=subsF_lt hk
    have h4:=hs k (subsF_tail hk)
    rw [show k - n=(k - (n+1))+1 by omega,List.getD_cons_succ] at h4
    exact h4
theorem fx_reG {i t:Nat} {T:TypeId} {ds:List D} {fs:List FX} {x:fxT fs} {cs:List Value} (hf:F.le F1) (hg:reG ι s i=ι t) (hB:∃ B,(ι t).1 = .pointer (some ⟨B,0,none⟩)) (hl:fs.length≤64) (hF:∀ k,subF s i k=ds.getD k .u) (h:fxDec t fs ds=some x) (hr:F2 (RdW F ι) ds cs):F2 (RdW F1 (reG ι s)) (fxEnc i 0 fs x) cs :=
 fx_sound hf hg hB h (fun k hk=>by
  have h1:=subsF_lt hk
  rw [Nat.sub_zero]
  constructor
  ·intro t' e
   rw [reG_sub (by omega),hF k,e]
  ·intro e
   rw [reG_sub (by omega),hF k,e]) hr
theorem un1_sound {σ:Nat→Value} {lax:Bool} {i:Nat} {k:Kd} {x:k.T} (hr:RelV F ι s σ) (hf:F.le F1) (hn:F1.nid=F.nid) (hF:lax=true→∀ t∈lent s [(i,k)],∀ q∈(ι t).2,isB (F1.m q.1) q) (h:un1 s lax i k=some x):M1 F1 (reG ι s) i k x (σ i):=by
 have hd:=hr.sl i
 cases k with
 | int k =>
  simp only [un1] at h
  split at h
  ·rename_i k' n hk
   cases he:decide (k'=k) with
   | false=>rw [he] at h; cases h
   | true =>
    rw [he] at h
    cases h
    have:k'=k:=by simpa using he
    subst this
    rw [hk] at hd
    exact ⟨.of_rd (Rd.mono hd hf),fun q hq=>by simp [mk1] at hq⟩
  ·cases h
 | bool =>
  simp only [un1] at h
  split at h
  ·rename_i b hk
   cases h
   rw [hk] at hd
   exact ⟨.of_rd (Rd.mono hd hf),fun q hq=>by simp [mk1] at hq⟩
  ·cases h
 | str =>
  simp only [un1] at h
  split at h
  ·rename_i b hk
   cases h
   rw [hk] at hd
   exact ⟨.of_rd (Rd.mono hd hf),fun q hq=>by simp [mk1] at hq⟩
  ·cases h
 | np =>
  simp only [un1] at h
  exact ⟨.of_rd (dPtr_rd h (RdV.to_rd (hd.mono hf) (dPtr_plain h))),fun q hq=>by simp [mk1] at hq⟩
 | any =>
  simp only [un1] at h
  refine ⟨?_,fun q hq=>by simp [mk1] at hq⟩
  split at h
  ·rename_i t o hk
   rw [hk] at hd
   obtain ⟨B,h1,h2⟩:=hd
   refine .of_rd (.any ?_ .nil)
   rw [h2]; rfl
  ·cases hp:(s.sl i).plain with
   | false=>rw [hp] at h; cases h
   | true=>exact .of_rd ((RdV.to_rd (hd.mono hf) hp).to_any hp)
 | mnil =>
  simp only [un1] at h
  split at h
  ·rename_i hk
   rw [hk] at hd
   exact ⟨.of_rd (Rd.mono hd hf),fun q hq=>by simp [mk1] at hq⟩
  ·cases h
 | snil =>
  simp only [un1] at h
  split at h
  ·rename_i hk
   rw [hk] at hd
   exact ⟨.of_rd (Rd.mono hd hf),fun q hq=>by simp [mk1] at hq⟩
  ·cases h
 | emp =>
  simp only [un1] at h
  split at h
  ·rename_i hk
   rw [hk] at hd
   exact ⟨.of_rd (Rd.mono hd hf),fun q hq=>by simp [mk1] at hq⟩
  ·cases h
 | fp e =>
  simp only [un1] at h
  split at h
  ·rename_i ds hk
   rw [hk] at hd
   obtain ⟨B,o,cs,hv,h1,h2⟩:=Rd.fp_inv (Rd.mono hd hf)
   refine ⟨?_,fun q hq=>by simp [mk1] at hq⟩
   rw [hv]
   exact .of_rd (.fp h1 (dec_rd h h2) .nil)
  ·rename_i t hk
   rw [hk] at hd
   cases lax with
   | false=>cases h
   | true =>
    simp only [cond_true] at h
    split at h
    ·rename_i T0 ds hlk
     cases hp:ds.all D.plain with
     | false=>rw [hp] at h; cases h
     | true =>
      rw [hp] at h
      simp only [cond_true] at h
      obtain ⟨B,cs,a,b,c⟩:=hr.look hlk
      obtain ⟨B',g1,g2⟩:=hd
      rw [a] at g1
      cases g1
      refine ⟨?_,fun q hq=>by simp [mk1] at hq⟩
      obtain ⟨fz,_,hB⟩:=(hF rfl t (by simp [lent,hk]) (B,cs,BT.c T0) (by rw [b]; simp)).cells
      have hcs:cellsF F1 B 0 cs:=cellsF_row cs [] [] 0 (by simpa using hB) rfl
      rw [g2]
      have:=Rd.fp (off:=0) hcs (dec_rd h ((c.rd hp).mono hf)) .nil
      rw [Nat.zero_add] at this
      exact .of_rd this
    ·cases h
  ·cases h
 | clo f es =>
  simp only [un1] at h
  split at h
  ·rename_i f' ds hk
   cases he:decide (f'=f) with
   | false=>rw [he] at h; cases h
   | true =>
    rw [he] at h
    simp only [cond_true] at h
    have:f'=f:=by simpa using he
    subst this
    rw [hk] at hd
    obtain ⟨cs,hv,hcs⟩:=Rd.clo_inv (Rd.mono hd hf)
    refine ⟨?_,fun q hq=>by simp [mk1] at hq⟩
    rw [hv]
    exact .of_rd (.clo (es_rd h hcs) .nil)
  ·cases h
 | intc k n =>
  simp only [un1] at h
  split at h
  ·rename_i k' n' hk
   cases he:decide (k'=k∧n'=n) with
   | false=>rw [he] at h; cases h
   | true =>
    have:k'=k∧n'=n:=by simpa using he
    obtain ⟨rfl,rfl⟩:=this
    rw [hk] at hd
    exact ⟨.of_rd (Rd.mono hd hf),fun q hq=>by simp [mk1] at hq⟩
  ·cases h
 | inil =>
  simp only [un1] at h
  split at h
  ·rename_i hk
   rw [hk] at hd
   exact ⟨.of_rd (Rd.mono hd hf),fun q hq=>by simp [mk1] at hq⟩
  ·cases h
 | fnl =>
  simp only [un1] at h
  split at h
  ·rename_i hk
   rw [hk] at hd
   exact ⟨.of_rd (Rd.mono hd hf),fun q hq=>by simp [mk1] at hq⟩
  ·cases h
 | err =>
  simp only [un1] at h
  refine ⟨?_,fun q hq=>by simp [mk1] at hq⟩
  split at h
  ·rename_i hk
   cases h
   rw [hk] at hd
   exact .of_rd (.err (Rd.inil_inv hd) .nil)
  ·rename_i T0 l0 hk
   cases h
   rw [hk] at hd
   obtain ⟨cs0,e1,_⟩:=Rd.ifc_inv hd
   exact .of_rd (.err ⟨_,_,e1⟩ .nil)
  ·rename_i b hk
   cases h
   rw [hk] at hd
   exact .of_rd (Rd.mono hd hf)
  ·cases h
 | ifc T e =>
  simp only [un1] at h
  refine ⟨?_,fun q hq=>by simp [mk1] at hq⟩
  split at h
  ·rename_i T' ds hk
   cases he:(T' == T) with
   | false=>rw [he] at h; cases h
   | true =>
    rw [he] at h
    simp only [cond_true] at h
    have:T'=T:=by simpa using he
    subst this
    rw [hk] at hd
    obtain ⟨cs,hv,hcs⟩:=Rd.ifc_inv (Rd.mono hd hf)
    rw [hv]
    exact .of_rd (.ifc (dec_rd h hcs) .nil)
  ·cases h
 | hown i0 j e T =>
  simp only [un1] at h
  cases hc:(i == subT i0 j && Nat.blt j 64) with
  | false=>rw [hc] at h; cases h
  | true =>
   rw [hc] at h
   simp only [cond_true] at h
   rw [Bool.and_eq_true,beq_iff_eq,Nat.blt_eq] at hc
   obtain ⟨rfl,hj⟩:=hc
   refine ⟨trivial,fun q' hq=>?_⟩
   simp only [mk1,List.mem_singleton] at hq
   subst hq
   have hg:=reG_sub (ι:=ι) (s:=s) (i0:=i0) hj
   split at h
   ·rename_i t hk
    rw [hk] at hg
    split at h
    ·rename_i e' T' xs hlk
     cases hT:(T' == T) with
     | false=>rw [hT] at h; cases h
     | true =>
      rw [hT] at h
      simp only [cond_true] at h
      have hT:T'=T:=by simpa using hT
      subst hT
      obtain ⟨rfl,rfl⟩:=castE_eq h
      obtain ⟨q,n,cp,rows,a,b,c⟩:=hr.look hlk
      exact ⟨q,n,cp,rows,by rw [hg]; exact a,by rw [hg]; exact b,forall2_imp (fun _ _ h=>h.mono hf) c⟩
    ·cases h
   ·rename_i hk
    rw [hk] at hg
    cases h
    exact ⟨none,0,0,[],by rw [hg],by rw [hg]; exact SlO.nil _ _, .nil⟩
   ·cases h
 | blkx T fs =>
  simp only [un1] at h
  split at h
  ·rename_i t hk
   cases hc:((nkp s.np i || t == i) && !(i == NT) && !(Nat.ble NTR i)) with
   | false=>rw [hc] at h; cases h
   | true =>
    rw [hc] at h
    simp only [cond_true] at h
    split at h
    ·rename_i T' ds hlk
     cases hT:(T' == T && Nat.ble fs.length 64) with
     | false=>rw [hT] at h; cases h
     | true =>
      rw [hT] at h
      simp only [cond_true] at h
      rw [Bool.and_eq_true,beq_iff_eq,Nat.ble_eq] at hT
      obtain ⟨rfl,hl⟩:=hT
      have hg:=reG_ref (ι:=ι) (o:=0) hc (.inr (.inl hk))
      have hF:∀ k,subF s i k=ds.getD k .u:=fun k=>by
       unfold subF
       rw [hk]
       simp only
       rw [hlk]
      rw [hk] at hd
      obtain ⟨B,g1,g2⟩:=hd
      obtain ⟨B',cs,a,b,c⟩:=hr.look hlk
      refine ⟨⟨B,by rw [hg]; exact g1,g2⟩,fun q' hq=>?_⟩
      simp only [mk1,List.mem_singleton] at hq
      subst hq
      exact ⟨B',cs,by rw [hg]; exact a,by rw [hg]; exact b,fx_reG (T:=T') hf hg ⟨B,g1⟩ hl hF h c⟩
    ·cases h
  ·cases h
 | clox f T fs es =>
  simp only [un1] at h
  split at h
  ·rename_i f' t cs0 hk
   cases hc:((nkp s.np i || t == i) && !(i == NT) && !(Nat.ble NTR i)) with
   | false=>rw [hc] at h; cases h
   | true =>
    rw [hc] at h
    simp only [cond_true] at h
    split at h
    ·rename_i T' ds hlk
     cases hT:(T' == T && Nat.ble fs.length 64 && decide (f'=f)) with
     | false=>rw [hT] at h; cases h
     | true =>
      rw [hT] at h
      simp only [cond_true] at h
      rw [Bool.and_eq_true,Bool.and_eq_true,beq_iff_eq,Nat.ble_eq,decide_eq_true_eq] at hT
      obtain ⟨⟨rfl,hl⟩,rfl⟩:=hT
      split at h
      ·cases h
      ·rename_i a ha
       split at h
       ·cases h
       ·rename_i b hb
        cases h
        have hg:=reG_ref (ι:=ι) (o:=0) hc (.inr (.inr ⟨_,_,hk⟩))
        have hF:∀ k,subF s i k=ds.getD k .u:=fun k=>by
         unfold subF
         rw [hk]
         simp only
         rw [hlk]
        rw [hk] at hd
        obtain ⟨B,cv,g1,g2,g3⟩:=hd
        obtain ⟨B',cs,p1,p2,p3⟩:=hr.look hlk
        refine ⟨⟨B,cv,by rw [hg]; exact g1,g2,es_rd hb (g3.mono hf)⟩,fun q' hq=>?_⟩
        simp only [mk1,List.mem_singleton] at hq
        subst hq
        exact ⟨B',cs,by rw [hg]; exact p1,by rw [hg]; exact p2,fx_reG (T:=T') hf hg ⟨B,g1⟩ hl hF ha p3⟩
    ·cases h
  ·cases h
 | ns cl T A =>
  simp only [un1] at h
  cases hi:(i == NT) with
  | false=>rw [hi] at h; cases h
  | true =>
   rw [hi] at h
   simp only [cond_true] at h
   have hi:i=NT:=by simpa using hi
   subst hi
   split at h
   ·rename_i cl' T' A' hs hlk
    cases hc:(T' == T && A' == A) with
    | false=>rw [hc] at h; cases h
    | true =>
     rw [hc] at h
     simp only [cond_true] at h
     obtain ⟨ec,h⟩:=Cl.cast_eq h
     subst ec
     have h:hs=x:=h
     subst h
     simp only [Bool.and_eq_true,beq_iff_eq] at hc
     obtain ⟨rfl,rfl⟩:=hc
     refine ⟨trivial,fun q hq=>?_⟩
     simp only [mk1,List.mem_singleton] at hq
     subst hq
     obtain ⟨h0,hds,a,b,c⟩:=hr.look hlk
     exact ⟨rfl,hds,by rw [reG_nt]; exact a,by rw [reG_nt]; exact b.mono hf,by rw [hn]; exact c⟩
   ·cases h
 | nsr cl =>
  simp only [un1] at h
  cases hi:(i == NTR) with
  | false=>rw [hi] at h; cases h
  | true =>
   rw [hi] at h
   simp only [cond_true] at h
   have hi:i=NTR:=by simpa using hi
   subst hi
   refine ⟨trivial,fun q hq=>?_⟩
   simp only [mk1,List.mem_singleton] at hq
   subst hq
   split at h
   ·rename_i cl' hs hlk
    obtain ⟨ec,h⟩:=Cl.cast_eq h
    subst ec
    have h:hs=x:=h
    subst h
    obtain ⟨a,b⟩:=hr.look hlk
    exact ⟨reG_ntr,fun i y hy=>by obtain ⟨B,cs,g1,g2,g3⟩:=b i y hy; exact ⟨B,cs,hf.2.1 _ _ g1,g2.mono hf,g3.mono hf⟩⟩
   ·rename_i hno
    cases lax with
    | false=>cases h
    | true =>
     simp only [cond_true] at h
     split at h
     ·rename_i cl' TN A hs hlk
      obtain ⟨ec,h⟩:=Cl.cast_eq h
      subst ec
      have h:hs=x:=h
      subst h
      obtain ⟨_,hds,a,b,c⟩:=hr.look hlk
      have hl:lent s [(NTR, .nsr cl')]=[NT]:=by
       simp only [lent]
       rw [hlk]
      exact ⟨reG_ntr,fun i y hy=>nr_read b hf (hF rfl NT (by rw [hl]; simp)) hy⟩
     ·cases h
 | lst e =>
  simp only [un1] at h
  refine ⟨?_,fun q hq=>by simp [mk1] at hq⟩
  split at h
  ·rename_i e' xs hk
   obtain ⟨rfl,rfl⟩:=castE_eq h
   rw [hk] at hd
   exact .of_rd (Rd.mono hd hf)
  ·rename_i hk
   cases h
   rw [hk] at hd
   exact .of_rd (Rd.nil_lst _ (Rd.mono hd hf))
  ·rename_i t hk
   cases lax with
   | false=>cases h
   | true =>
    simp only [cond_true] at h
    split at h
    ·rename_i e' T xs hlk
     obtain ⟨rfl,rfl⟩:=castE_eq h
     rw [hk] at hd
     have hd:σ i=(ι t).1:=hd
     rw [hd]
     exact .of_rd (own_rd (hr.look hlk) hf (hF rfl t (by simp [lent,hk])))
    ·cases h
  ·cases h
 | el e =>
  simp only [un1] at h
  split at h
  ·rename_i ds hk
   rw [hk] at hd
   obtain ⟨cs,hv,hcs⟩:=Rd.agg_inv hd
   refine ⟨?_,fun q hq=>by simp [mk1] at hq⟩
   rw [hv]
   exact .of_rd (.agg (dec_rd h (hcs.mono hf)) .nil)
  ·cases h
 | own e T =>
  simp only [un1] at h
  split at h
  ·rename_i t hk
   cases hc:((nkp s.np i || t == i) && !(i == NT) && !(Nat.ble NTR i)) with
   | false=>rw [hc] at h; cases h
   | true =>
    rw [hc] at h
    simp only [cond_true] at h
    split at h
    ·rename_i e' T' xs hlk
     cases hT:(T' == T) with
     | false=>rw [hT] at h; cases h
     | true =>
      rw [hT] at h
      simp only [cond_true] at h
      have hT:T'=T:=by simpa using hT
      subst hT
      obtain ⟨rfl,rfl⟩:=castE_eq h
      have hg:=reG_ref (ι:=ι) (o:=0) hc (.inl hk)
      rw [hk] at hd
      have hd:σ i=(ι t).1:=hd
      obtain ⟨q,n,cp,rows,a,b,c⟩:=hr.look hlk
      refine ⟨by show _=_; rw [hd,hg],fun q' hq=>?_⟩
      simp only [mk1,List.mem_singleton] at hq
      subst hq
      exact ⟨q,n,cp,rows,by rw [hg]; exact a,by rw [hg]; exact b,forall2_imp (fun _ _ h=>h.mono hf) c⟩
    ·cases h
  ·rename_i hk
   cases hc:(nkp s.np i && !(i == NT) && !(Nat.ble NTR i)) with
   | false=>rw [hc] at h; cases h
   | true =>
    rw [hc] at h
    cases h
    have hg:=reG_nil (ι:=ι) hc hk
    rw [hk] at hd
    refine ⟨by show _=_; rw [hg]; exact Rd.nil_inv hd,fun q' hq=>?_⟩
    simp only [mk1,List.mem_singleton] at hq
    subst hq
    exact ⟨none,0,0,[],by rw [hg],by rw [hg]; exact SlO.nil _ _, .nil⟩
  ·cases h
 | blk e T =>
  simp only [un1] at h
  split at h
  ·rename_i t hk
   cases hc:((nkp s.np i || t == i) && !(i == NT) && !(Nat.ble NTR i)) with
   | false=>rw [hc] at h; cases h
   | true =>
    rw [hc] at h
    simp only [cond_true] at h
    split at h
    ·rename_i T' ds hlk
     cases hT:(T' == T) with
     | false=>rw [hT] at h; cases h
     | true =>
      rw [hT] at h
      simp only [cond_true] at h
      have hT:T'=T:=by simpa using hT
      subst hT
      have hg:=reG_ref (ι:=ι) (o:=0) hc (.inr (.inl hk))
      rw [hk] at hd
      obtain ⟨B,g1,g2⟩:=hd
      obtain ⟨B',cs,a,b,c⟩:=hr.look hlk
      refine ⟨⟨B,by rw [hg]; exact g1,g2⟩,fun q' hq=>?_⟩
      simp only [mk1,List.mem_singleton] at hq
      subst hq
      exact ⟨B',cs,by rw [hg]; exact a,by rw [hg]; exact b,(dec_rd h ((c.rd (dec_plain h)).mono hf)).f2⟩
    ·cases h
  ·cases h
 | nap =>
  simp only [un1] at h
  split at h
  ·rename_i o hk
   cases h
   rw [hk] at hd
   refine ⟨?_,fun q hq=>by simp [mk1] at hq⟩
   show NapR (reG ι s NT).1 x (σ i)
   rw [reG_nt]
   exact hd
  ·rename_i z j k hk
   rw [hk] at hd
   cases hz:(z == 3) with
   | false=>rw [hz] at h; cases h
   | true =>
    rw [hz] at h
    cases h
    have hz:z=3:=by simpa using hz
    subst hz
    refine ⟨?_,fun q hq=>by simp [mk1] at hq⟩
    obtain ⟨hds,B,n,cp,g1,g2,g3⟩:=hd
    exact ⟨hds,B,n,cp,by rw [reG_nt]; exact g1,g2,by rw [g3,Nat.add_zero]⟩
  ·rename_i hk
   cases h
   rw [hk] at hd
   exact ⟨Rd.pnil_inv hd,fun q hq=>by simp [mk1] at hq⟩
  ·cases h
 | nal =>
  simp only [un1] at h
  split at h
  ·rename_i j hk
   cases h
   rw [hk] at hd
   obtain ⟨hds,g1,g2⟩:=hd
   exact ⟨⟨hds,by rw [reG_nt]; exact g1,g2⟩,fun q hq=>by simp [mk1] at hq⟩
  ·cases h
 | al j =>
  simp only [un1] at h
  split at h
  ·rename_i t hk
   split at h
   ·rename_i t' hk'
    cases hc:(t == t' && ((nkp s.np j || t' == j) && !(j == NT) && !(Nat.ble NTR j))) with
    | false=>rw [hc] at h; cases h
    | true =>
     rw [Bool.and_eq_true,beq_iff_eq] at hc
     obtain ⟨rfl,hc⟩:=hc
     have hg:=reG_ref (ι:=ι) (o:=0) hc (.inl hk')
     rw [hk] at hd
     have hd:σ i=(ι t).1:=hd
     exact ⟨by show _=_; rw [hd,hg],fun q hq=>by simp [mk1] at hq⟩
   ·cases h
  ·rename_i hk
   split at h
   ·rename_i hk'
    cases hc:(nkp s.np j && !(j == NT) && !(Nat.ble NTR j)) with
    | false=>rw [hc] at h; cases h
    | true =>
     have hg:=reG_nil (ι:=ι) hc hk'
     rw [hk] at hd
     exact ⟨by show _=_; rw [hg]; exact Rd.nil_inv hd,fun q hq=>by simp [mk1] at hq⟩
   ·cases h
  ·cases h
 | mp =>
  simp only [un1] at h
  split at h
  ·rename_i t hk
   cases hc:((nkp s.np i || t == i) && !(i == NT) && !(Nat.ble NTR i)) with
   | false=>rw [hc] at h; cases h
   | true =>
    rw [hc] at h
    simp only [cond_true] at h
    split at h
    ·rename_i l hlk
     cases h
     have hg:=reG_ref (ι:=ι) (o:=0) hc (.inl hk)
     rw [hk] at hd
     have hd:σ i=(ι t).1:=hd
     obtain ⟨B,cs,a,b,c⟩:=hr.look hlk
     refine ⟨by show _=_; rw [hd,hg],fun q' hq=>?_⟩
     simp only [mk1,List.mem_singleton] at hq
     subst hq
     exact ⟨B,cs,by rw [hg]; exact a,by rw [hg]; exact b,c.mono hf⟩
    ·cases h
  ·cases h
 | sit =>
  simp only [un1] at h
  split at h
  ·rename_i t hk
   cases hc:((nkp s.np i || t == i) && !(i == NT) && !(Nat.ble NTR i)) with
   | false=>rw [hc] at h; cases h
   | true =>
    rw [hc] at h
    simp only [cond_true] at h
    split at h
    ·rename_i l pos hlk
     cases h
     have hg:=reG_ref (ι:=ι) (o:=0) hc (.inr (.inl hk))
     rw [hk] at hd
     obtain ⟨B,g1,g2⟩:=hd
     obtain ⟨B',a,b⟩:=hr.look hlk
     refine ⟨⟨B,by rw [hg]; exact g1,g2⟩,fun q' hq=>?_⟩
     simp only [mk1,List.mem_singleton] at hq
     subst hq
     exact ⟨B',by rw [hg]; exact a,by rw [hg]; exact b⟩
    ·cases h
  ·cases h
theorem unP_sound {σ:Nat→Value} {lax:Bool} (hr:RelV F ι s σ) (hf:F.le F1) (hn:F1.nid=F.nid):∀ {p:Pt} {x:Tup p},(lax=true→∀ t∈lent s p,∀ q∈(ι t).2,isB (F1.m q.1) q)→unP s lax p=some x→MP F1 (reG ι s) σ p x
 | [],_,_,_=>trivial
 | [q],x,hF,h=>un1_sound hr hf hn hF h
 | q::q'::ps,x,hF,h=>by
  simp only [unP] at h
  cases h1:un1 s lax q.1 q.2 with
  | none=>rw [h1] at h; cases h
  | some a =>
   rw [h1] at h
   simp only at h
   cases h2:unP s lax (q'::ps) with
   | none=>rw [h2] at h; cases h
   | some b =>
    rw [h2] at h
    cases h
    exact ⟨un1_sound hr hf hn (fun hl t ht=>hF hl t (by rw [lent_cons]; exact List.mem_append_left _ ht)) h1,unP_sound hr hf hn (p:=q'::ps) (fun hl t ht=>hF hl t (by rw [lent_cons]; exact List.mem_append_right _ ht)) h2⟩
end
end Go.Proofs.YtkmigbicabfodaaGreat.V
namespace Go.Proofs.YtkmigbicabfodaaGreat.V
open Go K
section
variable {P:Program} {C:Cx} {R:Type} {F F' F1 F2':Frz} {ι ι' ι1:Gh} {s s':St} {ρ:List Value} {d:D} {v:Value} {t dt:Nat} {L0:List Blk} {r:R} {dst:Option Tmp} {ty:TypeId} {p:String} {af:Array Edge} {gd:Option (Nat×Bool)} {h:Array Obj}
def kl (ι:Gh) (ks:List Nat):List Blk:=ks.flatMap fun t=>(ι t).2
theorem lv_kl (ow:List (Nat×OB)):lv ι ow=kl ι (ow.map (·.1)):=by simp [lv,kl,List.flatMap_map]
theorem kl_append (a b:List Nat):kl ι (a++b)=kl ι a++kl ι b:=by simp [kl]
theorem kl_perm {a b:List Nat} (h:a.Perm b):(kl ι a).Perm (kl ι b):=h.flatMap_right _
theorem kl_sub:∀ {a b:List Nat},a.Sublist b→(kl ι a).Sublist (kl ι b)
 | _,_, .slnil => .slnil
 | _,_, .cons x h=>by simp only [kl,List.flatMap_cons]; exact (kl_sub h).trans (List.sublist_append_right _ _)
 | _,_, .cons_cons x h=>by simp only [kl,List.flatMap_cons]; exact (List.Sublist.refl _).append (kl_sub h)
theorem kl_congr {a:List Nat} (h:∀ t∈a,ι' t=ι t):kl ι' a=kl ι a:=by
 unfold kl
 induction a with
 | nil=>rfl
 | cons t a ih=>simp only [List.flatMap_cons]; rw [h t (by simp),ih fun q hq=>h q (by simp [hq])]
def without (ks T:List Nat):List Nat:=ks.filter fun k=>!T.contains k
theorem perm_without {ks T:List Nat} (hk:ks.Nodup) (hT:T.Nodup) (hs:∀ t∈T,t∈ks):ks.Perm (T++without ks T):=by
 refine (List.perm_ext_iff_of_nodup hk ?_).2 fun a=>?_
 ·rw [List.nodup_append]
  refine ⟨hT,hk.sublist List.filter_sublist,fun a ha b hb e=>?_⟩
  subst e
  have:=(List.mem_filter.1 hb).2
  simp [ha] at this
 ·simp only [List.mem_append,without,List.mem_filter,List.contains_eq_mem,Bool.not_eq_true',decide_eq_false_iff_not]
  constructor
  ·intro ha
   by_cases h:a∈T
   ·exact .inl h
   ·exact .inr ⟨ha,h⟩
  ·rintro (h | h)
   ·exact hs a h
   ·exact h.1
theorem purgeAll_keys:∀ {T:List Nat} {s:St},(purgeAll s T).ow.map (·.1)=without (s.ow.map (·.1)) T
 | [],s=>by
  simp only [purgeAll,without,List.contains_nil,Bool.not_false]
  exact (List.filter_eq_self.2 fun _ _=>rfl).symm
 | t::T,s=>by
  simp only [purgeAll]
  rw [purgeAll_keys,purge_keys]
  simp only [without]
  have:(s.ow.filter fun p=>!(p.1 == t)).map (·.1)=(s.ow.map (·.1)).filter fun k=>!(k == t):=by rw [List.filter_map]; rfl
  rw [this,List.filter_filter]
  refine List.filter_congr fun x _=>?_
  simp only [List.contains_cons]
  cases (x == t) <;> simp
theorem purgeAll_rel:∀ {T:List Nat} {s:St} {ι:Gh},Rel F ι s ρ→(∀ t,t∉T→ι' t=ι t)→Rel F ι' (purgeAll s T) ρ
 | [],s,ι,hr,he=>by
  have:ι'=ι:=funext fun t=>he t (by simp)
  rw [this]
  exact hr
 | t::T,s,ι,hr,he=>by
  show Rel F ι' (purgeAll (s.purge t) T) ρ
  refine purgeAll_rel (ι:=fun t'=>if t'=t then ι' t else ι t') (hr.purge' (t:=t) fun t' h=>if_neg h) fun t' h=>?_
  by_cases e:t'=t
  ·subst e; simp
  ·simp only [e,if_false]; exact he t' (by simp [e,h])
theorem purgeAll_n:∀ {T:List Nat} {s:St},(purgeAll s T).n=s.n∧(purgeAll s T).np=s.np∧(purgeAll s T).nw=s.nw
 | [],_=>⟨rfl,rfl,rfl⟩
 | _::T,s=>by simp only [purgeAll]; rw [purgeAll_n.1,purgeAll_n.2.1,purgeAll_n.2.2]; exact ⟨rfl,rfl,rfl⟩
theorem look_key {b:OB} (h:s.look t=some b):t∈s.ow.map (·.1):=List.mem_map.2 ⟨_,look_mem h,rfl⟩
theorem freezeAll_sound:∀ {T:List Nat} {s s0:St} {F:Frz},Rel F ι s ρ→F.le F1→F1.nid=F.nid→(∀ t∈T,∀ q∈(ι t).2,isB (F1.m q.1) q)→freezeAll s T=some s0→Rel F1 ι s0 ρ∧s0.ow.map (·.1)=without (s.ow.map (·.1)) T∧s0.n=s.n∧s0.np=s.np∧s0.nw=s.nw
 | [],s,s0,F,hr,hf,hn,_,h=>by
  cases h
  refine ⟨hr.mono hf hn,?_,rfl,rfl,rfl⟩
  simp only [without,List.contains_nil,Bool.not_false]
  exact (List.filter_eq_self.2 fun _ _=>rfl).symm
 | t::T,s,s0,F,hr,hf,hn,hF,h=>by
  simp only [freezeAll] at h
  have fin:∀ d,Rd F1 [d] [(ι t).1]→freezeAll (s.freeze t d) T=some s0→Rel F1 ι s0 ρ∧s0.ow.map (·.1)=without (s.ow.map (·.1)) (t::T)∧s0.n=s.n∧s0.np=s.np∧s0.nw=s.nw:=fun d hrd h=>by
   have hr1:Rel F1 ι (s.freeze t d) ρ:=by
    refine ⟨hr.len,fun i=>((hr.sl i).mono hf).frz hrd,fun p hp=>?_,?_⟩
    ·simp only [St.freeze,List.mem_map,List.mem_filter] at hp
     obtain ⟨q,⟨hq,_⟩,rfl⟩:=hp
     exact ((hr.ow q hq).mono hf fun _=>hn).frz hrd
    ·rw [freeze_keys]
     exact hr.nd.sublist ((List.filter_sublist).map _)
   obtain ⟨a,b,c,d,e⟩:=freezeAll_sound hr1 (.refl F1) rfl (fun t ht=>hF t (by simp [ht])) h
   refine ⟨a,?_,c,d,e⟩
   rw [b,freeze_keys]
   simp only [without]
   have:(s.ow.filter fun p=>!(p.1 == t)).map (·.1)=(s.ow.map (·.1)).filter fun k=>!(k == t):=by rw [List.filter_map]; rfl
   rw [this,List.filter_filter]
   refine List.filter_congr fun x _=>?_
   simp only [List.contains_cons]
   cases (x == t) <;> simp
  split at h
  ·rename_i e T' xs hlk
   exact fin _ (own_rd (hr.look hlk) hf (hF t (by simp))) h
  ·rename_i T' ds hlk
   cases hp:ds.all D.plain with
   | false=>rw [hp] at h; cases h
   | true =>
    rw [hp] at h
    exact fin _ (cells_fp (hr.look hlk) hp hf (hF t (by simp))) h
  ·cases h
theorem un1_tag {lax:Bool} {i:Nat} {k:Kd} {x:k.T} (h:un1 s lax i k=some x):(∀ t∈tag1 s i k,∃ b,s.look t=some b)∧kl (reG ι s) ((mk1 i k x).2.map (·.1))=kl ι (tag1 s i k):=by
 cases k with
 | own e T =>
  simp only [un1] at h
  split at h
  ·rename_i t hk
   cases hc:((nkp s.np i || t == i) && !(i == NT) && !(Nat.ble NTR i)) with
   | false=>rw [hc] at h; cases h
   | true =>
    rw [hc] at h
    simp only [cond_true] at h
    split at h
    ·rename_i hlk
     refine ⟨fun t' ht=>?_,?_⟩
     ·simp only [tag1,hk,List.mem_singleton] at ht
      subst ht
      exact ⟨_,hlk⟩
     ·have hg:=reG_ref (ι:=ι) (o:=0) hc (.inl hk)
      simp [tag1,hk,mk1,kl,hg]
    ·cases h
  ·rename_i hk
   refine ⟨fun t' ht=>by simp [tag1,hk] at ht,?_⟩
   cases hc:(nkp s.np i && !(i == NT) && !(Nat.ble NTR i)) with
   | false=>rw [hc] at h; cases h
   | true =>
    have hg:=reG_nil (ι:=ι) hc hk
    simp [tag1,hk,mk1,kl,hg]
  ·cases h
 | blk e T =>
  simp only [un1] at h
  split at h
  ·rename_i t hk
   cases hc:((nkp s.np i || t == i) && !(i == NT) && !(Nat.ble NTR i)) with
   | false=>rw [hc] at h; cases h
   | true =>
    rw [hc] at h
    simp only [cond_true] at h
    split at h
    ·rename_i hlk
     refine ⟨fun t' ht=>?_,?_⟩
     ·simp only [tag1,hk,List.mem_singleton] at ht
      subst ht
      exact ⟨_,hlk⟩
     ·have hg:=reG_ref (ι:=ι) (o:=0) hc (.inr (.inl hk))
      simp [tag1,hk,mk1,kl,hg]
    ·cases h
  ·cases h
 | mp =>
  simp only [un1] at h
  split at h
  ·rename_i t hk
   cases hc:((nkp s.np i || t == i) && !(i == NT) && !(Nat.ble NTR i)) with
   | false=>rw [hc] at h; cases h
   | true =>
    rw [hc] at h
    simp only [cond_true] at h
    split at h
    ·rename_i hlk
     refine ⟨fun t' ht=>?_,?_⟩
     ·simp only [tag1,hk,List.mem_singleton] at ht
      subst ht
      exact ⟨_,hlk⟩
     ·have hg:=reG_ref (ι:=ι) (o:=0) hc (.inl hk)
      simp [tag1,hk,mk1,kl,hg]
    ·cases h
  ·cases h
 | sit =>
  simp only [un1] at h
  split at h
  ·rename_i t hk
   cases hc:((nkp s.np i || t == i) && !(i == NT) && !(Nat.ble NTR i)) with
   | false=>rw [hc] at h; cases h
   | true =>
    rw [hc] at h
    simp only [cond_true] at h
    split at h
    ·rename_i hlk
     refine ⟨fun t' ht=>?_,?_⟩
     ·simp only [tag1,hk,List.mem_singleton] at ht
      subst ht
      exact ⟨_,hlk⟩
     ·have hg:=reG_ref (ι:=ι) (o:=0) hc (.inr (.inl hk))
      simp [tag1,hk,mk1,kl,hg]
    ·cases h
  ·cases h
 | ns cl T A =>
  simp only [un1] at h
  cases hi:(i == NT) with
  | false=>rw [hi] at h; cases h
  | true =>
   rw [hi] at h
   simp only [cond_true] at h
   have hi:i=NT:=by simpa using hi
   subst hi
   split at h
   ·rename_i hlk
    refine ⟨fun t' ht=>?_,by simp [tag1,mk1,kl,reG_nt]⟩
    simp only [tag1,List.mem_singleton] at ht
    subst ht
    exact ⟨_,hlk⟩
   ·cases h
 | nsr cl =>
  simp only [un1] at h
  cases hi:(i == NTR) with
  | false=>rw [hi] at h; cases h
  | true =>
   have hi:i=NTR:=by simpa using hi
   subst hi
   exact ⟨fun t ht=>by simp [tag1] at ht,by simp [tag1,mk1,kl,reG_ntr]⟩
 | blkx T fs =>
  simp only [un1] at h
  split at h
  ·rename_i t hk
   cases hc:((nkp s.np i || t == i) && !(i == NT) && !(Nat.ble NTR i)) with
   | false=>rw [hc] at h; cases h
   | true =>
    rw [hc] at h
    simp only [cond_true] at h
    split at h
    ·rename_i hlk
     refine ⟨fun t' ht=>?_,?_⟩
     ·simp only [tag1,hk,List.mem_singleton] at ht
      subst ht
      exact ⟨_,hlk⟩
     ·have hg:=reG_ref (ι:=ι) (o:=0) hc (.inr (.inl hk))
      simp [tag1,hk,mk1,kl,hg]
    ·cases h
  ·cases h
 | clox f T fs es =>
  simp only [un1] at h
  split at h
  ·rename_i f' t cs0 hk
   cases hc:((nkp s.np i || t == i) && !(i == NT) && !(Nat.ble NTR i)) with
   | false=>rw [hc] at h; cases h
   | true =>
    rw [hc] at h
    simp only [cond_true] at h
    split at h
    ·rename_i hlk
     refine ⟨fun t' ht=>?_,?_⟩
     ·simp only [tag1,hk,List.mem_singleton] at ht
      subst ht
      exact ⟨_,hlk⟩
     ·have hg:=reG_ref (ι:=ι) (o:=0) hc (.inr (.inr ⟨_,_,hk⟩))
      simp [tag1,hk,mk1,kl,hg]
    ·cases h
  ·cases h
 | hown i0 j e T =>
  simp only [un1] at h
  cases hc:(i == subT i0 j && Nat.blt j 64) with
  | false=>rw [hc] at h; cases h
  | true =>
   rw [hc] at h
   simp only [cond_true] at h
   rw [Bool.and_eq_true,beq_iff_eq,Nat.blt_eq] at hc
   obtain ⟨rfl,hj⟩:=hc
   have hg:=reG_sub (ι:=ι) (s:=s) (i0:=i0) hj
   split at h
   ·rename_i t hk
    rw [hk] at hg
    split at h
    ·rename_i hlk
     refine ⟨fun t' ht=>?_,by simp [tag1,hk,mk1,kl,hg]⟩
     simp only [tag1,hk,List.mem_singleton] at ht
     subst ht
     exact ⟨_,hlk⟩
    ·cases h
   ·rename_i hk
    rw [hk] at hg
    exact ⟨fun t' ht=>by simp [tag1,hk] at ht,by simp [tag1,hk,mk1,kl,hg]⟩
   ·cases h
 | _=>exact ⟨fun t ht=>by simp [tag1] at ht,rfl⟩
theorem unP_tag {lax:Bool}:∀ {p:Pt} {x:Tup p},unP s lax p=some x→(∀ t∈tags s p,∃ b,s.look t=some b)∧lv (reG ι s) (mkOw p x)=kl ι (tags s p)
 | [],_,_=>⟨fun t ht=>by simp [tags] at ht,rfl⟩
 | [q],x,h=>by
  obtain ⟨a,b⟩:=un1_tag (ι:=ι) (show un1 s lax q.1 q.2=some x from h)
  refine ⟨fun t ht=>a t (by simpa [tags] using ht),?_⟩
  show lv (reG ι s) (mk1 q.1 q.2 x).2=_
  rw [lv_kl,b]
  simp [tags]
 | q::q'::ps,x,h=>by
  simp only [unP] at h
  cases h1:un1 s lax q.1 q.2 with
  | none=>rw [h1] at h; cases h
  | some a =>
   rw [h1] at h
   simp only at h
   cases h2:unP s lax (q'::ps) with
   | none=>rw [h2] at h; cases h
   | some b =>
    rw [h2] at h
    cases h
    obtain ⟨c,d⟩:=un1_tag (ι:=ι) h1
    obtain ⟨e,f⟩:=unP_tag (p:=q'::ps) h2
    have ht:tags s (q::q'::ps)=tag1 s q.1 q.2++tags s (q'::ps):=by simp [tags]
    rw [ht]
    refine ⟨fun t ht=>?_,?_⟩
    ·rcases List.mem_append.1 ht with ht | ht
     ·exact c t ht
     ·exact e t ht
    ·show lv (reG ι s) ((mk1 q.1 q.2 a).2++mkOw (q'::ps) b)=_
     rw [lv_append,f,lv_kl,d,kl_append]
theorem lent1_look {i:Nat} {k:Kd} {x:k.T} (h:un1 s true i k=some x):∀ t∈lent s [(i,k)],∃ b,s.look t=some b:=by
 intro t ht
 cases k <;> simp only [lent] at ht <;> try (simp at ht; done)
 ·split at ht
  ·rename_i t' hk
   simp only [List.mem_singleton] at ht
   subst ht
   simp only [un1,hk,cond_true] at h
   split at h
   ·rename_i hlk; exact ⟨_,hlk⟩
   ·cases h
  ·simp at ht
 ·split at ht
  ·rename_i t' hk
   simp only [List.mem_singleton] at ht
   subst ht
   simp only [un1,hk,cond_true] at h
   split at h
   ·rename_i hlk; exact ⟨_,hlk⟩
   ·cases h
  ·simp at ht
 ·split at ht
  ·simp at ht
  ·split at ht
   ·rename_i hlk
    simp only [List.mem_singleton] at ht
    subst ht
    exact ⟨_,hlk⟩
   ·simp at ht
theorem lent_look:∀ {p:Pt} {x:Tup p},unP s true p=some x→∀ t∈lent s p,∃ b,s.look t=some b
 | [],_,_,t,ht=>by simp [lent] at ht
 | [(i,k)],x,h,t,ht=>lent1_look h t ht
 | (i,k)::q'::ps,x,h,t,ht=>by
  simp only [unP] at h
  cases h1:un1 s true i k with
  | none=>rw [h1] at h; cases h
  | some a =>
   rw [h1] at h
   simp only at h
   cases h2:unP s true (q'::ps) with
   | none=>rw [h2] at h; cases h
   | some b =>
    rw [lent_cons] at ht
    rcases List.mem_append.1 ht with ht | ht
    ·exact lent1_look h1 t ht
    ·exact lent_look (p:=q'::ps) h2 t ht
theorem unD_sound {p:Pt} {x:Tup p} (hr:Rel F ι s ρ) (hm:Hp h F (lv ι s.ow++L0)) (hu:unD s p=some x):Rel F (reG ι s) (mkP s.n s.np s.nw p x) ρ∧Hp h F (lv (reG ι s) (mkOw p x)++L0)∧∀ t,(s.np / 1000≤t∧t<s.np % 1000)→(reG ι s t).1=(ι t).1:=by
 unfold unD at hu
 cases hc:(nodupB (tags s p) && nodupB (p.map (·.1))) with
 | false=>rw [hc] at hu; cases hu
 | true =>
  rw [hc] at hu
  simp only [cond_true] at hu
  rw [Bool.and_eq_true] at hc
  have h1:=nodupB_nodup hc.1
  have h2:=nodupB_nodup hc.2
  obtain ⟨h3,h4⟩:=unP_tag (ι:=ι) hu
  refine ⟨(unP_sound hr.toV (.refl F) rfl (fun h=>by cases h) hu).rel h2 hr.len,?_,fun t ht=>reG_np ht⟩
  rw [h4]
  have h5:=perm_without hr.nd h1 fun t ht=>by obtain ⟨b,hb⟩:=h3 t ht; exact look_key hb
  rw [lv_kl] at hm
  have h6:=hm.perm (((kl_perm (ι:=ι) h5).symm).append_right L0)
  rw [kl_append] at h6
  exact h6.sub ((List.sublist_append_left _ _).append (List.Sublist.refl _))
theorem unD_vals {σ:Nat→Value} {p:Pt} {x:Tup p} (hr:RelV F ι s σ) (hm:Hp h F (lv ι s.ow++L0)) (hu:unD s p=some x):MP F (reG ι s) σ p x∧Hp h F (lv (reG ι s) (mkOw p x)++L0):=by
 unfold unD at hu
 cases hc:(nodupB (tags s p) && nodupB (p.map (·.1))) with
 | false=>rw [hc] at hu; cases hu
 | true =>
  rw [hc] at hu
  simp only [cond_true] at hu
  rw [Bool.and_eq_true] at hc
  have h1:=nodupB_nodup hc.1
  have h2:=nodupB_nodup hc.2
  obtain ⟨h3,h4⟩:=unP_tag (ι:=ι) hu
  refine ⟨unP_sound hr (.refl F) rfl (fun h=>by cases h) hu,?_⟩
  rw [h4]
  have h5:=perm_without hr.nd h1 fun t ht=>by obtain ⟨b,hb⟩:=h3 t ht; exact look_key hb
  rw [lv_kl] at hm
  have h6:=hm.perm (((kl_perm (ι:=ι) h5).symm).append_right L0)
  rw [kl_append] at h6
  exact h6.sub ((List.sublist_append_left _ _).append (List.Sublist.refl _))
end
end Go.Proofs.YtkmigbicabfodaaGreat.V
namespace Go.Proofs.YtkmigbicabfodaaGreat.V
open Go K
def joinV:List Value→Value
 | [v]=>v
 | vs => .tuple vs.toArray
def vX (vs:List Value) (ι:Gh) (k:Nat):Value:=if k<1000 then vs.getD k undef else if k=NT∨SB≤k then undef else (ι (k - 1000)).1
def Res (F:Frz) (ι:Gh) (ent:Ent) (r:Tup ent.pout) (L0:List Blk) (v:Value) (h':Array Obj):Prop :=
 ∃ F' ι' vs,F.le F'∧(hasNT ent.pout=false→F'.nid=F.nid)∧vs.length=(realK ent.pout).length∧MP F' ι' (vX vs ι) ent.pout r∧v=joinV vs∧Hp h' F' (lv ι' (mkOw ent.pout r)++L0)∧∀ k∈ent.pout.map (·.1),1000≤k→k≠NT→k<SB→(ι' k).1=(ι (k - 1000)).1
def FnOK (P:Program) (f:FuncId) (ent:Ent):Prop :=
 ∀ (x:Tup ent.pin) (r:Tup ent.pout),ent.m x=some r→∀ (F:Frz) (ι:Gh) (h:Array Obj) (L0:List Blk) (vargs:List Value),vargs.length=(realK ent.pin).length→MP F ι (fun i=>vargs.getD i undef) ent.pin x→Hp h F (lv ι (mkOw ent.pin x)++L0)→Ret P f vargs h (Res F ι ent r L0)
def CxOK (P:Program) (C:Cx):Prop:=CtOK P C∧∀ f ent,C.fns f=some ent→FnOK P (f % 1000000) ent∧∀ args w,(callFunc (f % 1000000) args).run P w = .ok (.enter (f % 1000000) args) w
theorem pickE_ok {P:Program} {C:Cx} {f:FuncId} {args:List D} {ent:Ent} (hC:CxOK P C) (h:pickE C f args=some ent):FnOK P f ent∧∀ args w,(callFunc f args).run P w = .ok (.enter f args) w:=by
 unfold pickE at h
 cases hb:Nat.blt f 1000000 with
 | false=>rw [hb] at h; cases h
 | true =>
  rw [hb] at h
  simp only [cond_true] at h
  have hf:f<1000000:=by simpa [Nat.blt_eq] using hb
  have e0:f % 1000000=f:=Nat.mod_eq_of_lt hf
  have plain:C.fns f=some ent→FnOK P f ent∧∀ args w,(callFunc f args).run P w = .ok (.enter f args) w:=fun h=>by
   have:=hC.2 f ent h
   rw [e0] at this
   exact this
  split at h
  ·rename_i g hg
   split at h
   ·rename_i e he
    cases h
    have:=hC.2 _ _ he
    rw [Nat.add_mul_mod_self_left,e0] at this
    exact this
   ·exact plain h
  ·exact plain h
section
variable {P:Program} {C:Cx} {R:Type} {F F' F1 F3:Frz} {ι ι' ι1 ι2 ι3:Gh} {s s':St} {ρ:List Value} {d:D} {v:Value} {t dt:Nat} {L0:List Blk} {r:R} {dst:Option Tmp} {ty:TypeId} {p:String} {af:Array Edge} {gd:Option (Nat×Bool)} {h:Array Obj}
theorem mk1_notup {i:Nat} {k:Kd} {x:k.T}:∀ ds,(mk1 i k x).1 ≠ .tup ds:=by intro ds; cases k <;> simp [mk1]
theorem out1_sound {τ:Nat→Nat} {j:Nat} {k:Kd} {x:k.T} (hι:ι3 (τ j)=ι2 j) (hs:∀ y∈k.subs,ι3 (subT (τ j) y)=ι2 (subT j y)) (hN:j=NT→τ j=NT) {nb:Bool} (hnb:nb=true→ι3 NT=ι2 NT) (hA:k.noAl nb=true) (h:M1 F ι2 j k x v) :
  M1 F ι3 (τ j) k x v∧(mk1 (τ j) k x).2.map (·.1)=((mk1 j k x).2.map (·.1)).map τ∧lv ι3 (mk1 (τ j) k x).2=lv ι2 (mk1 j k x).2:=by
 refine ⟨h.ren hA hι hs hN hnb,?_,?_⟩
 ·cases k <;> rfl
 ·cases k <;> simp [mk1,lv,hι]
theorem realK_cons {q:Nat×Kd} {ps:Pt}:realK (q::ps)=(cond (Nat.blt q.1 1000) [q.1] [])++realK ps:=by
 simp only [realK,List.map_cons,List.filter_cons]
 cases Nat.blt q.1 1000 <;> rfl
theorem F2.app {α β:Type} {R:α→β→Prop}:∀ {l l':List α} {m m':List β},F2 R l m→F2 R l' m'→F2 R (l++l') (m++m')
 | _,_,_,_, .nil,h=>h
 | _,_,_,_, .cons h t,h' => .cons h (t.app h')
theorem out_sound {τ:Nat→Nat} {vs:Nat→Value} {nb:Bool} (hnb:nb=true→ι3 NT=ι2 NT):∀ {q:Pt} {x:Tup q},(∀ a∈q,a.2.noAl nb=true)→(∀ k∈q.map (·.1),ι3 (τ k)=ι2 k)→(∀ a∈q,∀ y∈a.2.subs,ι3 (subT (τ a.1) y)=ι2 (subT a.1 y))→(∀ k∈q.map (·.1),k=NT→τ k=NT)→MP F ι2 vs q x →
  F2 (fun d v=>RdV F ι3 d v∧∀ ds,d ≠ .tup ds) (outDs τ q x) ((realK q).map vs)∧(∀ b∈outOw τ q x,OwnR F ι3 b.1 b.2)∧(outOw τ q x).map (·.1)=((mkOw q x).map (·.1)).map τ∧lv ι3 (outOw τ q x)=lv ι2 (mkOw q x)
 | [],x,_,_,_,_,_=>⟨.nil,by simp [outOw],rfl,rfl⟩
 | [a],x,hA,hι,hs,hN,hm=>by
  obtain ⟨h1,h2,h3⟩:=out1_sound (τ:=τ) (hι a.1 (by simp)) (hs a (by simp)) (hN a.1 (by simp)) hnb (hA a (by simp)) (show M1 F ι2 a.1 a.2 x (vs a.1) from hm)
  refine ⟨?_,h1.2,h2,h3⟩
  rw [realK_cons]
  simp only [outDs]
  cases Nat.blt a.1 1000 with
  | true=>exact .cons ⟨h1.1,mk1_notup⟩ .nil
  | false=>exact .nil
 | a::b::q,x,hA,hι,hs,hN,hm=>by
  obtain ⟨h1,h2,h3⟩:=out1_sound (τ:=τ) (hι a.1 (by simp)) (hs a (by simp)) (hN a.1 (by simp)) hnb (hA a (by simp)) (show M1 F ι2 a.1 a.2 x.1 (vs a.1) from hm.1)
  obtain ⟨b1,b2,b3,b4⟩:=out_sound (τ:=τ) (vs:=vs) hnb (q:=b::q) (x:=x.2) (fun a ha=>hA a (List.mem_cons_of_mem _ ha)) (fun k hk=>hι k (List.mem_cons_of_mem _ hk)) (fun a ha=>hs a (List.mem_cons_of_mem _ ha)) (fun k hk=>hN k (List.mem_cons_of_mem _ hk)) hm.2
  have e1:outOw τ (a::b::q) x=(mk1 (τ a.1) a.2 x.1).2++outOw τ (b::q) x.2:=rfl
  have e2:mkOw (a::b::q) x=(mk1 a.1 a.2 x.1).2++mkOw (b::q) x.2:=rfl
  refine ⟨?_,fun c hc=>?_,?_,?_⟩
  ·rw [realK_cons,List.map_append]
   simp only [outDs]
   cases Nat.blt a.1 1000 with
   | true=>exact .cons ⟨h1.1,mk1_notup⟩ b1
   | false=>exact b1
  ·rw [e1] at hc
   rcases List.mem_append.1 hc with hc | hc
   ·exact h1.2 c hc
   ·exact b2 c hc
  ·rw [e1,e2,List.map_append,List.map_append,List.map_append,h2,b3]
  ·rw [e1,e2,lv_append,lv_append,h3,b4]
theorem joinD_sound:∀ {ds:List D} {vs:List Value},F2 (fun d v=>RdV F ι d v∧∀ ds,d ≠ .tup ds) ds vs→RdV F ι (joinD ds) (joinV vs)
 | [],_, .nil=>trivial
 | [_],[_], .cons h .nil=>h.1
 | a::b::ds,_, .cons h (.cons h' t)=>⟨_,rfl, .cons (h.1.to_w h.2) (.cons (h'.1.to_w h'.2) (forall2_imp (fun _ _ h=>h.1.to_w h.2) t))⟩
theorem without_without {ks A B:List Nat}:without (without ks A) B=without ks (B++A):=by
 simp only [without,List.filter_filter]
 refine List.filter_congr fun x _=>?_
 simp only [List.contains_eq_mem,List.mem_append]
 by_cases h1:x∈A <;> by_cases h2:x∈B <;> simp [h1,h2]
theorem without_sub {ks A:List Nat}:(without ks A).Sublist ks:=List.filter_sublist
theorem without_mono {ks A B:List Nat} (h:∀ t∈A,t∈B):(without ks B).Sublist (without ks A):=by
 have:without ks B=without (without ks A) B:=by
  rw [without_without]
  refine List.filter_congr fun x _=>?_
  simp only [List.contains_eq_mem,List.mem_append]
  by_cases h1:x∈B
  ·simp [h1]
  ·have:x∉A:=fun hA=>h1 (h x hA)
   simp [h1,this]
 rw [this]
 exact without_sub
def Frz.wth (F F':Frz):Frz:=⟨F.m,F'.nid,F'.lv,F'.inj,F'.nlt⟩
theorem Hp.nid_eq (hm:Hp h F L0) (h1:F'.m=F.m) (h2:∀ b,F'.lv b→F.lv b):Hp h F' L0:=⟨fun b o hb=>hm.frz b o (by rw [← h1]; exact hb),hm.own,fun p hp=>by rw [h1]; exact hm.sep p hp,hm.nodup,(fun b hb=>hm.live b (h2 b hb)),by rw [h1]; exact hm.gl⟩
theorem Hp.unfreeze {Lb L:List Blk} {h':Array Obj} (hm:Hp h F (Lb++L)) (hF:∀ p∈Lb,isB (F1.m p.1) p) (hf:F.le F1) {L':List Blk} (hm':Hp h' F1 L'):Hp h' (F.wth F1) (Lb++L'):=by
 have hn:=hm.nodup
 rw [List.map_append,List.nodup_append] at hn
 refine ⟨fun b o hb=>hm'.frz b o (hf.1 b o hb),fun p hp=>?_,fun p hp=>?_,?_,hm'.live,hm.gl⟩
 ·rcases List.mem_append.1 hp with hp | hp
  ·exact (hF p hp).frz hm'
  ·exact hm'.own p hp
 ·rcases List.mem_append.1 hp with hp | hp
  ·exact hm.sep p (by simp [hp])
  ·exact (hm'.weaken hf hm.gl).sep p hp
 ·rw [List.map_append,List.nodup_append]
  refine ⟨hn.1,hm'.nodup,fun a ha b hb e=>?_⟩
  subst e
  obtain ⟨p,hp,rfl⟩:=List.mem_map.1 ha
  obtain ⟨q,hq,he⟩:=List.mem_map.1 hb
  obtain ⟨x,h1⟩:=(hF p hp).some
  have h2:=hm'.sep q hq
  rw [he,h1] at h2
  cases h2
theorem getD_map_g {xs:List Operand} (hr:Rel F ι s ρ):∀ i,RdV F ι ((xs.map (g s)).getD i .u) ((xs.map (ev ρ)).getD i undef):=by
 intro i
 simp only [List.getD_eq_getElem?_getD,List.getElem?_map]
 cases xs[i]? with
 | none=>trivial
 | some x=>exact g_rd hr x
theorem kl_key {ks:List Nat} {q:Blk}:q∈kl ι ks↔∃ t∈ks,q∈(ι t).2:=by simp [kl]
theorem args_sound {sa:St} {vargs:List Value} {q:Pt} {x:Tup q} (hr:Rel F ι sa vargs) (hm:Hp h F (lv ι sa.ow++L0)) (hnd:(tags sa q++lent sa q).Nodup) (hu:unP sa true q=some x) :
  ∃ F1,F.le F1∧F1.nid=F.nid∧(∀ t∈lent sa q,∀ b∈(ι t).2,isB (F1.m b.1) b)∧MP F1 (reG ι sa) (fun i=>vargs.getD i undef) q x∧lv (reG ι sa) (mkOw q x)=kl ι (tags sa q)∧Hp h F1 (kl ι (tags sa q)++(kl ι (without (sa.ow.map (·.1)) (tags sa q++lent sa q))++L0)) ∧
   ∀ F2 h' L',F1.le F2→Hp h' F2 L'→Hp h' (F.wth F2) (kl ι (lent sa q)++L'):=by
 obtain ⟨h3,h4⟩:=unP_tag (ι:=ι) hu
 have h5:=lent_look hu
 have hk:∀ t∈tags sa q++lent sa q,t∈sa.ow.map (·.1):=fun t ht=>by
  rcases List.mem_append.1 ht with ht | ht
  ·obtain ⟨b,hb⟩:=h3 t ht; exact look_key hb
  ·obtain ⟨b,hb⟩:=h5 t ht; exact look_key hb
 have hp:=perm_without hr.nd hnd hk
 rw [lv_kl] at hm
 have hm1:=hm.perm (((kl_perm (ι:=ι) hp).symm).append_right L0)
 rw [kl_append,kl_append] at hm1
 have hm2:Hp h F (kl ι (lent sa q)++(kl ι (tags sa q)++(kl ι (without (sa.ow.map (·.1)) (tags sa q++lent sa q))++L0))):=by
  refine hm1.perm ?_
  simp only [List.append_assoc]
  exact List.perm_append_comm_assoc _ _ _
 obtain ⟨hm3,hle⟩:=hm2.freeze
 have hn:=hm2.nodup
 rw [List.map_append,List.nodup_append] at hn
 have hF:∀ t∈lent sa q,∀ b∈(ι t).2,isB ((F.add h (kl ι (lent sa q))).m b.1) b:=fun t ht b hb=>add_get hm2 (kl_key.2 ⟨t,ht,hb⟩)
 exact ⟨_,hle,rfl,hF,unP_sound hr.toV hle rfl (fun _=>hF) hu,h4,hm3,fun F2 h' L' h12 hm'=>hm2.unfreeze (fun b hb=>(add_get hm2 hb).mono h12) (hle.trans h12) hm'⟩
theorem OwnR.same1 {b:OB} (h1:∀ t',(ι' t').1=(ι t').1) (h2:ι' t=ι t) (h:OwnR F ι t b):OwnR F ι' t b:=by
 cases b with
 | rows e T xs=>obtain ⟨q,n,cp,rows,a,c,f⟩:=h; exact ⟨q,n,cp,rows,by rw [h2]; exact a,by rw [h2]; exact c,f⟩
 | cells T ds=>obtain ⟨B,cs,a,c,f⟩:=h; exact ⟨B,cs,by rw [h2]; exact a,by rw [h2]; exact c,forall2_imp (fun _ _ h=>h.same1 h1) f⟩
 | nodes cl T A hs hole=>obtain ⟨h0,hds,a,c,f⟩:=h; exact ⟨h0,hds,by rw [h2]; exact a,by rw [h2]; exact c,f⟩
 | nodesR cl hs=>exact ⟨by rw [h2]; exact h.1,h.2⟩
 | mp l=>obtain ⟨B,cs,a,c,f⟩:=h; exact ⟨B,cs,by rw [h2]; exact a,by rw [h2]; exact c,f⟩
 | sit l pos=>obtain ⟨B,a,c⟩:=h; exact ⟨B,by rw [h2]; exact a,by rw [h2]; exact c⟩
theorem RdV.same1 (h1:∀ t',(ι' t').1=(ι t').1) (h:RdV F ι d v):RdV F ι' d v:=by
 cases d with
 | tup ds=>obtain ⟨vs,a,c⟩:=h; exact ⟨vs,a,forall2_imp (fun _ _ h=>h.same1 h1) c⟩
 | _=>exact .of_w ((RdV.to_w h (fun _ e=>by cases e)).same1 h1)
theorem Rel.same1 (hr:Rel F ι s ρ) (h1:∀ t',(ι' t').1=(ι t').1) (h2:∀ p∈s.ow,ι' p.1=ι p.1):Rel F ι' s ρ :=
 ⟨hr.len,fun i=>(hr.sl i).same1 h1,fun p hp=>(hr.ow p hp).same1 h1 (h2 p hp),hr.nd⟩
theorem Rel.fewer (hr:Rel F ι s ρ) (k:Nat×OB→Bool):Rel F ι ⟨s.n,s.np,s.nw,s.sl,s.ow.filter k⟩ ρ :=
 ⟨hr.len,hr.sl,fun p hp=>hr.ow p (List.mem_filter.1 hp).1,hr.nd.sublist ((List.filter_sublist).map _)⟩
theorem hasNT_iff {p:Pt}:hasNT p=true↔NT∈p.map (·.1):=by
 simp [hasNT]
theorem sb_ble {k:Nat} (h:k<SB):Nat.ble SB k=false:=by
 cases hb:Nat.ble SB k with
 | false=>rfl
 | true=>rw [Nat.ble_eq] at hb; omega
theorem outTag_low {d k:Nat} {args:List D} (h:k<SB):outTag d args k=outTag0 d args k:=by
 unfold outTag
 rw [sb_ble h]
 rfl
theorem outTag_nt {d:Nat} {args:List D}:outTag d args NT=NT:=by
 rw [outTag_low (by decide)]
 unfold outTag0
 have h1:Nat.blt NT 1000=false:=by decide
 rw [h1]
 simp
theorem outTag_lt {d k:Nat} {args:List D} (h:k<1000):outTag d args k=1000*(d+1)+k:=by
 rw [outTag_low (by
  have:1000<SB:=by decide
  omega)]
 unfold outTag0
 have h1:Nat.blt k 1000=true:=by rw [Nat.blt_eq]; exact h
 rw [h1]
 rfl
theorem cond_ble {a k x y:Nat} (h:a≤k):cond (Nat.ble a k) x y=x:=by rw [Nat.ble_eq_true_of_le h]; rfl
theorem subT_ge {i j:Nat}:SB≤subT i j:=by unfold subT; omega
theorem subT_div {i j:Nat} (h:j<64):(subT i j - SB) / 64=i:=by unfold subT; omega
theorem subT_mod {i j:Nat} (h:j<64):(subT i j - SB) % 64=j:=by unfold subT; omega
theorem outTag_sb {d k:Nat} {args:List D} (h:SB≤k):SB≤outTag d args k:=by
 unfold outTag
 rw [cond_ble h]
 exact subT_ge
theorem outTag_sub {d i y:Nat} {args:List D} (hi:i<SB) (hy:y<64):outTag d args (subT i y)=subT (outTag d args i) y:=by
 rw [outTag_low hi]
 unfold outTag
 rw [cond_ble subT_ge,subT_div hy,subT_mod hy]
theorem nodup_of_map {τ:Nat→Nat}:∀ {l:List Nat},(l.map τ).Nodup→l.Nodup
 | [],_ => .nil
 | a::l,h=>by
  rw [List.map_cons,List.nodup_cons] at h
  exact List.nodup_cons.2 ⟨fun hin=>h.1 (List.mem_map.2 ⟨a,hin,rfl⟩),nodup_of_map h.2⟩
def pickK (l:List Nat) (τ:Nat→Nat) (t:Nat):Option Nat:=l.find? fun k=>τ k == t
theorem pickK_some {l:List Nat} {τ:Nat→Nat} {k:Nat} (hn:(l.map τ).Nodup) (hk:k∈l):pickK l τ (τ k)=some k:=by
 induction l with
 | nil=>cases hk
 | cons a l ih =>
  rw [List.map_cons,List.nodup_cons] at hn
  unfold pickK
  rw [List.find?_cons]
  by_cases e:τ a=τ k
  ·rcases List.mem_cons.1 hk with rfl | hk
   ·simp
   ·exact absurd (show τ a∈l.map τ by rw [e]; exact List.mem_map.2 ⟨k,hk,rfl⟩) hn.1
  ·have:(τ a == τ k)=false:=by simp [e]
   rw [this]
   rcases List.mem_cons.1 hk with rfl | hk
   ·exact absurd rfl e
   ·exact ih hn.2 hk
theorem pickK_none {l:List Nat} {τ:Nat→Nat} {t:Nat} (h:t∉l.map τ):pickK l τ t=none:=by
 unfold pickK
 rw [List.find?_eq_none]
 intro k hk
 simp only [beq_iff_eq]
 exact fun e=>h (List.mem_map.2 ⟨k,hk,e⟩)
set_option maxHeartbeats 1000000 in
theorem evCallA_sound {K:D→St→Option R} {f:FuncId} {argd:List D} {argv:List Value} {dn:Nat} (hC:CxOK P C) (hr:Rel F ι s ρ) (hm:Hp h F (lv ι s.ow++L0)) (hal:argv.length=argd.length) (hav:∀ i,RdV F ι (argd.getD i .u) (argv.getD i undef)) (h0:evCall C s dn f argd K=some r):(∀ args w,(callFunc f args).run P w = .ok (.enter f args) w)∧Ret P f argv h (Post K r F ι s ρ L0 dn):=by
 unfold evCall at h0
 split at h0
 ·cases h0
 ·rename_i ent hent
  obtain ⟨hfn,hcal⟩:=pickE_ok hC hent
  refine ⟨hcal,?_⟩
  cases hc:callOK s dn argd ent with
  | false=>rw [hc] at h0; cases h0
  | true =>
   rw [hc] at h0
   simp only [cond_true] at h0
   unfold callOK at hc
   generalize hτ:outTag dn argd=τ at h0 hc
   generalize hsa:argSt s argd=sa at h0 hc
   have hra:Rel F ι sa argv:=by
    subst hsa
    exact ⟨by simp [argSt,hal],hav,hr.ow,hr.nd⟩
   have how:sa.ow=s.ow:=by subst hsa; rfl
   have hsnp:sa.np=0:=by subst hsa; rfl
   simp only [Bool.and_eq_true,beq_iff_eq,Nat.ble_eq] at hc
   obtain ⟨⟨⟨⟨⟨⟨⟨⟨⟨⟨⟨hc1,hc2⟩,hc3⟩,hc4⟩,hc4'⟩,hc5⟩,hc6⟩,hc7⟩,hc8⟩,hc9⟩,hc10⟩,hc11⟩:=hc
   split at h0
   ·cases h0
   ·rename_i x hx
    split at h0
    ·cases h0
    ·rename_i s0 hs0
     obtain ⟨rr,hrr,h0⟩:=Option.bind_eq_some_iff.1 h0
     have hma:Hp h F (lv ι sa.ow++L0):=by rw [how]; exact hm
     have hTL:=nodupB_nodup hc1
     obtain ⟨F1,hle,hnid1,hF1,hMP,hlv,hH,hun⟩:=args_sound hra hma hTL hx
     have hlen:argv.length=(realK ent.pin).length:=by rw [hc2]; simp [hal]
     refine (hfn x rr hrr F1 (reG ι sa) h (kl ι (without (sa.ow.map (·.1)) (tags sa ent.pin++lent sa ent.pin))++L0) _ hlen hMP (by rw [hlv]; exact hH)).mono ?_
     rintro v h' ⟨F2,ι2,vs,hle2,hnid2,hvl,hres,hv,hH2,hio⟩
     have hnds:(s.ow.map (·.1)).Nodup:=hr.nd
     have hmid:∃ Fx F3,Fx.le F3∧F.le F3∧Fx.nid=F.nid∧F3.nid=F2.nid∧Rel Fx ι s0 ρ∧MP F3 ι2 (vX vs (reG ι sa)) ent.pout rr∧Hp h' F3 (lv ι2 (mkOw ent.pout rr)++(kl ι (without (s0.ow.map (·.1)) (tags sa ent.pin))++L0))∧s0.n=s.n∧s0.np=s.np∧s0.nw=s.nw:=by
      cases hfl:(ent.pout.all fun q=>q.2.flat) with
      | true =>
       rw [hfl] at hs0
       simp only [cond_true] at hs0
       cases hs0
       have hl3:F.le (F.wth F2):=⟨fun _ _ h=>h,(hle.trans hle2).2⟩
       refine ⟨F,F.wth F2,hl3,hl3,rfl,rfl,hr,MP.flat (F:=F2) (F':=F.wth F2) rfl hres hfl,?_,rfl,rfl,rfl⟩
       have h1:=hun F2 h' _ hle2 hH2
       have h2:(kl ι (lent sa ent.pin)++(lv ι2 (mkOw ent.pout rr)++(kl ι (without (sa.ow.map (·.1)) (tags sa ent.pin++lent sa ent.pin))++L0))).Perm (lv ι2 (mkOw ent.pout rr)++(kl ι (without (s.ow.map (·.1)) (tags sa ent.pin))++L0)):=by
        refine (List.perm_append_comm_assoc _ _ _).trans (List.Perm.append_left _ ?_)
        rw [← List.append_assoc,← kl_append]
        refine List.Perm.append_right _ (kl_perm ?_)
        have h3:=perm_without (ks:=without (s.ow.map (·.1)) (tags sa ent.pin)) (T:=lent sa ent.pin) (hnds.sublist without_sub) (List.nodup_append.1 hTL).2.1 fun t ht=>by
         have h5:=lent_look hx t ht
         obtain ⟨b,hb⟩:=h5
         have h6:=look_key hb
         rw [how] at h6
         refine List.mem_filter.2 ⟨h6,?_⟩
         simp only [List.contains_eq_mem,Bool.not_eq_true',decide_eq_false_iff_not]
         intro h7
         exact (List.nodup_append.1 hTL).2.2 t h7 t ht rfl
        rw [without_without] at h3
        refine (List.Perm.symm ?_)
        rw [how]
        refine h3.trans (List.Perm.append_left _ (List.Perm.of_eq ?_))
        refine List.filter_congr fun y _=>?_
        simp only [List.contains_eq_mem,List.mem_append]
        by_cases h8:y∈tags sa ent.pin <;> by_cases h9:y∈lent sa ent.pin <;> simp [h8,h9]
       exact h1.perm h2.symm
      | false =>
       rw [hfl] at hs0
       simp only [cond_false] at hs0
       obtain ⟨q1,q2,q3,q4,q5⟩:=freezeAll_sound hr hle hnid1 hF1 hs0
       refine ⟨F1,F2,hle2,hle.trans hle2,hnid1,rfl,q1,hres,?_,q3,q4,q5⟩
       rw [q2,without_without,← how]
       exact hH2
     obtain ⟨Fx,F3,hlex,hle3,hnidx,hnid3,hr0,hres3,hH3,hn0,hnp0,hnw0⟩:=hmid
     generalize hpg:((tags sa ent.pin).filter fun t=>!((backT τ ent.pout).contains t) || t == NT)++(newK ent.pout).map τ=pg at h0
     let ι3:Gh:=fun t=>match pickK (ent.pout.map (·.1)) τ t with
      | some k=>ι2 k
      | none=>ι t
     have hτn:((ent.pout.map (·.1)).map τ).Nodup:=by
      have:=nodupB_nodup hc5
      simpa [List.map_map,Function.comp_def] using this
     have hι3:∀ k∈ent.pout.map (·.1),ι3 (τ k)=ι2 k:=fun k hk=>by
      show (match pickK (ent.pout.map (·.1)) τ (τ k) with | some k=>ι2 k | none=>ι (τ k))=_
      rw [pickK_some hτn hk]
     have hι3':∀ t,t∉(ent.pout.map (·.1)).map τ→ι3 t=ι t:=fun t ht=>by
      show (match pickK (ent.pout.map (·.1)) τ t with | some k=>ι2 k | none=>ι t)=_
      rw [pickK_none ht]
     have hτNT:τ NT=NT:=by rw [← hτ]; exact outTag_nt
     have hback:∀ k∈ent.pout.map (·.1),1000≤k→k≠NT→k<SB→(ι2 k).1=(ι (τ k)).1:=fun k hk h1 h2 hsb=>by
      rw [hio k hk h1 h2 hsb]
      have h3:=List.all_eq_true.1 hc4'
      obtain ⟨q,hq,rfl⟩:=List.mem_map.1 hk
      have h4:=h3 q hq
      have e1:Nat.blt q.1 1000=false:=by cases hb:Nat.blt q.1 1000 with
       | false=>rfl
       | true=>rw [Nat.blt_eq] at hb; omega
      have e2:(q.1 == NT)=false:=by simpa using h2
      simp only [e1,e2,sb_ble hsb,Bool.false_or,Bool.and_eq_true] at h4
      obtain ⟨h5,h6⟩:=h4
      have h5:q.1<NT:=by simpa [Nat.blt_eq] using h5
      have hsl:sa.sl (q.1 - 1000)=argd.getD (q.1 - 1000) .u:=by subst hsa; rfl
      have htau:τ q.1=match argd.getD (q.1 - 1000) .u with | .op t _=>t | .own t=>t | .clov _ t _=>t | _=>0:=by
       rw [← hτ,outTag_low hsb]
       unfold outTag0
       rw [e1,e2]
       rfl
      have hne:NT<NTR:=by decide
      have hcnd:∀ t,((nkp sa.np (q.1 - 1000) || t == (q.1 - 1000)) && !((q.1 - 1000) == NT) && !(Nat.ble NTR (q.1 - 1000)))=true:=fun t=>by
       have g1:nkp sa.np (q.1 - 1000)=true:=by rw [hsnp,nkp_iff]; omega
       have g2:((q.1 - 1000) == NT)=false:=by simp; omega
       have g3:(Nat.ble NTR (q.1 - 1000))=false:=by
        cases hb:Nat.ble NTR (q.1 - 1000) with
        | false=>rfl
        | true=>rw [Nat.ble_eq] at hb; omega
       rw [g1,g2,g3]
       rfl
      revert h6 htau
      rw [← hsl]
      intro h6 htau
      cases hd:sa.sl (q.1 - 1000) with
      | own t =>
       rw [hd] at htau
       rw [htau,reG_ref (o:=0) (hcnd t) (.inl hd)]
      | op t o =>
       rw [hd] at htau
       rw [htau,reG_ref (o:=o) (hcnd t) (.inr (.inl hd))]
      | clov f t cs =>
       rw [hd] at htau
       rw [htau,reG_ref (o:=0) (hcnd t) (.inr (.inr ⟨_,_,hd⟩))]
      | _=>rw [hd] at h6; simp [D.isRef] at h6
     have hkk:∀ k∈ent.pout.map (·.1),(1000≤k∧k≠NT∧k<SB)∨τ k∈pg:=fun k hk=>by
      by_cases e:k=NT
      ·right
       subst e
       rw [hτNT,← hpg]
       refine List.mem_append_left _ (List.mem_filter.2 ⟨?_,by simp⟩)
       have h3:=List.all_eq_true.1 hc4
       have:=h3 NT (by
        refine List.mem_map.2 ⟨NT,List.mem_filter.2 ⟨hk,?_⟩,hτNT⟩
        have h1:Nat.blt NT 1000=false:=by decide
        have h2:Nat.blt NT SB=true:=by decide
        rw [h1,h2]; rfl)
       simpa using this
      ·by_cases e3:SB≤k
       ·right
        rw [← hpg]
        refine List.mem_append_right _ (List.mem_map.2 ⟨k,List.mem_filter.2 ⟨hk,?_⟩,rfl⟩)
        rw [Nat.ble_eq_true_of_le e3,Bool.or_true]
       ·by_cases e2:1000≤k
        ·exact .inl ⟨e2,e,by omega⟩
        ·right
         rw [← hpg]
         refine List.mem_append_right _ (List.mem_map.2 ⟨k,List.mem_filter.2 ⟨hk,?_⟩,rfl⟩)
         rw [Bool.or_eq_true,Nat.blt_eq]; left; omega
     have hsame:∀ t,t∉pg→(ι3 t).1=(ι t).1:=fun t ht=>by
      by_cases hin:t∈(ent.pout.map (·.1)).map τ
      ·obtain ⟨k,hk,rfl⟩:=List.mem_map.1 hin
       rw [hι3 k hk]
       rcases hkk k hk with h1 | h1
       ·exact hback k hk h1.1 h1.2.1 h1.2.2
       ·exact absurd h1 ht
      ·rw [hι3' t hin]
     let ι4:Gh:=fun t=>if t∈pg then ι3 t else ι t
     have hr1:Rel Fx ι4 (purgeAll s0 pg) ρ:=purgeAll_rel hr0 fun t ht=>if_neg ht
     have hr2:=hr1.fewer fun p=>!((backT τ ent.pout).contains p.1)
     have hk2:((purgeAll s0 pg).ow.filter fun p=>!((backT τ ent.pout).contains p.1)).map (·.1)=without (without (s0.ow.map (·.1)) pg) (backT τ ent.pout):=by
      have:((purgeAll s0 pg).ow.filter fun p=>!((backT τ ent.pout).contains p.1)).map (·.1)=((purgeAll s0 pg).ow.map (·.1)).filter fun k=>!((backT τ ent.pout).contains k):=by rw [List.filter_map]; rfl
      rw [this,purgeAll_keys]
      rfl
     have hτpg:∀ t∈(ent.pout.map (·.1)).map τ,t∈pg∨t∈backT τ ent.pout:=fun t ht=>by
      obtain ⟨k,hk,rfl⟩:=List.mem_map.1 ht
      rcases hkk k hk with h1 | h1
      ·right
       refine List.mem_map.2 ⟨k,List.mem_filter.2 ⟨hk,?_⟩,rfl⟩
       have:Nat.blt k 1000=false:=by cases hb:Nat.blt k 1000 with
        | false=>rfl
        | true=>rw [Nat.blt_eq] at hb; omega
       have h2:Nat.blt k SB=true:=by rw [Nat.blt_eq]; exact h1.2.2
       rw [this,h2]; rfl
      ·exact .inl h1
     have hrest:∀ t∈((purgeAll s0 pg).ow.filter fun p=>!((backT τ ent.pout).contains p.1)).map (·.1),t∉pg∧t∉(ent.pout.map (·.1)).map τ:=fun t ht=>by
      rw [hk2] at ht
      obtain ⟨h1,h2⟩:=List.mem_filter.1 ht
      obtain ⟨h3,h4⟩:=List.mem_filter.1 h1
      simp only [List.contains_eq_mem,Bool.not_eq_true',decide_eq_false_iff_not] at h2 h4
      refine ⟨h4,fun h5=>?_⟩
      rcases hτpg t h5 with h6 | h6
      ·exact h4 h6
      ·exact h2 h6
     have hr3:=hr2.same1 (ι':=ι3) (fun t=>by
      show _=(if t∈pg then ι3 t else ι t).1
      split
      ·rfl
      ·rename_i h; exact hsame t h) fun q hq=>by
      have:=(hrest q.1 (List.mem_map.2 ⟨q,hq,rfl⟩)).1
      show _=if q.1∈pg then ι3 q.1 else ι q.1
      rw [if_neg this,hι3' _ (hrest q.1 (List.mem_map.2 ⟨q,hq,rfl⟩)).2]
     have hr4:Rel F3 ι3 ⟨(purgeAll s0 pg).n,(purgeAll s0 pg).np,(purgeAll s0 pg).nw,(purgeAll s0 pg).sl,(purgeAll s0 pg).ow.filter fun p=>!((backT τ ent.pout).contains p.1)⟩ ρ:=by
      cases hNT:hasNT ent.pout with
      | false=>exact hr3.mono hlex (by rw [hnid3,hnid2 hNT,hnid1,hnidx])
      | true =>
       refine hr3.mono' hlex fun q hq e=>?_
       have h1:=(hrest q.1 (List.mem_map.2 ⟨q,hq,rfl⟩)).2
       rw [e] at h1
       exact h1 (List.mem_map.2 ⟨NT,hasNT_iff.1 hNT,hτNT⟩)
     have hn:(purgeAll s0 pg).n=s.n∧(purgeAll s0 pg).np=s.np∧(purgeAll s0 pg).nw=s.nw:=by
      obtain ⟨a,b,c⟩:=purgeAll_n (T:=pg) (s:=s0)
      exact ⟨a.trans hn0,b.trans hnp0,c.trans hnw0⟩
     obtain ⟨w1,w2,w3,w4⟩:=out_sound (τ:=τ) (ι3:=ι3) (nb:=hasNT ent.pout) (fun hnb=>by have:=hι3 NT (hasNT_iff.1 hnb); rwa [hτNT] at this) (fun a ha=>List.all_eq_true.1 hc9 a ha) hι3 (fun a ha y hy=>by
      have h1:=List.all_eq_true.1 (List.all_eq_true.1 hc10 a ha) y hy
      simp only [Bool.and_eq_true,Nat.blt_eq] at h1
      have h2:subT a.1 y∈ent.pout.map (·.1):=by simpa using h1.1.1
      have h3:=hι3 _ h2
      rw [← hτ,outTag_sub h1.2 h1.1.2,hτ] at h3
      exact h3) (fun k _ e=>by rw [e]; exact hτNT) hres3
     have hvs:(realK ent.pout).map (vX vs (reG ι sa))=vs:=by
      have e1:(realK ent.pout).map (vX vs (reG ι sa))=(realK ent.pout).map fun i=>vs.getD i undef:=List.map_congr_left fun k hk=>by
       have:=(List.mem_filter.1 hk).2
       rw [Nat.blt_eq] at this
       exact if_pos this
      rw [e1,hc3,← hvl]
      apply List.ext_getElem?
      intro i
      rw [List.getElem?_map]
      rcases Nat.lt_or_ge i vs.length with hi | hi
      ·rw [List.getElem?_range hi]
       simp [List.getD_eq_getElem?_getD,hi]
      ·rw [List.getElem?_eq_none (by simp; omega),List.getElem?_eq_none hi]
       rfl
     rw [hvs] at w1
     have hkeys:(outOw τ ent.pout rr).map (·.1)=((mkOw ent.pout rr).map (·.1)).map τ:=w3
     have hsubk:∀ t∈(outOw τ ent.pout rr).map (·.1),t∈(ent.pout.map (·.1)).map τ:=fun t ht=>by
      rw [hkeys] at ht
      obtain ⟨k,hk,rfl⟩:=List.mem_map.1 ht
      obtain ⟨q,hq,rfl⟩:=List.mem_map.1 hk
      exact List.mem_map.2 ⟨_,mkOw_keys q hq,rfl⟩
     have hpn:(ent.pout.map (·.1)).Nodup:=by
      refine nodup_of_map hτn
     have hnod:((outOw τ ent.pout rr).map (·.1)).Nodup:=by
      rw [hkeys]
      have h1:=mkOw_nodup (x:=rr) hpn
      have h2:∀ k∈(mkOw ent.pout rr).map (·.1),k∈ent.pout.map (·.1):=fun k hk=>by
       obtain ⟨q,hq,rfl⟩:=List.mem_map.1 hk
       exact mkOw_keys q hq
      generalize (mkOw ent.pout rr).map (·.1)=l at h1 h2
      induction l with
      | nil=>exact .nil
      | cons a l ih =>
       rw [List.nodup_cons] at h1
       rw [List.map_cons,List.nodup_cons]
       refine ⟨fun hin=>?_,ih h1.2 fun k hk=>h2 k (List.mem_cons_of_mem _ hk)⟩
       obtain ⟨b,hb,he⟩:=List.mem_map.1 hin
       have p1:=pickK_some hτn (h2 a (by simp))
       have p2:=pickK_some hτn (h2 b (List.mem_cons_of_mem _ hb))
       rw [he,p1] at p2
       exact h1.1 ((Option.some.inj p2) ▸ hb)
     refine ⟨F3,ι3,_,⟨(purgeAll s0 pg).n,(purgeAll s0 pg).np,(purgeAll s0 pg).nw,(purgeAll s0 pg).sl,outOw τ ent.pout rr++(purgeAll s0 pg).ow.filter fun p=>!((backT τ ent.pout).contains p.1)⟩,hle3,⟨hr4.len,hr4.sl,fun q hq=>?_,?_⟩,?_,?_,h0,hn.1,hn.2.1,hn.2.2,fun e=>?_,fun t ht=>?_,fun t ht h1 h2 htsb=>?_⟩
     ·rcases List.mem_append.1 hq with hq | hq
      ·exact w2 q hq
      ·exact hr4.ow q hq
     ·show ((outOw τ ent.pout rr++_).map _).Nodup
      rw [List.map_append,List.nodup_append]
      exact ⟨hnod,hr4.nd,fun a ha b hb e=>(hrest b hb).2 (e ▸ hsubk a ha)⟩
     ·show Hp h' F3 (lv ι3 (outOw τ ent.pout rr++_)++L0)
      rw [lv_append,w4,List.append_assoc]
      refine hH3.sub ((List.Sublist.refl _).append (List.Sublist.append ?_ (List.Sublist.refl _)))
      rw [lv_kl,hk2,without_without]
      have e1:kl ι3 (without (s0.ow.map (·.1)) (backT τ ent.pout++pg))=kl ι (without (s0.ow.map (·.1)) (backT τ ent.pout++pg)):=kl_congr fun t ht=>by
       refine hι3' t ?_
       rw [← without_without,← hk2] at ht
       exact (hrest t ht).2
      rw [e1]
      refine kl_sub (without_mono fun t ht=>?_)
      by_cases hb:t∈backT τ ent.pout
      ·exact List.mem_append_left _ hb
      ·refine List.mem_append_right _ ?_
       rw [← hpg]
       refine List.mem_append_left _ (List.mem_filter.2 ⟨ht,?_⟩)
       simp [hb]
     ·rw [hv]
      exact joinD_sound w1
     ·have hN:hasNT ent.pout=false:=by
       have hc9:=hc8
       clear hc8
       revert hc9
       rw [e]
       cases hasNT ent.pout <;> simp
      exact hnid3.trans ((hnid2 hN).trans hnid1)
     ·by_cases hin:t∈(ent.pout.map (·.1)).map τ
      ·obtain ⟨k,hk,rfl⟩:=List.mem_map.1 hin
       rw [hι3 k hk]
       by_cases e1:k<1000
       ·rw [← hτ,outTag_lt e1] at ht
        omega
       ·by_cases e2:k=NT
        ·subst e2
         rw [hτNT] at ht
         omega
        ·by_cases e3:SB≤k
         ·have h5:=outTag_sb (d:=dn) (args:=argd) e3
          rw [hτ] at h5
          have:1000<SB:=by decide
          omega
         ·exact hback k hk (by omega) e2 (by omega)
      ·rw [hι3' t hin]
     ·refine hι3' t fun hin=>?_
      obtain ⟨k,hk,rfl⟩:=List.mem_map.1 hin
      by_cases e1:k<1000
      ·rw [← hτ,outTag_lt e1] at h2
       omega
      ·have e3:k<SB:=by
        rcases Nat.lt_or_ge k SB with h5 | h5
        ·exact h5
        ·exfalso
         have h6:=outTag_sb (d:=dn) (args:=argd) h5
         rw [hτ] at h6
         obtain ⟨m1,m2⟩:=htsb h6
         obtain ⟨q,hq,hqe⟩:=List.mem_map.1 hk
         have h7:=List.all_eq_true.1 hc11 q hq
         have hqb:Nat.blt q.1 SB=false:=by
          cases hb:Nat.blt q.1 SB with
          | false=>rfl
          | true=>rw [Nat.blt_eq] at hb; omega
         rw [hqb,Bool.false_or,Bool.and_eq_true,Nat.blt_eq,hqe] at h7
         obtain ⟨h7,h8⟩:=h7
         have h7:(k - SB) / 64∈ent.pout.map (·.1):=by simpa using h7
         have h9:τ k=subT (τ ((k - SB) / 64)) ((k - SB) % 64):=by
          have e:k=subT ((k - SB) / 64) ((k - SB) % 64):=by unfold subT; omega
          have:=outTag_sub (d:=dn) (args:=argd) (i:=(k - SB) / 64) (y:=(k - SB) % 64) h8 (by omega)
          rw [← e,hτ] at this
          exact this
         have h10:(τ k - SB) / 64=τ ((k - SB) / 64):=by
          rw [h9]; unfold subT; omega
         rw [h10] at m1 m2
         by_cases e4:(k - SB) / 64<1000
         ·have h11:=outTag_lt (d:=dn) (args:=argd) e4
          rw [hτ] at h11
          omega
         ·have h3:τ ((k - SB) / 64)∈backT τ ent.pout:=by
           refine List.mem_map.2 ⟨_,List.mem_filter.2 ⟨h7,?_⟩,rfl⟩
           have:Nat.blt ((k - SB) / 64) 1000=false:=by cases hb:Nat.blt ((k - SB) / 64) 1000 with
            | false=>rfl
            | true=>rw [Nat.blt_eq] at hb; omega
           have h7:Nat.blt ((k - SB) / 64) SB=true:=by rw [Nat.blt_eq]; exact h8
           rw [this,h7]; rfl
          have h4:=List.all_eq_true.1 hc4 _ h3
          have h5:τ ((k - SB) / 64)∈tags sa ent.pin:=by simpa using h4
          obtain ⟨b,hb⟩:=(unP_tag (ι:=ι) hx).1 _ h5
          have h6:=look_key hb
          rw [how] at h6
          obtain ⟨q,hq,he⟩:=List.mem_map.1 h6
          exact m1 q hq he
       have h3:τ k∈backT τ ent.pout:=by
        refine List.mem_map.2 ⟨k,List.mem_filter.2 ⟨hk,?_⟩,rfl⟩
        have:Nat.blt k 1000=false:=by cases hb:Nat.blt k 1000 with
         | false=>rfl
         | true=>rw [Nat.blt_eq] at hb; omega
        have h7:Nat.blt k SB=true:=by rw [Nat.blt_eq]; exact e3
        rw [this,h7]; rfl
       have h4:=List.all_eq_true.1 hc4 _ h3
       have h5:τ k∈tags sa ent.pin:=by simpa using h4
       obtain ⟨b,hb⟩:=(unP_tag (ι:=ι) hx).1 _ h5
       have h6:=look_key hb
       rw [how] at h6
       obtain ⟨q,hq,he⟩:=List.mem_map.1 h6
       exact ht q hq he
theorem evCall_sound {K:D→St→Option R} {f:FuncId} {xs:List Operand} {dn:Nat} (hC:CxOK P C) (hr:Rel F ι s ρ) (hm:Hp h F (lv ι s.ow++L0)) (h0:evCall C s dn f (xs.map (g s)) K=some r):(∀ args w,(callFunc f args).run P w = .ok (.enter f args) w)∧Ret P f (xs.map (ev ρ)) h (Post K r F ι s ρ L0 dn) :=
 evCallA_sound hC hr hm (by simp) (getD_map_g hr) h0
theorem evCallD_sound {K:D→St→Option R} {f:FuncId} {xs:List Operand} {ds:List D} {cs:List Value} {dn:Nat} (hC:CxOK P C) (hr:Rel F ι s ρ) (hm:Hp h F (lv ι s.ow++L0)) (dv:F2 (RdW F ι) ds cs) (h0:evCall C s dn f (xs.map (g s)++ds) K=some r):(∀ args w,(callFunc f args).run P w = .ok (.enter f args) w)∧Ret P f (xs.map (ev ρ)++cs) h (Post K r F ι s ρ L0 dn):=by
 refine evCallA_sound hC hr hm (by simp [forall2_len dv]) (fun i=>?_) h0
 simp only [List.getD_eq_getElem?_getD]
 rcases Nat.lt_or_ge i xs.length with hi | hi
 ·rw [List.getElem?_append_left (by simpa using hi),List.getElem?_append_left (by simpa using hi),← List.getD_eq_getElem?_getD,← List.getD_eq_getElem?_getD]
  exact getD_map_g hr i
 ·rw [List.getElem?_append_right (by simpa using hi),List.getElem?_append_right (by simpa using hi)]
  simp only [List.length_map]
  cases hd:ds[i - xs.length]? with
  | none=>trivial
  | some d =>
   obtain ⟨v,h1,h2⟩:=forall2_get dv hd
   rw [h1]
   exact .of_w h2
theorem evCallM_sound {K:D→St→Option R} {f:FuncId} {xs:List Operand} {ds:List D} {cs:List Value} {dn:Nat} (hC:CxOK P C) (hr:Rel F ι s ρ) (hm:Hp h F (lv ι s.ow++L0)) (dv:F2 (RdW F ι) ds cs) (h0:evCall C s dn f (ds++xs.map (g s)) K=some r):(∀ args w,(callFunc f args).run P w = .ok (.enter f args) w)∧Ret P f (cs++xs.map (ev ρ)) h (Post K r F ι s ρ L0 dn):=by
 refine evCallA_sound hC hr hm (by simp [forall2_len dv]) (fun i=>?_) h0
 simp only [List.getD_eq_getElem?_getD]
 have hl:=forall2_len dv
 rcases Nat.lt_or_ge i ds.length with hi | hi
 ·rw [List.getElem?_append_left hi,List.getElem?_append_left (by omega)]
  cases hd:ds[i]? with
  | none=>trivial
  | some d =>
   obtain ⟨v,h1,h2⟩:=forall2_get dv hd
   rw [h1]
   exact .of_w h2
 ·rw [List.getElem?_append_right hi,List.getElem?_append_right (by omega),← hl,← List.getD_eq_getElem?_getD,← List.getD_eq_getElem?_getD]
  exact getD_map_g hr _
theorem run_inv {x:Operand} {n:String} {T f:Nat} {v:Value} {xs:Array Operand} {ta:Array TypeId} (hv:ev ρ x = .iface T v) (hm:MtOK P T n f) (hc:∀ args w,(callFunc f args).run P w = .ok (.enter f args) w) (w:World):(execOp (ev ρ) ⟨dst, .call ⟨.invoke x n,xs,ta⟩,ty,p,af,gd⟩).run P w = .ok (.enter f (v::xs.toList.map (ev ρ)).toArray) w:=by
 obtain ⟨k,hk⟩:=types_succ P
 have e:#[v]++xs.map (ev ρ)=(v::xs.toList.map (ev ρ)).toArray:=Array.ext' (by simp)
 have e0:(#[Value.iface T v]++xs.map (ev ρ))[0]?=some (.iface T v):=by simp [Array.getElem?_append]
 have e1:(#[Value.iface T v]++xs.map (ev ρ)).extract 1 (#[Value.iface T v]++xs.map (ev ρ)).size=xs.map (ev ρ):=by
  apply Array.ext'
  simp only [Array.toList_extract,Array.toList_append,Array.toList_map,Array.size_append,Array.size_map,List.size_toArray,List.length_cons,List.length_nil,List.extract_eq_take_drop]
  simp only [List.singleton_append,List.drop_succ_cons,List.drop_zero]
  exact List.take_of_length_le (by simp)
 simp only [execOp,resolve,hv,invoke,Sem.run_bind,Sem.run_pure,Result.andThen_ok,e0,e1,callMethod]
 simp [hk,method_run hm,hc,e]
theorem run_dyn {f:FuncId} {t:Nat} {xs:Array Operand} {ta:Array TypeId} {cs:List Value} (hv:ev ρ (.tmp t) = .func (.func f) #[] cs.toArray) (hc:∀ args w,(callFunc f args).run P w = .ok (.enter f args) w) (w:World):(execOp (ev ρ) ⟨dst, .call ⟨.value (.tmp t),xs,ta⟩,ty,p,af,gd⟩).run P w = .ok (.enter f (xs.toList.map (ev ρ)++cs).toArray) w:=by
 have e:xs.map (ev ρ)++cs.toArray=(xs.toList.map (ev ρ)++cs).toArray:=Array.ext' (by simp)
 simp [execOp,resolve,hv,Deferred.ofValue,invoke,hc,e]
end
end Go.Proofs.YtkmigbicabfodaaGreat.V
set_option linter.unusedVariables false
set_option linter.unusedSimpArgs false
namespace Go.Proofs.YtkmigbicabfodaaGreat.V
open Go K
structure Inv (F0:Frz) (io:Nat→Value) (L0:List Blk) (n np:Nat) (nw:Bool) (s:St) (ρ:List Value) (h:Array Obj):Prop where
 out:∃ F ι,F0.le F∧(nw=false→F.nid=F0.nid)∧Rel F ι s ρ∧Hp h F (lv ι s.ow++L0)∧∀ t,(np / 1000≤t∧t<np % 1000)→(ι t).1=io t
 hn:s.n=n
 hnp:s.np=np
 hnw:s.nw=nw
section
variable {P:Program} {C:Cx} {R:Type} {F F' F1 F0:Frz} {ι ι':Gh} {s s':St} {ρ:List Value} {d:D} {v:Value} {t:Nat} {L0:List Blk} {r:R} {dst:Option Tmp} {ty:TypeId} {p:String} {af:Array Edge} {gd:Option (Nat×Bool)} {h:Array Obj} {io:Nat→Value} {n np:Nat} {nw:Bool} {E:Env} {all rest:List Oper} {KK:List Value→Array Obj→Prop} {o:Oper}
theorem Rel.reset (hr:Rel F ι s ρ) (hd:RdV F ι d (ρ.getD t undef)):Rel F ι (s.set t d) ρ :=
 ⟨hr.len,fun i=>by
  simp only [St.set]
  by_cases e:i=t
  ·subst e; simp; exact hd
  ·have:(i == t)=false:=by simp [e]
   rw [this]; exact hr.sl i,hr.ow,hr.nd⟩
theorem freezeAll_seq:∀ {T:List Nat} {s s0:St} {F:Frz},Rel F ι s ρ→Hp h F (lv ι s.ow++L0)→freezeAll s T=some s0→∃ F',F.le F'∧F'.nid=F.nid∧Rel F' ι s0 ρ∧Hp h F' (lv ι s0.ow++L0)∧s0.n=s.n∧s0.np=s.np∧s0.nw=s.nw∧s0.ow.map (·.1)=without (s.ow.map (·.1)) T
 | [],s,s0,F,hr,hm,h0=>by
  cases h0
  refine ⟨F, .refl F,rfl,hr,hm,rfl,rfl,rfl,?_⟩
  simp only [without,List.contains_nil,Bool.not_false]
  exact (List.filter_eq_self.2 fun _ _=>rfl).symm
 | t::T,s,s0,F,hr,hm,h0=>by
  simp only [freezeAll] at h0
  have fin:∀ d F1,F.le F1→F1.nid=F.nid→Hp h F1 (lv ι (s.freeze t d).ow++L0)→Rel F1 ι (s.freeze t d) ρ→freezeAll (s.freeze t d) T=some s0→∃ F',F.le F'∧F'.nid=F.nid∧Rel F' ι s0 ρ∧Hp h F' (lv ι s0.ow++L0)∧s0.n=s.n∧s0.np=s.np∧s0.nw=s.nw∧s0.ow.map (·.1)=without (s.ow.map (·.1)) (t::T):=fun d F1 h1 hn h2 h3 h0=>by
   obtain ⟨F2,h4,hn2,h5,h6,h7,h8,h9,h10⟩:=freezeAll_seq h3 h2 h0
   refine ⟨F2,h1.trans h4,hn2.trans hn,h5,h6,h7,h8,h9,?_⟩
   rw [h10,freeze_keys]
   simp only [without]
   have:(s.ow.filter fun p=>!(p.1 == t)).map (·.1)=(s.ow.map (·.1)).filter fun k=>!(k == t):=by rw [List.filter_map]; rfl
   rw [this,List.filter_filter]
   refine List.filter_congr fun x _=>?_
   simp only [List.contains_cons]
   cases (x == t) <;> simp
  split at h0
  ·rename_i e T' xs hlk
   obtain ⟨F1,h1,hn,h2,h3,_⟩:=hr.freeze hm hlk
   exact fin _ F1 h1 hn h2 h3 h0
  ·rename_i T' ds hlk
   cases hp:ds.all D.plain with
   | false=>rw [hp] at h0; cases h0
   | true =>
    rw [hp] at h0
    obtain ⟨F1,h1,hn,h2,h3,_⟩:=hr.freezeB hm hlk hp
    exact fin _ F1 h1 hn h2 h3 h0
  ·cases h0
structure PS (k:St→Option R) (r:R) (F:Frz) (ι:Gh) (s:St) (ρ:List Value) (L0:List Blk) (dt:Nat) (s':St) (h':Array Obj) (F':Frz) (ι':Gh):Prop where
 le:F.le F'
 rel:Rel F' ι' s' ρ
 hp:Hp h' F' (lv ι' s'.ow++L0)
 k:k s'=some r
 n:s'.n=s.n
 np:s'.np=s.np
 nw:s'.nw=s.nw
 nid:s.nw=false→F'.nid=F.nid
 io:∀ t,(s.np / 1000≤t∧t<s.np % 1000)→(ι' t).1=(ι t).1
 oth:∀ t,(∀ p∈s.ow,p.1≠t)→t≠dt→t / 1000≠dt+1→(SB≤t→(∀ p∈s.ow,p.1≠(t - SB) / 64)∧(t - SB) / 64 / 1000≠dt+1)→ι' t=ι t
theorem post_put {k:St→Option R} {h':Array Obj} {dt:Nat} (hp:Post (fun d s'=>match s'.put dst d with | some s''=>k s'' | none=>none) r F ι s ρ L0 dt v h'):∃ s' F' ι',PS k r F ι s (setD ρ dst v) L0 dt s' h' F' ι':=by
 obtain ⟨F',ι',d',s',h1,h2,h3,h4,h5,h6,h7,h8,h9,h10,h11⟩:=hp
 simp only at h5
 cases hput:s'.put dst d' with
 | none=>rw [hput] at h5; cases h5
 | some s'' =>
  rw [hput] at h5
  obtain ⟨a,b,c,e,f⟩:=h2.put hput (fun _=>h4)
  exact ⟨s'',F',ι',h1,a,by rw [b]; exact h3,h5,e.trans h6,c.trans h7,f.trans h8,h9,h10,h11⟩
theorem post_frz {K:D→St→Option R} {s1:St} {F1:Frz} {dt:Nat} {h':Array Obj} {T:List Nat} (g1:F.le F1) (g2:F1.nid=F.nid) (g5:s1.n=s.n) (g6:s1.np=s.np) (g7:s1.nw=s.nw) (g8:s1.ow.map (·.1)=without (s.ow.map (·.1)) T) (hp:Post K r F1 ι s1 ρ L0 dt v h'):Post K r F ι s ρ L0 dt v h':=by
 obtain ⟨F',ι',d',s',p1,p2,p3,p4,p5,p6,p7,p8,p9,p10,p11⟩:=hp
 have hsub:∀ p∈s1.ow,∃ q∈s.ow,q.1=p.1:=fun p hp=>by
  have:p.1∈s1.ow.map (·.1):=List.mem_map.2 ⟨p,hp,rfl⟩
  rw [g8] at this
  obtain ⟨q,hq,he⟩:=List.mem_map.1 (without_sub.subset this)
  exact ⟨q,hq,he⟩
 exact ⟨F',ι',d',s',g1.trans p1,p2,p3,p4,p5,p6.trans g5,p7.trans g6,p8.trans g7,fun e=>(p9 (g7.trans e)).trans g2,fun t ht=>p10 t (by rw [g6]; exact ht),fun t h1 h2 h3 h4=>p11 t (fun p hp e=>by
  obtain ⟨q,hq,he⟩:=hsub p hp
  exact h1 q hq (he.trans e)) h2 h3 fun hs=>⟨fun p hp e=>by
  obtain ⟨q,hq,he⟩:=hsub p hp
  exact (h4 hs).1 q hq (he.trans e),(h4 hs).2⟩⟩
theorem preN_cells {T:TypeId} {x y:Operand} {l:List D} {K:St→Option R} (h:cellsOf s (g s x)=some l):preN s (.store T y x) K=K s:=by
 cases x with
 | tmp t =>
  have h:cellsOf s (s.sl t)=some l:=h
  simp only [preN]
  cases hs:s.sl t <;> first | rfl | (rw [hs] at h; simp [cellsOf,D.plain] at h)
 | const v=>rfl
 | global n=>rfl
 | func f=>rfl
theorem preN_sound {o:Op} {K:St→Option R} (hr:Rel F ι s ρ) (hm:Hp h F (lv ι s.ow++L0)) (h0:preN s o K=some r):∃ F1 ι1 s1,F.le F1∧F1.nid=F.nid∧Rel F1 ι1 s1 ρ∧Hp h F1 (lv ι1 s1.ow++L0)∧K s1=some r∧s1.n=s.n∧s1.np=s.np∧s1.nw=s.nw∧(∀ t,(ι1 t).1=(ι t).1)∧s1.ow.map (·.1)=s.ow.map (·.1)∧∀ t,(∀ p∈s.ow,p.1≠t)→ι1 t=ι t:=by
 have triv:K s=some r→∃ F1 ι1 s1,F.le F1∧F1.nid=F.nid∧Rel F1 ι1 s1 ρ∧Hp h F1 (lv ι1 s1.ow++L0)∧K s1=some r∧s1.n=s.n∧s1.np=s.np∧s1.nw=s.nw∧(∀ t,(ι1 t).1=(ι t).1)∧s1.ow.map (·.1)=s.ow.map (·.1)∧∀ t,(∀ p∈s.ow,p.1≠t)→ι1 t=ι t:=fun h0=>⟨F,ι,s, .refl F,rfl,hr,hm,h0,rfl,rfl,rfl,fun _=>rfl,rfl,fun _ _=>rfl⟩
 unfold preN at h0
 split at h0
 ·rename_i t
  split at h0
  ·rename_i i hsl
   split at h0
   ·rename_i T A hs hlk
    obtain ⟨n,hn,h0⟩:=Option.bind_eq_some_iff.1 h0
    have hx:=hr.sl t
    rw [hsl] at hx
    obtain ⟨hd9,y0,y1⟩:=hx
    obtain ⟨_,hds,o1,o2,o3⟩:=hr.look hlk
    have o1':=o1
    rw [y0] at o1'
    have o1':hd9=hds:=by simpa using o1'
    subst o1'
    obtain ⟨hs1,hs2,hds1,hds2,L1,L2,hd,B,cs,Lv,e1,e2,e3,e4,e5,e6,e7,e8⟩:=o2.split hn
    obtain ⟨q,m,cp,rows,Lv',a1,a2,a3,a4⟩:=e7.ha (by simp)
    obtain ⟨A',B',hs',hA,hB⟩:=split_ow hr.nd hlk
    have hm1:Hp h F (Lv++(lv ι A'++(L1++((B,cs++[hd],BT.c T)::[]++L2)++lv ι B')++L0)):=by
     refine hm.perm ?_
     rw [hs',lv_append,lv_cons,e5]
     simp only [List.append_assoc,List.cons_append,List.nil_append]
     refine (List.perm_append_comm_assoc _ _ _).trans (List.Perm.append_left _ ((List.perm_append_comm_assoc _ _ _).trans (List.Perm.append_left _ ?_)))
     exact List.perm_middle
    obtain ⟨hm2,hle⟩:=hm1.freeze
    have hF:∀ p∈Lv',isB ((F.add h Lv).m p.1) p:=fun p hp=>by
     rcases a4 with ⟨_,rfl⟩ | ⟨_,_,a4⟩
     ·exact add_get hm1 hp
     ·exact (a4 p hp).mono hle
    have hr1:Rel (F.add h Lv) ι s ρ:=hr.mono hle rfl
    have e9:hs.set i (n.wz true)=hs1++(n.wz true)::hs2:=by rw [e1,List.set_append_right _ _ (by omega),e2]; simp
    have hNT:OwnR (F.add h Lv) (ι.upd NT ((ι NT).1,L1++((B,cs++[hd],BT.c T)::[]++L2))) NT (.nodes .k T A (hs.set i (n.wz true)) none):=by
     refine ⟨rfl,hd9,by rw [Gh.upd_same]; exact o1,?_,fun j hj=>o3 j (by simpa using hj)⟩
     rw [Gh.upd_same,e9,e3]
     exact NR.join (e6.mono hle) e2 ⟨hle.2.1 _ _ e7.hB,(e7.hc).mono hle,e7.h1,fun _=>⟨q,m,cp,rows,Lv',a1,a2,forall2_imp (fun _ _ h=>h.mono hle) a3, .inr ⟨rfl,rfl,hF⟩⟩,fun e=>by cases e⟩ (e8.mono hle)
    obtain ⟨u1,l1,l2,u2,u3,u4⟩:=hr1.upd (b' := .nodes .k T A (hs.set i (n.wz true)) none) (x:=((ι NT).1,L1++((B,cs++[hd],BT.c T)::[]++L2))) hlk rfl hNT
    have hrd:Rd (F.add h Lv) [.lst .np n.kids] [ρ.getD t undef]:=by
     have hdv:hd=ρ.getD t undef:=by
      rw [e3,List.getElem?_append_right (by omega)] at y1
      simpa [e4] using y1
     rw [← hdv,a1]
     exact rows_rd (q:=0) (e := .np) hle a2 a3 hF
    refine ⟨_,_,_,hle,rfl,u1.reset (t:=t) (.of_rd hrd),?_,h0,rfl,rfl,rfl,fun t'=>?_,?_,fun t' ht=>Gh.upd_ne fun e=>ht _ (look_mem hlk) e.symm⟩
    ·have hl:lv (ι.upd NT ((ι NT).1,L1++((B,cs++[hd],BT.c T)::[]++L2))) (s.upd NT (.nodes .k T A (hs.set i (n.wz true)) none)).ow=l1++(L1++((B,cs++[hd],BT.c T)::[]++L2)++l2):=u3
     show Hp h _ (lv _ (s.upd NT (.nodes .k T A (hs.set i (n.wz true)) none)).ow++L0)
     rw [hl]
     have hp0:(lv ι A'++lv ι B').Perm (l1++l2):=by
      rw [← u4,lv_congr (purge_keys s NT),hs',List.filter_append,List.filter_cons,filter_ne hA,filter_ne hB]
      simp [lv_append]
     refine hm2.perm (List.Perm.append_right _ ?_)
     have w:∀ a b c:List Blk,(a++(b++c)).Perm (b++(a++c)):=fun a b c=>List.perm_append_comm_assoc _ _ _
     refine (w _ _ _).trans (List.Perm.trans (List.Perm.append_left _ hp0.symm) (w _ _ _).symm)
    ·by_cases e:t'=NT
     ·subst e; rw [Gh.upd_same]
     ·rw [Gh.upd_ne e]
    ·show ((s.ow.map fun p=>cond (p.1 == NT) (NT,OB.nodes .k T A (hs.set i (n.wz true)) none) p).map (·.1))=_
     rw [List.map_map]
     refine List.map_congr_left fun p _=>?_
     show (cond (p.1 == NT) (NT,OB.nodes .k T A (hs.set i (n.wz true)) none) p).1=p.1
     cases hb:(p.1 == NT) with
     | false=>rfl
     | true=>exact (beq_iff_eq.1 hb).symm
   ·exact triv h0
  ·exact triv h0
 ·exact triv h0
theorem post_frzN {K:D→St→Option R} {s1:St} {F1:Frz} {ι1:Gh} {dt:Nat} {h':Array Obj} (g1:F.le F1) (g2:F1.nid=F.nid) (g5:s1.n=s.n) (g6:s1.np=s.np) (g7:s1.nw=s.nw) (gi:∀ t,(ι1 t).1=(ι t).1) (g8:s1.ow.map (·.1)=s.ow.map (·.1)) (go:∀ t,(∀ p∈s.ow,p.1≠t)→ι1 t=ι t) (hp:Post K r F1 ι1 s1 ρ L0 dt v h'):Post K r F ι s ρ L0 dt v h':=by
 obtain ⟨F',ι',d',s',p1,p2,p3,p4,p5,p6,p7,p8,p9,p10,p11⟩:=hp
 have hsub:∀ p∈s1.ow,∃ q∈s.ow,q.1=p.1:=fun p hp=>by
  have:p.1∈s1.ow.map (·.1):=List.mem_map.2 ⟨p,hp,rfl⟩
  rw [g8] at this
  obtain ⟨q,hq,he⟩:=List.mem_map.1 this
  exact ⟨q,hq,he⟩
 exact ⟨F',ι',d',s',g1.trans p1,p2,p3,p4,p5,p6.trans g5,p7.trans g6,p8.trans g7,fun e=>(p9 (g7.trans e)).trans g2,fun t ht=>(p10 t (by rw [g6]; exact ht)).trans (gi t),fun t h1 h2 h3 h4=>(p11 t (fun p hp e=>by
  obtain ⟨q,hq,he⟩:=hsub p hp
  exact h1 q hq (he.trans e)) h2 h3 fun hs=>⟨fun p hp e=>by
  obtain ⟨q,hq,he⟩:=hsub p hp
  exact (h4 hs).1 q hq (he.trans e),(h4 hs).2⟩).trans (go t h1)⟩
theorem stepN_gen {k:St→Option R} (hC:CxOK P C) (hr:Rel F ι s ρ) (hm:Hp h F (lv ι s.ow++L0)) (hw:Wan all ρ o) (h0:stepN C s o k=some r) (hk:∀ s' ρ' h' F' ι',PS k r F ι s ρ' L0 (o.dst.getD 900000) s' h' F' ι'→LW P E all KK rest ρ' h'):LW P E all KK (o::rest) ρ h:=by
 obtain ⟨dst,op,ty,p,af,gd⟩:=o
 unfold stepN at h0
 simp only at h0
 have fin:∀ v h',Post (fun d s'=>match s'.put dst d with | some s''=>k s'' | none=>none) r F ι s ρ L0 (dst.getD 900000) v h'→LW P E all KK rest (setD ρ dst v) h':=fun v h' hp=>by
  obtain ⟨s',F',ι',h1⟩:=post_put hp
  exact hk _ _ _ _ _ h1
 have pure:∀ op,evPure C s op (fun d=>match s.put dst d with | some s''=>k s'' | none=>none)=some r→Wan all ρ ⟨dst,op,ty,p,af,gd⟩→LW P E all KK (⟨dst,op,ty,p,af,gd⟩::rest) ρ h:=fun op hp hw=>by
  obtain ⟨v,d,h1,h2,h3⟩:=evPure_sound (P:=P) (dst:=dst) (ty:=ty) (p:=p) (af:=af) (gd:=gd) (L0:=L0) hC.1 hm.gl hr hp
  exact lw_pu hw (h1 h hm) rfl (fin v h ⟨F,ι,d,s, .refl F,hr,hm,h2,h3,rfl,rfl,rfl,fun _=>rfl,fun _ _=>rfl,fun _ _ _ _ _=>rfl⟩)
 unfold evOp at h0
 split at h0
 ·rename_i f xs ta
  split at h0
  ·rename_i s1 hs1
   obtain ⟨F1,g1,g2,g3,g4,g5,g6,g7,g8⟩:=freezeAll_seq hr hm hs1
   obtain ⟨hcal,hret⟩:=evCall_sound hC g3 g4 h0
   haveI:Cal P f:=⟨hcal⟩
   have e:xs=xs.toList.toArray:=by simp
   rw [e] at hw ⊢
   exact lw_cal hw hret fun v h' hp=>fin v h' (post_frz g1 g2 g5 g6 g7 g8 hp)
  ·cases h0
 ·rename_i t xs ta
  split at h0
  ·rename_i f ds hsl
   have hx:=hr.sl t
   rw [hsl] at hx
   obtain ⟨cs,hv,hcs⟩:=Rd.clo_inv hx
   obtain ⟨hcal,hret⟩:=evCallD_sound hC hr hm (dv:=hcs.f2) h0
   exact lw_call hw.out (fun w _=>run_dyn hv hcal w) hret fin
  ·rename_i f t' ds hsl
   have hx:=hr.sl t
   rw [hsl] at hx
   obtain ⟨B,cs,g1,hv,hcs⟩:=hx
   cases hf:Nat.blt f 1000000 with
   | false=>rw [hf] at h0; cases h0
   | true =>
    rw [hf] at h0
    simp only [cond_true] at h0
    rw [Nat.blt_eq] at hf
    obtain ⟨hcal,hret⟩:=evCallD_sound hC hr hm (ds := .op t' 0::ds) (cs := .pointer (some ⟨B,0,none⟩)::cs) (dv := .cons ⟨B,g1,rfl⟩ hcs.f2) h0
    exact lw_call hw.out (fun w _=>run_dyn (hv.of_fn hf) hcal w) hret fin
  ·cases h0
 ·rename_i x n xs ta
  split at h0
  ·rename_i f t' hx0
   split at h0
   ·rename_i q hq
    obtain ⟨hm1,rfl⟩:=mfind_ok hC.1 hq
    have hx:=g_rd hr x
    rw [hx0] at hx
    obtain ⟨B,cs,g1,hv,hcs⟩:=hx
    obtain ⟨hcal,hret⟩:=evCallM_sound hC hr hm (ds:=[.op t' 0]) (cs:=[.pointer (some ⟨B,0,none⟩)]) (dv := .cons ⟨B,g1,rfl⟩ .nil) h0
    exact lw_call hw.out (fun w _=>run_inv hv.of_if hm1 hcal w) hret fin
   ·cases h0
  ·cases h0
 ·split at h0
  ·cases hb:Nat.ble (s.np % 1000) (dst.getD 900000) with
   | false=>rw [hb] at h0; cases h0
   | true =>
    rw [hb] at h0
    simp only [cond_true] at h0
    exact lw_ef hw.out (evEff_sound hC.1 hr hm (by rw [Nat.ble_eq] at hb; exact hb) h0) fin
  ·exact pure _ h0 hw
 ·rename_i T x
  split at h0
  ·rename_i s1 hs1
   obtain ⟨F1,g1,g2,g3,g4,g5,g6,g7,g8⟩:=freezeAll_seq hr hm hs1
   obtain ⟨v,d,h1,h2,h3⟩:=evPure_sound (P:=P) (dst:=dst) (ty:=ty) (p:=p) (af:=af) (gd:=gd) (L0:=L0) hC.1 g4.gl g3 h0
   exact lw_pu hw (h1 h g4) rfl (fin v h ⟨F1,ι,d,s1,g1,g3,g4,h2,h3,g5,g6,g7,fun _=>g2,fun _ _=>rfl,fun _ _ _ _ _=>rfl⟩)
  ·cases h0
 ·rename_i T parts
  cases hnb:nodeB s T || (C.sch (1000000+T)).isSome with
  | true =>
   rw [hnb] at h0
   exact pure _ h0 hw
  | false =>
   rw [hnb] at h0
   simp only [cond_false] at h0
   split at h0
   ·rename_i s1 hs1
    obtain ⟨F1,g1,g2,g3,g4,g5,g6,g7,g8⟩:=freezeAll_seq hr hm hs1
    obtain ⟨v,d,h1,h2,h3⟩:=evPure_sound (P:=P) (dst:=dst) (ty:=ty) (p:=p) (af:=af) (gd:=gd) (L0:=L0) hC.1 g4.gl g3 h0
    exact lw_pu hw (h1 h g4) rfl (fin v h ⟨F1,ι,d,s1,g1,g3,g4,h2,h3,g5,g6,g7,fun _=>g2,fun _ _=>rfl,fun _ _ _ _ _=>rfl⟩)
   ·cases h0
 ·cases hp:isPure op with
  | true=>rw [hp] at h0; exact pure _ h0 hw
  | false =>
   rw [hp] at h0
   simp only [cond_false] at h0
   cases hb:Nat.ble (s.np % 1000) (dst.getD 900000) with
   | false=>rw [hb] at h0; cases h0
   | true =>
    rw [hb] at h0
    simp only [cond_true] at h0
    split at h0
    ·rename_i s1 hs1
     obtain ⟨F1,g1,g2,g3,g4,g5,g6,g7,g8⟩:=freezeAll_seq hr hm hs1
     obtain ⟨F2,ι2,s2,k1,k2,k3,k4,h0,k5,k6,k7,k8,k9,k10⟩:=preN_sound g3 g4 h0
     refine lw_ef hw.out (evEff_sound hC.1 k3 k4 (by rw [Nat.ble_eq] at hb; rw [k6,g6]; exact hb) h0) fun v h' hp=>fin v h' ?_
     exact post_frz g1 g2 g5 g6 g7 g8 (post_frzN k1 k2 k5 k6 k7 k8 k9 k10 hp)
    ·cases h0
theorem stepM_gen {sy:St} {L1':List Blk} {k:St→Option R} (hC:CxOK P C) (hr:Rel F ι s ρ) (hm:Hp h F (lv ι s.ow++L0)) (hry:Rel F ι sy ρ) (hmy:Hp h F (lv ι sy.ow++L1')) (hw:Wan all ρ o) (h0:stepM C sy s o k=some r) (hk:∀ s' ρ' h' F' ι',PS k r F ι s ρ' L0 (o.dst.getD 900000) s' h' F' ι'→LW P E all KK rest ρ' h'):LW P E all KK (o::rest) ρ h:=by
 unfold stepM at h0
 cases ha:appNT sy o.op with
 | false=>rw [ha] at h0; exact stepN_gen hC hr hm hw h0 hk
 | true =>
  rw [ha] at h0
  simp only [cond_true] at h0
  obtain ⟨dst,op,ty,p,af,gd⟩:=o
  unfold stepA at h0
  simp only at h0
  split at h0
  ·rename_i c
   obtain ⟨callee,args,tys⟩:=c
   split at h0
   ·rename_i hca
    simp only at hca
    subst hca
    split at h0
    ·rename_i x y hxy
     split at h0
     ·rename_i S X hSX
      have ea:args=#[x,y]:=Array.ext' hxy
      have et0:tys=#[S,X]:=Array.ext' hSX
      subst ea
      subst et0
      split at h0
      ·cases h0
      ·cases hb:Nat.ble (s.np % 1000) (dst.getD 900000) with
       | false=>rw [hb] at h0; cases h0
       | true =>
        rw [hb] at h0
        simp only [cond_true] at h0
        exact lw_ef hw.out (evAppend_sound hC.1 hr hm hry hmy (by rw [Nat.ble_eq] at hb; exact hb) h0) fun v h' hp=>by
         obtain ⟨s',F',ι',h1⟩:=post_put hp
         exact hk _ _ _ _ _ h1
     ·cases h0
    ·cases h0
   ·cases h0
  ·cases h0
theorem stepN_lw {k:St→Option R} (hC:CxOK P C) (hi:Inv F0 io L0 n np nw s ρ h) (hw:Wan all ρ o) (h0:stepN C s o k=some r) (hk:∀ s' ρ' h',Inv F0 io L0 n np nw s' ρ' h'→k s'=some r→LW P E all KK rest ρ' h'):LW P E all KK (o::rest) ρ h:=by
 obtain ⟨⟨F,ι,hF,hN,hr,hm,hι⟩,hn,hnp,hnw⟩:=hi
 exact stepN_gen hC hr hm hw h0 fun s' ρ' h' F' ι' hp=>hk s' ρ' h' ⟨⟨F',ι',hF.trans hp.le,fun e=>(hp.nid (hnw.trans e)).trans (hN e),hp.rel,hp.hp,fun t ht=>(hp.io t (by omega)).trans (hι t ht)⟩,hp.n.trans hn,hp.np.trans hnp,hp.nw.trans hnw⟩ hp.k
theorem put_und {s':St} (hi:Inv F0 io L0 n np nw s ρ h) (hp:s.put dst .und=some s'):Inv F0 io L0 n np nw s' (setD ρ dst undef) h:=by
 obtain ⟨⟨F,ι,hF,hN,hr,hm,hι⟩,hn,hnp,hnw⟩:=hi
 obtain ⟨a,b,c,e,f⟩:=hr.put (v:=undef) hp (fun _ => .of_w rfl)
 exact ⟨⟨F,ι,hF,hN,a,by rw [b]; exact hm,hι⟩,by omega,by omega,f.trans hnw⟩
theorem Inv.bool {c:Bool} (hi:Inv F0 io L0 n np nw s ρ h) (hs:s.sl t = .bool c):ev ρ (.tmp t) = .bool c:=by
 obtain ⟨⟨F,ι,hF,hN,hr,hm,hι⟩,hn,hnp,hnw⟩:=hi
 have:=hr.sl t
 rw [hs] at this
 exact Rd.bool_inv this
theorem Inv.undf (hi:Inv F0 io L0 n np nw s ρ h) (hs:s.sl t = .und):ev ρ (.tmp t)=undef:=by
 obtain ⟨⟨F,ι,hF,hN,hr,hm,hι⟩,hn,hnp,hnw⟩:=hi
 have:=hr.sl t
 rw [hs] at this
 exact this
theorem Inv.reset {c:Bool} (hi:Inv F0 io L0 n np nw s ρ h) (hs:s.sl t = .bool c):Inv F0 io L0 n np nw (s.set t (.bool c)) ρ h:=by
 obtain ⟨⟨F,ι,hF,hN,hr,hm,hι⟩,hn,hnp,hnw⟩:=hi
 have:=hr.sl t
 rw [hs] at this
 exact ⟨⟨F,ι,hF,hN,hr.reset this,hm,hι⟩,hn,hnp,hnw⟩
theorem evOps_lw (hC:CxOK P C) {k:St→Option R}:∀ (l:List Oper) (s:St) (ρ:List Value) (h:Array Obj),Inv F0 io L0 n np nw s ρ h→evOps (stepN C) all l s k=some r→(∀ s' ρ' h',Inv F0 io L0 n np nw s' ρ' h'→k s'=some r→KK ρ' h')→LW P E all KK l ρ h
 | [],s,ρ,h,hi,h0,hk=>lw_nil (hk s ρ h hi h0)
 | o::l,s,ρ,h,hi,h0,hk=>by
  unfold evOps at h0
  have go:∀ s,Inv F0 io L0 n np nw s ρ h→Wan all ρ o→stepN C s o (fun s'=>evOps (stepN C) all l s' k)=some r→LW P E all KK (o::l) ρ h:=fun s hi hw h0 =>
   stepN_lw hC hi hw h0 fun s' ρ' h' hi' h1=>evOps_lw hC l s' ρ' h' hi' h1 hk
  split at h0
  ·rename_i hg
   exact go s hi (wan_none hg) h0
  ·rename_i j b hg
   split at h0
   ·cases h0
   ·rename_i t ht
    split at h0
    ·rename_i c hs
     have hv:=hi.bool hs
     have hi':=hi.reset hs
     cases c <;> cases b <;> simp only [cond_true,cond_false] at h0
     ·exact go _ hi' (wan_some hg ht hv) h0
     ·split at h0
      ·rename_i s' hp
       exact lw_skip_b hg ht hv rfl (evOps_lw hC l s' _ h (put_und hi' hp) h0 hk)
      ·cases h0
     ·split at h0
      ·rename_i s' hp
       exact lw_skip_b hg ht hv rfl (evOps_lw hC l s' _ h (put_und hi' hp) h0 hk)
      ·cases h0
     ·exact go _ hi' (wan_some hg ht hv) h0
    ·rename_i hs
     split at h0
     ·rename_i s' hp
      exact lw_skip_u hg ht (hi.undf hs) rfl (evOps_lw hC l s' _ h (put_und hi hp) h0 hk)
     ·cases h0
    ·cases h0
def valS:(k:Kd)→k.T→Value
 | .int k,n => .int k n
 | .bool,b => .bool b
 | .str,l=>bs l
 | _,_=>undef
def valsS:(p:Pt)→Tup p→List Value
 | [],_=>[]
 | [q],x=>[valS q.2 x]
 | q::q'::ps,x=>valS q.2 x.1::valsS (q'::ps) x.2
theorem M1.val {i:Nat} {k:Kd} {x:k.T} (h:M1 F ι i k x v) (hk:k.scalar=true):v=valS k x:=by
 cases k <;> first | (simp [Kd.scalar] at hk; done) | skip
 ·exact Rd.int_inv h.1
 ·exact Rd.bool_inv h.1
 ·exact Rd.str_inv h.1
theorem MP.vals {vs:Nat→Value}:∀ {j:Nat} {q:Pt} {x:Tup q},q.map (·.1)=List.range' j q.length→(q.all fun q=>q.2.scalar)=true→MP F ι vs q x→(List.range' j q.length).map vs=valsS q x
 | j,[],x,_,_,_=>rfl
 | j,[a],x,hq,hs,hm=>by
  have hj:a.1=j:=by simpa using hq
  have:vs a.1=valS a.2 x:=M1.val hm (by simpa using hs)
  rw [hj] at this
  simp [valsS,this]
 | j,a::b::q,x,hq,hs,hm=>by
  have hj:a.1=j∧(b::q).map (·.1)=List.range' (j+1) (b::q).length:=by
   rw [List.map_cons,List.length_cons,List.range'_succ,List.cons.injEq] at hq
   exact hq
  rw [List.all_cons,Bool.and_eq_true] at hs
  have h1:vs a.1=valS a.2 x.1:=M1.val hm.1 hs.1
  rw [hj.1] at h1
  have h2:=MP.vals (j:=j+1) (q:=b::q) (x:=x.2) hj.2 hs.2 hm.2
  simp only [List.length_cons,List.range'_succ,List.map_cons,valsS] at h2 ⊢
  rw [h1,h2]
theorem range_map_getD {vs:List Value}:(List.range' 0 vs.length).map (fun i=>vs.getD i undef)=vs:=by
 apply List.ext_getElem?
 intro i
 rw [List.getElem?_map]
 rcases Nat.lt_or_ge i vs.length with hi | hi
 ·rw [List.getElem?_range' (by omega)]
  simp [List.getD_eq_getElem?_getD,hi]
 ·rw [List.getElem?_eq_none (by simp; omega),List.getElem?_eq_none hi]
  rfl
theorem MP.of_vals {F0:Frz} {ι0:Gh}:∀ {q:Pt} {x:Tup q},(q.all fun q=>q.2.scalar)=true→(∀ k∈q.map (·.1),k<1000)→F2 (fun d v=>RdV F0 ι0 d v∧∀ ds,d ≠ .tup ds) (outDs id q x) (valsS q x)
 | [],_,_,_ => .nil
 | [(i,k)],x,hs,hq=>by
  have h1:Nat.blt i 1000=true:=by rw [Nat.blt_eq]; exact hq i (by simp)
  simp only [outDs,h1,cond_true]
  refine .cons ⟨?_,mk1_notup⟩ .nil
  simp only [List.all_cons,List.all_nil,Bool.and_true] at hs
  cases k <;> first | (simp [Kd.scalar] at hs; done) | skip
  ·exact .of_rd (.int .nil)
  ·exact .of_rd (.bool .nil)
  ·exact .of_rd (.str .nil)
 | (i,k)::b::q,x,hs,hq=>by
  have h1:Nat.blt i 1000=true:=by rw [Nat.blt_eq]; exact hq i (by simp)
  rw [List.all_cons,Bool.and_eq_true] at hs
  simp only [outDs,h1,cond_true]
  refine .cons ⟨?_,mk1_notup⟩ (MP.of_vals (q:=b::q) (x:=x.2) hs.2 fun k hk=>hq k (List.mem_cons_of_mem _ hk))
  have hs1:=hs.1
  cases k <;> first | (simp [Kd.scalar] at hs1; done) | skip
  ·exact .of_rd (.int .nil)
  ·exact .of_rd (.bool .nil)
  ·exact .of_rd (.str .nil)
theorem evCallQ_sound {K:D→Option R} {f:FuncId} {xs:List Operand} (hC:CxOK P C) (hr:Rel F ι s ρ) (h0:evCallQ C s f (xs.map (g s)) K=some r):(∀ args w,(callFunc f args).run P w = .ok (.enter f args) w)∧∃ v d,RdV F ι d v∧K d=some r∧∀ h,Hp h F (lv ι s.ow++L0)→Ret P f (xs.map (ev ρ)) h fun v' h'=>v'=v∧Hp h' F (lv ι s.ow++L0):=by
 unfold evCallQ at h0
 split at h0
 ·cases h0
 ·rename_i ent hent
  obtain ⟨hfn,hcal⟩:=pickE_ok hC hent
  refine ⟨hcal,?_⟩
  generalize hsa:argSt s (xs.map (g s))=sa at h0
  have hra:Rel F ι sa (xs.map (ev ρ)):=by
   subst hsa
   exact ⟨by simp [argSt],getD_map_g hr,hr.ow,hr.nd⟩
  have how:sa.ow=s.ow:=by subst hsa; rfl
  cases hc:(ent.pout.all (fun q=>q.2.scalar) && (tags sa ent.pin).isEmpty && nodupB (lent sa ent.pin) && realK ent.pin == List.range (xs.map (g s)).length && ent.pout.map (·.1) == List.range ent.pout.length && (realK ent.pout).length == ent.pout.length) with
  | false=>rw [hc] at h0; cases h0
  | true =>
   rw [hc] at h0
   simp only [cond_true] at h0
   simp only [Bool.and_eq_true,beq_iff_eq,Bool.not_eq_true',List.isEmpty_iff] at hc
   obtain ⟨⟨⟨⟨⟨hc2,hc4⟩,hc5⟩,hc6⟩,hc7⟩,hc8⟩:=hc
   split at h0
   ·cases h0
   ·rename_i x hx
    obtain ⟨rr,hrr,h0⟩:=Option.bind_eq_some_iff.1 h0
    have hpout:ent.pout.map (·.1)=List.range' 0 ent.pout.length:=by rw [hc7,List.range_eq_range']
    have hlt:∀ k∈ent.pout.map (·.1),k<1000:=fun k hk=>by
     have h1:realK ent.pout=ent.pout.map (·.1):=(List.filter_sublist).eq_of_length (by simpa [realK] using hc8)
     rw [← h1] at hk
     have:=(List.mem_filter.1 hk).2
     rwa [Nat.blt_eq] at this
    have hNT:hasNT ent.pout=false:=by
     cases hN:hasNT ent.pout with
     | false=>rfl
     | true =>
      have h1:=hlt NT (hasNT_iff.1 hN)
      exact absurd h1 (by decide)
    refine ⟨joinV (valsS ent.pout rr),_,joinD_sound (MP.of_vals hc2 hlt),h0,fun h hm=>?_⟩
    have hma:Hp h F (lv ι sa.ow++L0):=by rw [how]; exact hm
    obtain ⟨F1,hle,hnid1,hF1,hMP,hlv,hH,hun⟩:=args_sound hra hma (by rw [hc4]; exact nodupB_nodup hc5) hx
    have hlen:(xs.map (ev ρ)).length=(realK ent.pin).length:=by rw [hc6]; simp
    refine (hfn x rr hrr F1 (reG ι sa) h (kl ι (without (sa.ow.map (·.1)) (tags sa ent.pin++lent sa ent.pin))++L0) _ hlen hMP (by rw [hlv]; exact hH)).mono ?_
    rintro v h' ⟨F2,ι2,vs,hle2,hnid2,hvl,hres,hv,hH2,hio⟩
    have h1:=MP.vals hpout hc2 hres
    have h1':(List.range' 0 ent.pout.length).map (vX vs (reG ι sa))=vs:=by
     have e1:(List.range' 0 ent.pout.length).map (vX vs (reG ι sa))=(List.range' 0 ent.pout.length).map fun i=>vs.getD i undef:=List.map_congr_left fun k hk=>by
      rw [← hpout] at hk
      exact if_pos (hlt k hk)
     rw [e1,← hc8,← hvl,range_map_getD]
    rw [h1'] at h1
    refine ⟨by rw [hv,h1],?_⟩
    have h2:=hun F2 h' _ hle2 (hH2.sub (List.sublist_append_right _ _))
    have h2:=h2.nid_eq (F':=F) rfl (hle.trans hle2).2.2
    rw [hc4,List.nil_append,← List.append_assoc,← kl_append] at h2
    refine h2.perm (List.Perm.append_right L0 ?_)
    rw [lv_kl,← how]
    exact kl_perm (perm_without (by rw [how]; exact hr.nd) (nodupB_nodup hc5) fun t ht=>by
     obtain ⟨b,hb⟩:=lent_look hx t ht
     exact look_key hb)
def SR (F:Frz) (ι:Gh) (ow:List (Nat×OB)) (L0:List Blk) (h:Array Obj):Prop:=Hp h F (lv ι ow++L0)
theorem stepQ_qw {k:St→Option R} {Kq:List Value→Prop} {ow:List (Nat×OB)} (hC:CxOK P C) (hgl:Gl F.m) (hr:Rel F ι s ρ) (how:s.ow=ow) (hw:Wan all ρ o) (h0:stepQ C s o k=some r) (hk:∀ s' ρ',Rel F ι s' ρ'→s'.ow=ow→s'.n=s.n→s'.np=s.np→s'.nw=s.nw→k s'=some r→QW P E (SR F ι ow L0) all Kq rest ρ'):QW P E (SR F ι ow L0) all Kq (o::rest) ρ:=by
 obtain ⟨dst,op,ty,p,af,gd⟩:=o
 unfold stepQ at h0
 simp only at h0
 have fin:∀ v d,RdV F ι d v→(match s.put dst d with | some s''=>k s'' | none=>none)=some r→QW P E (SR F ι ow L0) all Kq rest (setD ρ dst v):=fun v d hd h1=>by
  cases hput:s.put dst d with
  | none=>rw [hput] at h1; cases h1
  | some s'' =>
   rw [hput] at h1
   obtain ⟨a,b,c,e,f⟩:=hr.put hput (fun _=>hd)
   exact hk _ _ a (by rw [b,how]) e c f h1
 unfold evOpQ at h0
 split at h0
 ·rename_i f xs ta
  obtain ⟨hcal,v,d,h1,h2,h3⟩:=evCallQ_sound (L0:=L0) hC hr h0
  haveI:Cal P f:=⟨hcal⟩
  have e:xs=xs.toList.toArray:=by simp
  rw [e] at hw ⊢
  exact qw_calp hw (fun h hS=>by subst how; exact h3 h hS) rfl (fin v d h1 h2)
 ·obtain ⟨v,d,h1,h2,h3⟩:=evPure_sound (P:=P) (dst:=dst) (ty:=ty) (p:=p) (af:=af) (gd:=gd) (L0:=L0) hC.1 hgl hr h0
  exact qw_pu hw (fun h hS=>h1 h (by subst how; exact hS)) rfl (fin v d h2 h3)
theorem evOps_qw (hC:CxOK P C) (hgl:Gl F.m) {k:St→Option R} {Kq:List Value→Prop} {ow:List (Nat×OB)}:∀ (l:List Oper) (s:St) (ρ:List Value),Rel F ι s ρ→s.ow=ow→s.n=n→s.np=np→s.nw=nw→evOps (stepQ C) all l s k=some r→(∀ s' ρ',Rel F ι s' ρ'→s'.ow=ow→s'.n=n→s'.np=np→s'.nw=nw→k s'=some r→Kq ρ')→QW P E (SR F ι ow L0) all Kq l ρ
 | [],s,ρ,hr,how,hn,hnp,hnw,h0,hk=>qw_nil (hk s ρ hr how hn hnp hnw h0)
 | o::l,s,ρ,hr,how,hn,hnp,hnw,h0,hk=>by
  unfold evOps at h0
  have go:∀ s,Rel F ι s ρ→s.ow=ow→s.n=n→s.np=np→s.nw=nw→Wan all ρ o→stepQ C s o (fun s'=>evOps (stepQ C) all l s' k)=some r→QW P E (SR F ι ow L0) all Kq (o::l) ρ:=fun s hr how hn hnp hnw hw h0 =>
   stepQ_qw hC hgl hr how hw h0 fun s' ρ' hr' how' hn' hnp' hnw' h1=>evOps_qw hC hgl l s' ρ' hr' how' (hn'.trans hn) (hnp'.trans hnp) (hnw'.trans hnw) h1 hk
  have skip:∀ s s',Rel F ι s ρ→s.ow=ow→s.n=n→s.np=np→s.nw=nw→s.put o.dst .und=some s'→Rel F ι s' (setD ρ o.dst undef)∧s'.ow=ow∧s'.n=n∧s'.np=np∧s'.nw=nw:=fun s s' hr how hn hnp hnw hp=>by
   obtain ⟨a,b,c,e,f⟩:=hr.put (v:=undef) hp (fun _ => .of_w rfl)
   exact ⟨a,b.trans how,e.trans hn,c.trans hnp,f.trans hnw⟩
  split at h0
  ·rename_i hg
   exact go s hr how hn hnp hnw (wan_none hg) h0
  ·rename_i j b hg
   split at h0
   ·cases h0
   ·rename_i t ht
    split at h0
    ·rename_i c hs
     have hd:=hr.sl t
     rw [hs] at hd
     have hv:ev ρ (.tmp t) = .bool c:=Rd.bool_inv hd
     have hr':=hr.reset (d := .bool c) hd
     cases c <;> cases b <;> simp only [cond_true,cond_false] at h0
     ·exact go _ hr' how hn hnp hnw (wan_some hg ht hv) h0
     ·split at h0
      ·rename_i s' hp
       obtain ⟨a,b,c,e,f⟩:=skip _ _ hr' how hn hnp hnw hp
       exact qw_skip_b hg ht hv rfl (evOps_qw hC hgl l s' _ a b c e f h0 hk)
      ·cases h0
     ·split at h0
      ·rename_i s' hp
       obtain ⟨a,b,c,e,f⟩:=skip _ _ hr' how hn hnp hnw hp
       exact qw_skip_b hg ht hv rfl (evOps_qw hC hgl l s' _ a b c e f h0 hk)
      ·cases h0
     ·exact go _ hr' how hn hnp hnw (wan_some hg ht hv) h0
    ·rename_i hs
     have hd:=hr.sl t
     rw [hs] at hd
     split at h0
     ·rename_i s' hp
      obtain ⟨a,b,c,e,f⟩:=skip _ _ hr how hn hnp hnw hp
      exact qw_skip_u hg ht hd rfl (evOps_qw hC hgl l s' _ a b c e f h0 hk)
     ·cases h0
    ·cases h0
def SH (F:Frz) (ι:Gh) (w0:List (Nat×OB)) (h:Array Obj):Prop:=Hp h F (lv ι w0++[])
theorem hidden_own {w0:List (Nat×OB)} (hh:hidden w0=true) (hle:F.le F') (he:∀ q∈w0,ι' q.1=ι q.1) {q:Nat×OB} (hq:q∈w0) (h:OwnR F ι q.1 q.2):OwnR F' ι' q.1 q.2:=by
 have h1:=List.all_eq_true.1 hh q hq
 obtain ⟨t,b⟩:=q
 simp only at h h1 ⊢
 have ht:=he _ hq
 simp only at ht
 cases b with
 | rows e T xs=>obtain ⟨q,n,cp,rows,a,c,f⟩:=h; exact ⟨q,n,cp,rows,by rw [ht]; exact a,by rw [ht]; exact c,forall2_imp (fun _ _ h=>h.mono hle) f⟩
 | mp l=>obtain ⟨B,cs,a,c,f⟩:=h; exact ⟨B,cs,by rw [ht]; exact a,by rw [ht]; exact c,f.mono hle⟩
 | sit l pos=>obtain ⟨B,a,c⟩:=h; exact ⟨B,by rw [ht]; exact a,by rw [ht]; exact c⟩
 | cells T ds =>
  obtain ⟨B,cs,a,c,f⟩:=h
  refine ⟨B,cs,by rw [ht]; exact a,by rw [ht]; exact c,?_⟩
  simp only at h1
  clear c hq
  induction f with
  | nil=>exact .nil
  | @cons d v ds vs hd _ ih =>
   rw [List.all_cons,Bool.and_eq_true] at h1
   refine .cons ?_ (ih h1.2)
   have h2:=h1.1
   cases hp:d.plain with
   | true=>exact .of_rd ((hd.to_rd hp).mono hle)
   | false =>
    rw [hp,Bool.false_or] at h2
    cases d with
    | own t' =>
     simp only [List.any_eq_true,beq_iff_eq] at h2
     obtain ⟨q,hq,rfl⟩:=h2
     show _=_
     rw [he q hq]
     exact hd
    | op t' o =>
     simp only [List.any_eq_true,beq_iff_eq] at h2
     obtain ⟨q,hq,rfl⟩:=h2
     obtain ⟨B,g1,g2⟩:=hd
     exact ⟨B,by rw [he q hq]; exact g1,g2⟩
    | _=>simp at h2
 | nodes cl T A hs hole=>simp at h1
 | nodesR cl hs=>exact ⟨by rw [ht]; exact h.1,fun i x hx=>by obtain ⟨B,cs,a,b,c⟩:=h.2 i x hx; exact ⟨B,cs,hle.2.1 _ _ a,b.mono hle,c.mono hle⟩⟩
theorem diam_inv {ops:List Oper} {listed:Array Bool} {i j:Nat} (h:chk (diam ops.toArray listed i j)=true):∃ di Tl a ty1 p1 af1 dj Tb n' parts ty2 p2 af2,ops[i]?=some ⟨some di, .load Tl (.tmp a),ty1,p1,af1,none⟩∧ops[j]?=some ⟨some dj, .buildSlice Tb n' parts,ty2,p2,af2,none⟩∧a≠dj∧di≠dj∧(∀ q∈parts.toList,q.2 ≠ .tmp di) ∧
  Region.ready .any ops.toArray listed=[i,j]∧Region.ready .any ops.toArray (listed.setIfInBounds i true)=[j]∧Region.ready .any ops.toArray (listed.setIfInBounds j true)=[i]∧(listed.setIfInBounds i true).setIfInBounds j true=(listed.setIfInBounds j true).setIfInBounds i true:=by
 simp only [chk,diam] at h
 split at h
 ·rename_i di Tl a ty1 p1 af1 ho
  split at h
  ·rename_i dj Tb n' parts ty2 p2 af2 ho'
   simp only [Bool.and_eq_true,Bool.not_eq_true',beq_eq_false_iff_ne,beq_iff_eq] at h
   obtain ⟨⟨⟨⟨⟨⟨h1,h2⟩,h3⟩,h4⟩,h5⟩,h6⟩,h7⟩:=h
   refine ⟨di,Tl,a,ty1,p1,af1,dj,Tb,n',parts,ty2,p2,af2,ho,ho',h1,h2,fun q hq e=>?_,h4,h5,h6,h7⟩
   have:=List.all_eq_true.1 h3 q hq
   rw [e] at this
   simp at this
  ·cases h
 ·cases h
theorem ev_setD_ne {di:Nat} {v:Value} {x:Operand} (h:x ≠ .tmp di):ev (setD ρ (some di) v) x=ev ρ x:=by
 cases x with
 | tmp t =>
  have:di≠t:=fun e=>h (by rw [e])
  simp only [ev,setD,List.getD_eq_getElem?_getD]
  rw [List.getElem?_set_ne this]
 | _=>rfl
theorem lateE_two {ops:List Oper} {S:Array Obj→Prop} {listed:Array Bool} {i j di Tl a ty1 dj Tb n' ty2:Nat} {parts:Array (Nat×Operand)} {p1 p2:String} {af1 af2:Array Edge} {k:St→Option R} {fuel:Nat} (hC:CxOK P C) (hr:Rel F ι s ρ) (hm:Hp h F (lv ι s.ow++L0)) (ho:ops[i]?=some ⟨some di, .load Tl (.tmp a),ty1,p1,af1,none⟩) (ho':ops[j]?=some ⟨some dj, .buildSlice Tb n' parts,ty2,p2,af2,none⟩) (ha1:a≠dj) (ha2:di≠dj) (ha3:∀ q∈parts.toList,q.2 ≠ .tmp di)
  (r1:Region.ready .any ops.toArray listed=[i,j]) (r2:Region.ready .any ops.toArray (listed.setIfInBounds i true)=[j]) (r3:Region.ready .any ops.toArray (listed.setIfInBounds j true)=[i]) (r4:(listed.setIfInBounds i true).setIfInBounds j true=(listed.setIfInBounds j true).setIfInBounds i true)
  (hfz:preL C s Tl (.tmp a)=[]) (h0:(stepN C s ⟨some di, .load Tl (.tmp a),ty1,p1,af1,none⟩ fun s=>stepN C s ⟨some dj, .buildSlice Tb n' parts,ty2,p2,af2,none⟩ k)=some r) (hS:∀ h,Hp h F (lv ι s.ow++L0)→S h)
  (hk:∀ s' ρ' h' F' ι',PS k r F ι s ρ' L0 dj s' h' F' ι'→AW P E S ops KK fuel ((listed.setIfInBounds i true).setIfInBounds j true) ρ' h'):AW P E S ops KK (fuel+2) listed ρ h:=by
 unfold stepN at h0
 simp only [evOp,isPure,cond_true,hfz,freezeAll] at h0
 obtain ⟨v,d,g1,g2,g3⟩:=evPure_sound (P:=P) (dst:=some di) (ty:=ty1) (p:=p1) (af:=af1) (gd:=none) (L0:=L0) hC.1 hm.gl hr h0
 split at g3
 ·rename_i s1 hput
  obtain ⟨q1,q2,q3,q4,q5⟩:=hr.put hput (fun _=>g2)
  simp only [cond_false,Option.getD_some] at g3
  cases hb:Nat.ble (s1.np % 1000) dj with
  | false=>rw [hb] at g3; cases g3
  | true =>
   rw [hb] at g3
   simp only [cond_true] at g3
   have hm1:Hp h F (lv ι s1.ow++L0):=by rw [q2]; exact hm
   split at g3
   rotate_left
   ·cases g3
   rename_i s1' hs1
   simp only [preN] at g3
   obtain ⟨F1,k1,k2,k3,k4,k5,k6,k7,k8⟩:=freezeAll_seq q1 hm1 hs1
   obtain ⟨u,ob,e1,e2⟩:=evBS_sound (P:=P) (dst:=some dj) (ty:=ty2) (p:=p2) (af:=af2) (gd:=none) hC.1 k3 k4 (by rw [Nat.ble_eq] at hb; rw [k6]; exact hb) g3
   obtain ⟨s2,F2,ι2,hp⟩:=post_put e2
   have hsub:∀ p∈s1'.ow,∃ q∈s.ow,q.1=p.1:=fun p hp=>by
    have:p.1∈s1'.ow.map (·.1):=List.mem_map.2 ⟨p,hp,rfl⟩
    rw [k8] at this
    obtain ⟨q,hq,he⟩:=List.mem_map.1 (without_sub.subset this)
    rw [q2] at hq
    exact ⟨q,hq,he⟩
   have hps:PS k r F ι s (setD (setD ρ (some di) v) (some dj) u) L0 dj s2 (h.push ob) F2 ι2:=⟨k1.trans hp.le,hp.rel,hp.hp,hp.k,hp.n.trans (k5.trans q4),hp.np.trans (k6.trans q3),hp.nw.trans (k7.trans q5),fun e=>(hp.nid (k7.trans (q5.trans e))).trans k2,fun t ht=>hp.io t (by rw [k6,q3]; exact ht),fun t ht h1 h2 h3=>hp.oth t (fun p hp' e=>by
    obtain ⟨q,hq,he⟩:=hsub p hp'
    exact ht q hq (he.trans e)) h1 h2 fun hs=>⟨fun p hp' e=>by
    obtain ⟨q,hq,he⟩:=hsub p hp'
    exact (h3 hs).1 q hq (he.trans e),(h3 hs).2⟩⟩
   have hm':Hp (h.push ob) F (lv ι s.ow++L0):=hm.pushed ob
   have hend:=hk _ _ _ _ _ hps
   have ex1:Ex P ρ ⟨some dj, .buildSlice Tb n' parts,ty2,p2,af2,none⟩ h u (h.push ob):=e1 ρ fun q hq=>(ev_setD_ne (ha3 q hq)).symm
   have ex2:Ex P (setD ρ (some di) v) ⟨some dj, .buildSlice Tb n' parts,ty2,p2,af2,none⟩ h u (h.push ob):=e1 _ fun _ _=>rfl
   have pu2:Pu P (setD ρ (some dj) u) ⟨some di, .load Tl (.tmp a),ty1,p1,af1,none⟩ (h.push ob) v:=⟨fun w hw=>by
    have:=(g1 _ hm').out w hw
    have e:ev (setD ρ (some dj) u) (.tmp a)=ev ρ (.tmp a):=ev_setD_ne (by intro e; cases e; exact ha1 rfl)
    simp only [execOp,e] at this ⊢
    exact this⟩
   have hcomm:setD (setD ρ (some dj) u) (some di) v=setD (setD ρ (some di) v) (some dj) u:=by
    simp only [setD]
    exact List.set_comm _ _ (fun e=>ha2 e.symm)
   refine aw_two i j ho ho' r1 ?_ ?_
   ·refine lw_pu (wan_none rfl) (g1 h hm) rfl (lw_nil ⟨hS h hm,aw_step j ho' r2 (lw_ex (wan_none rfl) ex2 rfl (lw_nil ⟨hS _ hm',hend⟩))⟩)
   ·refine lw_ex (wan_none rfl) ex1 rfl (lw_nil ⟨hS _ hm',aw_step i ho r3 (lw_pu (wan_none rfl) pu2 rfl (lw_nil ⟨hS _ hm',?_⟩))⟩)
    rw [← r4,hcomm]
    exact hend
 ·cases g3
theorem wpAnyH_monoS {md:Region.Mode} {ops:Array Oper} {Q:Exit→Act→World→Prop} {S S':World→Prop} (hs:∀ w,S' w→S w):∀ (fuel:Nat) (listed:Array Bool) (a:Act) (w:World),wpAnyH P md ops Q S' fuel listed a w→wpAnyH P md ops Q S fuel listed a w
 | 0,_,_,_,h=>h
 | fuel+1,_,_,_,h=>⟨h.1,fun i hi=>wpOp_mono (fun a' w' h'=>⟨hs _ h'.1,wpAnyH_monoS hs fuel _ a' w' h'.2⟩) (h.2 i hi)⟩
theorem AW.monoS {ops:List Oper} {S S':Array Obj→Prop} {fuel:Nat} {listed:Array Bool} (hs:∀ h,S' h→S h) (ha:AW P E S' ops KK fuel listed ρ h):AW P E S ops KK fuel listed ρ h :=
 ⟨fun w hw=>wpAnyH_monoS (fun _ ⟨h',h1,h2⟩=>⟨h',h1,hs _ h2⟩) _ _ _ _ (ha.out w hw)⟩
theorem guardE_inv {ops:List Oper} {o:Oper} {go skip:St→Option R} (hr:Rel F ι s ρ) (h0:guardE ops.toArray s o go skip=some r) :
  (∃ s1,Rel F ι s1 ρ∧s1.ow=s.ow∧s1.n=s.n∧s1.np=s.np∧s1.nw=s.nw∧Wan ops ρ o∧go s1=some r) ∨
  (∃ s1,Rel F ι s1 (setD ρ o.dst undef)∧s1.ow=s.ow∧s1.n=s.n∧s1.np=s.np∧s1.nw=s.nw∧Region.wanted o (yielded ops.toArray (act ρ).tmps)=false∧skip s1=some r):=by
 unfold guardE at h0
 have sk:∀ s0,Rel F ι s0 ρ→s0.ow=s.ow→s0.n=s.n→s0.np=s.np→s0.nw=s.nw→Region.wanted o (yielded ops.toArray (act ρ).tmps)=false→(match s0.put o.dst .und with | some s'=>skip s' | none=>none)=some r →
   (∃ s1,Rel F ι s1 (setD ρ o.dst undef)∧s1.ow=s.ow∧s1.n=s.n∧s1.np=s.np∧s1.nw=s.nw∧Region.wanted o (yielded ops.toArray (act ρ).tmps)=false∧skip s1=some r):=fun s0 hr0 e1 e2 e3 e4 hw h1=>by
  split at h1
  ·rename_i s' hput
   obtain ⟨a,b,c,e,f⟩:=hr0.put (v:=undef) hput (fun _ => .of_w rfl)
   exact ⟨s',a,b.trans e1,e.trans e2,c.trans e3,f.trans e4,hw,h1⟩
  ·cases h1
 split at h0
 ·rename_i hg
  exact .inl ⟨s,hr,rfl,rfl,rfl,rfl,wan_none hg,h0⟩
 ·rename_i j b hg
  split at h0
  ·cases h0
  ·rename_i t ht
   have ht':(ops[j]?).bind (·.dst)=some t:=by simpa using ht
   split at h0
   ·rename_i c hs
    have hd:=hr.sl t
    rw [hs] at hd
    have hv:ev ρ (.tmp t) = .bool c:=Rd.bool_inv hd
    have hre:∀ c',c'=c→Rel F ι (s.set t (.bool c')) ρ:=fun c' e=>by subst e; exact hr.reset hd
    cases c <;> cases b
    ·exact .inl ⟨_,hre _ rfl,rfl,rfl,rfl,rfl,wan_some hg ht' hv,h0⟩
    ·exact .inr (sk _ (hre _ rfl) rfl rfl rfl rfl (by simp [Region.wanted,hg,yielded_mk ht' hv]) h0)
    ·exact .inr (sk _ (hre _ rfl) rfl rfl rfl rfl (by simp [Region.wanted,hg,yielded_mk ht' hv]) h0)
    ·exact .inl ⟨_,hre _ rfl,rfl,rfl,rfl,rfl,wan_some hg ht' hv,h0⟩
   ·rename_i hs
    have hd:=hr.sl t
    rw [hs] at hd
    have hu:ev ρ (.tmp t)=undef:=hd
    exact .inr (sk s hr rfl rfl rfl rfl (by simp [Region.wanted,hg,yielded_undef ht' hu]) h0)
   ·cases h0
theorem lateE_aw {ops:List Oper} {w0:List (Nat×OB)} (hC:CxOK P C) (hsel:Region.noSelect ops.toArray=true) {k:St→Option R} (hh:hidden w0=true):∀ (m:Nat) (late:List Nat) (listed:Array Bool) (s:St) (ρ:List Value) (h:Array Obj) (F1:Frz) (ι1:Gh) (S:Array Obj→Prop),(∀ h,Hp h F1 (lv ι w0++[])→S h)→late.length=m→F.le F1→(nw=false→F1.nid=F.nid)→(∀ q∈w0,ι1 q.1=ι q.1)→(∀ q∈w0,OwnR F ι q.1 q.2)→(w0.map (·.1)).Nodup→(∀ q∈s.ow,∀ p∈w0,p.1≠q.1)→Rel F1 ι1 s ρ→Hp h F1 (lv ι1 s.ow++(lv ι w0++L0))→s.n=n→s.np=np→s.nw=nw→(∀ t,(np / 1000≤t∧t<np % 1000)→(ι1 t).1=io t) →
  lateE C ops.toArray w0 m late listed s k=some r→(∀ s' ρ' h' F' ι',F.le F'→(nw=false→F'.nid=F.nid)→Rel F' ι' s' ρ'→Hp h' F' (lv ι' s'.ow++L0)→s'.n=n→s'.np=np→s'.nw=nw→(∀ t,(np / 1000≤t∧t<np % 1000)→(ι' t).1=io t)→k s'=some r→KK ρ' h')→AW P E S ops KK m listed ρ h
 | m,[],listed,s,ρ,h,F1,ι1,S,hSd,hlen,hle,hN,hι,hw,hnd,hdj,hr,hm,hn,hnp,hnw,hio,h0,hk=>by
  unfold lateE at h0
  cases hc:chk (Region.ready .any ops.toArray listed == []) with
  | false=>rw [hc] at h0; cases h0
  | true =>
   rw [hc] at h0
   simp only [cond_true] at h0
   have hc':Region.ready .any ops.toArray listed=[]:=by simpa [chk] using hc
   have hlv:lv ι1 w0=lv ι w0:=lv_other hι
   refine aw_done hc' (hk ⟨s.n,s.np,s.nw,s.sl,w0++s.ow⟩ ρ h F1 ι1 hle hN ⟨hr.len,hr.sl,fun q hq=>?_,?_⟩ ?_ hn hnp hnw hio h0)
   ·rcases List.mem_append.1 hq with hq | hq
    ·exact hidden_own hh hle hι hq (hw q hq)
    ·exact hr.ow q hq
   ·show ((w0++s.ow).map _).Nodup
    rw [List.map_append,List.nodup_append]
    refine ⟨hnd,hr.nd,fun a ha b hb e=>?_⟩
    obtain ⟨p,hp,rfl⟩:=List.mem_map.1 ha
    obtain ⟨q,hq,rfl⟩:=List.mem_map.1 hb
    exact hdj q hq p hp e
   ·show Hp h F1 (lv ι1 (w0++s.ow)++L0)
    rw [lv_append,hlv,List.append_assoc]
    exact hm.perm (List.perm_append_comm_assoc _ _ _)
 | 0,i::late,listed,s,ρ,h,F1,ι1,S,hSd,hlen,hle,hN,hι,hw,hnd,hdj,hr,hm,hn,hnp,hnw,hio,h0,hk=>by cases hlen
 | m+1,i::late,listed,s,ρ,h,F1,ι1,S,hSd,hlen,hle,hN,hι,hw,hnd,hdj,hr,hm,hn,hnp,hnw,hio,h0,hk=>by
  have hlen':late.length=m:=by simpa using hlen
  unfold lateE at h0
  have hS':Hp h F1 (lv ι w0++[]):=hm.sub (((List.Sublist.refl _).append (List.nil_sublist _)).trans (List.sublist_append_right _ _))
  have hSh:S h:=hSd _ hS'
  cases hc:chk (Region.ready .any ops.toArray listed == [i]) with
  | false =>
   rw [hc] at h0
   simp only [cond_false] at h0
   cases hf:(i::late).find? (quickB w0 ops.toArray listed s) with
   | some kk =>
    rw [hf] at h0
    simp only at h0
    have hqk:=List.find?_some hf
    have hmem:=List.mem_of_find?_eq_some hf
    simp only [quickB,Bool.and_eq_true] at hqk
    obtain ⟨⟨hq1,hq2⟩,hq3⟩:=hqk
    have hlen2:((i::late).erase kk).length=m:=by
     rw [List.length_erase_of_mem hmem,hlen]; rfl
    split at h0
    ·cases h0
    ·rename_i o ho
     rw [ho] at hq1
     obtain ⟨dst,op,ty,p,af,gd⟩:=o
     simp only at h0 hq1
     rcases guardE_inv hr h0 with ⟨s1,r1,e1,e2,e3,e4,hwan,h1⟩ | ⟨s1,r1,e1,e2,e3,e4,hwan,h1⟩
     ·have r2:Rel F1 ι1 ⟨s1.n,s1.np,s1.nw,s1.sl,w0⟩ ρ:=⟨r1.len,r1.sl,fun q hq=>hidden_own hh hle hι hq (hw q hq),hnd⟩
      obtain ⟨v,d,g1,g2,g3⟩:=evPure_sound (P:=P) (dst:=dst) (ty:=ty) (p:=p) (af:=af) (gd:=gd) (L0:=[]) hC.1 hm.gl r2 h1
      split at g3
      ·rename_i s' hput
       obtain ⟨a,b,c,e,f⟩:=r1.put hput (fun _=>g2)
       refine AW.monoS hSd (aw_take kk (by simpa using ho) hsel hq2 hq3 hS' hwan (fun h' hh'=>g1 h' (by show Hp h' F1 (lv ι1 w0++[]); rw [lv_other hι]; exact hh')) rfl (lateE_aw hC hsel hh m _ _ s' _ h F1 ι1 _ (fun _ hh=>hh) hlen2 hle hN hι hw hnd (by rw [b,e1]; exact hdj) a (by rw [b,e1]; exact hm) ((e.trans e2).trans hn) ((c.trans e3).trans hnp) ((f.trans e4).trans hnw) hio g3 hk))
      ·cases g3
     ·exact aw_skip_gen kk (by simpa using ho) hsel hq2 hq3 hSh hwan rfl (lateE_aw hC hsel hh m _ _ s1 _ h F1 ι1 S hSd hlen2 hle hN hι hw hnd (by rw [e1]; exact hdj) r1 (by rw [e1]; exact hm) (e2.trans hn) (e3.trans hnp) (e4.trans hnw) hio h1 hk)
   | none =>
   rw [hf] at h0
   simp only at h0
   match late,m,hlen',h0 with
   | [],_,_,h0=>cases h0
   | j::late,0,hl,h0=>cases hl
   | j::late,m+1,hl,h0 =>
    have hl':late.length=m:=by simpa using hl
    simp only at h0
    cases hdm:chk (diam ops.toArray listed i j) with
    | false=>rw [hdm] at h0; cases h0
    | true =>
     rw [hdm] at h0
     simp only [cond_true] at h0
     obtain ⟨di,Tl,a,ty1,p1,af1,dj,Tb,n',parts,ty2,p2,af2,ho,ho',ha1,ha2,ha3,r1,r2,r3,r4⟩:=diam_inv hdm
     simp only [ho,ho'] at h0
     cases hd:(w0.all fun p=>!(p.1 == dj) && !(p.1 / 1000 == dj+1) && Nat.blt p.1 SB) with
     | false=>simp only [Option.getD_some] at h0; rw [hd] at h0; cases h0
     | true =>
      simp only [Option.getD_some] at h0
      rw [hd] at h0
      simp only [cond_true] at h0
      cases hfz:(preL C s Tl (.tmp a)).isEmpty with
      | false=>simp only [preE,hfz] at h0; cases h0
      | true =>
      simp only [preE,hfz,cond_true] at h0
      exact lateE_two hC hr hm ho ho' ha1 ha2 ha3 r1 r2 r3 r4 (by simpa using hfz) h0 (fun h2 hm2=>hSd _ (hm2.sub (((List.Sublist.refl _).append (List.nil_sublist _)).trans (List.sublist_append_right _ _)))) fun s' ρ' h' F' ι' hp=>by
       have hk1:=hp.k
       cases hd2:(s'.ow.all fun q=>w0.all fun p=>!(p.1 == q.1)) with
       | false=>rw [hd2] at hk1; cases hk1
       | true =>
        rw [hd2] at hk1
        simp only [cond_true] at hk1
        have hdj':∀ q∈s'.ow,∀ p∈w0,p.1≠q.1:=fun q hq p hp=>by
         have:=List.all_eq_true.1 (List.all_eq_true.1 hd2 q hq) p hp
         simpa using this
        have hι':∀ q∈w0,ι' q.1=ι q.1:=fun q hq=>by
         have h1:=List.all_eq_true.1 hd q hq
         simp only [Bool.and_eq_true,Bool.not_eq_true',beq_eq_false_iff_ne,Nat.blt_eq] at h1
         rw [hp.oth q.1 (fun p hp' e=>hdj p hp' q hq e.symm) h1.1.1 h1.1.2 (fun e=>absurd e (by have:=h1.2; omega)),hι q hq]
        exact lateE_aw hC hsel hh m late _ s' ρ' h' F' ι' S (fun _ hm2=>hSd _ (hm2.weaken hp.le hm.gl)) hl' (hle.trans hp.le) (fun e=>(hp.nid (hnw.trans e)).trans (hN e)) hι' hw hnd hdj' hp.rel hp.hp (hp.n.trans hn) (hp.np.trans hnp) (hp.nw.trans hnw) (fun t ht=>(hp.io t (by omega)).trans (hio t ht)) hk1 hk
  | true =>
   rw [hc] at h0
   simp only [cond_true] at h0
   have hc':Region.ready .any ops.toArray listed=[i]:=by simpa [chk] using hc
   split at h0
   ·cases h0
   ·rename_i o ho
    have ho':ops[i]?=some o:=by simpa using ho
    cases hd:(w0.all fun p=>!(p.1 == o.dst.getD 900000) && !(p.1 / 1000 == o.dst.getD 900000+1) && Nat.blt p.1 SB) with
    | false=>rw [hd] at h0; cases h0
    | true =>
     rw [hd] at h0
     simp only [cond_true] at h0
     rcases guardE_inv hr h0 with ⟨s1,r1,e1,e2,e3,e4,hwan,h1⟩ | ⟨s1,r1,e1,e2,e3,e4,hwan,h1⟩
     ·cases hsb:slotB w0 s1 o.op with
      | true =>
       rw [hsb] at h1
       simp only [cond_true] at h1
       obtain ⟨dst,op,ty,p,af,gd⟩:=o
       simp only at h1
       have r2:Rel F1 ι1 ⟨s1.n,s1.np,s1.nw,s1.sl,w0⟩ ρ:=⟨r1.len,r1.sl,fun q hq=>hidden_own hh hle hι hq (hw q hq),hnd⟩
       obtain ⟨v,d,g1,g2,g3⟩:=evPure_sound (P:=P) (dst:=dst) (ty:=ty) (p:=p) (af:=af) (gd:=gd) (L0:=[]) hC.1 hm.gl r2 h1
       split at g3
       ·rename_i s' hput
        obtain ⟨a,b,c,e,f⟩:=r1.put hput (fun _=>g2)
        exact aw_step i ho' hc' (lw_pu hwan (g1 h (by show Hp h F1 (lv ι1 w0++[]); rw [lv_other hι]; exact hS')) rfl (lw_nil ⟨hSh,lateE_aw hC hsel hh m late _ s' _ h F1 ι1 S hSd hlen' hle hN hι hw hnd (by rw [b,e1]; exact hdj) a (by rw [b,e1]; exact hm) ((e.trans e2).trans hn) ((c.trans e3).trans hnp) ((f.trans e4).trans hnw) hio g3 hk⟩))
       ·cases g3
      | false =>
       rw [hsb] at h1
       simp only [cond_false] at h1
       refine aw_step i ho' hc' (stepN_gen (all:=ops) hC r1 (by rw [e1]; exact hm) hwan h1 fun s' ρ' h' F' ι' hp=>?_)
       have hk1:=hp.k
       cases hd2:(s'.ow.all fun q=>w0.all fun p=>!(p.1 == q.1)) with
       | false=>rw [hd2] at hk1; cases hk1
       | true =>
        rw [hd2] at hk1
        simp only [cond_true] at hk1
        have hdj':∀ q∈s'.ow,∀ p∈w0,p.1≠q.1:=fun q hq p hp=>by
         have:=List.all_eq_true.1 (List.all_eq_true.1 hd2 q hq) p hp
         simpa using this
        have hι':∀ q∈w0,ι' q.1=ι q.1:=fun q hq=>by
         have h1:=List.all_eq_true.1 hd q hq
         simp only [Bool.and_eq_true,Bool.not_eq_true',beq_eq_false_iff_ne,Nat.blt_eq] at h1
         rw [hp.oth q.1 (fun p hp' e=>hdj p (by rw [← e1]; exact hp') q hq e.symm) h1.1.1 h1.1.2 (fun e=>absurd e (by have:=h1.2; omega)),hι q hq]
        refine lw_nil ⟨hSd _ ?_,lateE_aw hC hsel hh m late _ s' ρ' h' F' ι' S (fun _ hm2=>hSd _ (hm2.weaken hp.le hm.gl)) hlen' (hle.trans hp.le) (fun e=>(hp.nid ((e4.trans hnw).trans e)).trans (hN e)) hι' hw hnd hdj' hp.rel hp.hp ((hp.n.trans e2).trans hn) ((hp.np.trans e3).trans hnp) ((hp.nw.trans e4).trans hnw) (fun t ht=>(hp.io t (by rw [e3]; omega)).trans (hio t ht)) hk1 hk⟩
        exact (hp.hp.weaken hp.le hm.gl).sub (((List.Sublist.refl _).append (List.nil_sublist _)).trans (List.sublist_append_right _ _))
     ·exact aw_step i ho' hc' (lw_skip hwan rfl (lw_nil ⟨hSh,lateE_aw hC hsel hh m late _ s1 _ h F1 ι1 S hSd hlen' hle hN hι hw hnd (by rw [e1]; exact hdj) r1 (by rw [e1]; exact hm) (e2.trans hn) (e3.trans hnp) (e4.trans hnw) hio h1 hk⟩))
def notNT (ow:List (Nat×OB)):List (Nat×OB):=ow.filter fun p=>!(p.1 == NT)
theorem earlyE_aw {ops:List Oper} (hC:CxOK P C) {ow:List (Nat×OB)} {K:Array Bool→List Nat→St→Option R} (hsel:Region.noSelect ops.toArray=true):∀ (l:List Oper) (i:Nat) (listed:Array Bool) (late:List Nat) (s:St) (ρ:List Value),ops.drop i=l→Rel F ι s ρ→s.ow=ow→s.n=n→s.np=np→s.nw=nw→SH F ι (notNT ow) h →
  earlyE C ops.toArray l i listed late s K=some r→(∀ listed' late' s' ρ',Rel F ι s' ρ'→s'.ow=ow→s'.n=n→s'.np=np→s'.nw=nw→K listed' late' s'=some r→AW P E (SH F ι (notNT ow)) ops KK late'.length listed' ρ' h)→AW P E (SH F ι (notNT ow)) ops KK (l.length+late.length) listed ρ h
 | [],i,listed,late,s,ρ,hdr,hr,how,hn,hnp,hnw,hS,h0,hk=>by
  unfold earlyE at h0
  simpa using hk listed late s ρ hr how hn hnp hnw h0
 | o::l,i,listed,late,s,ρ,hdr,hr,how,hn,hnp,hnw,hS,h0,hk=>by
  unfold earlyE at h0
  have hi:ops[i]?=some o:=by
   have h1:=congrArg (·[0]?) hdr
   simpa using h1
  have hdr':ops.drop (i+1)=l:=by
   rw [← List.tail_drop,hdr]; rfl
  have hlen:(o::l).length+late.length=l.length+late.length+1:=by simp; omega
  cases hA:lateO s late o with
  | true =>
   rw [hA] at h0
   simp only [cond_true] at h0
   have:=earlyE_aw hC hsel l (i+1) listed (late++[i]) s ρ hdr' hr how hn hnp hnw hS h0 hk
   rw [hlen]
   rw [List.length_append,← Nat.add_assoc] at this
   exact this
  | false =>
   rw [hA] at h0
   simp only [cond_false] at h0
   cases hf:chk (Region.free .any ops.toArray listed i && (Region.ready .any ops.toArray listed).contains i) with
   | false=>rw [hf] at h0; cases h0
   | true =>
    rw [hf] at h0
    simp only [cond_true] at h0
    simp only [chk,Bool.and_eq_true] at hf
    rw [hlen]
    obtain ⟨dst,op,ty,p,af,gd⟩:=o
    simp only at h0
    have go:Wan ops ρ ⟨dst,op,ty,p,af,gd⟩→evPure C ⟨s.n,s.np,s.nw,s.sl,s.ow.filter fun p=>!(p.1 == NT)⟩ op (fun d=>match s.put dst d with
     | some s'=>earlyE C ops.toArray l (i+1) (listed.setIfInBounds i true) late s' K
     | none=>none)=some r→AW P E (SH F ι (notNT ow)) ops KK (l.length+late.length+1) listed ρ h:=fun hw hp=>by
     obtain ⟨v,d,h1,h2,h3⟩:=evPure_sound (P:=P) (dst:=dst) (ty:=ty) (p:=p) (af:=af) (gd:=gd) (L0:=[]) hC.1 (show Hp h F _ from hS).gl (hr.fewer fun p=>!(p.1 == NT)) hp
     split at h3
     ·rename_i s' hput
      obtain ⟨a,b,c,e,f⟩:=hr.put hput (fun _=>h2)
      exact aw_take i hi hsel hf.1 hf.2 hS hw (fun h hS=>h1 h (by rw [how]; exact hS)) rfl (earlyE_aw hC hsel l (i+1) _ late s' _ hdr' a (b.trans how) (e.trans hn) (c.trans hnp) (f.trans hnw) hS h3 hk)
     ·cases h3
    have sk:∀ s',s.put dst .und=some s'→earlyE C ops.toArray l (i+1) (listed.setIfInBounds i true) late s' K=some r→AW P E (SH F ι (notNT ow)) ops KK (l.length+late.length) (listed.setIfInBounds i true) (setD ρ dst undef) h:=fun s' hput h1=>by
     obtain ⟨a,b,c,e,f⟩:=hr.put (v:=undef) hput (fun _ => .of_w rfl)
     exact earlyE_aw hC hsel l (i+1) _ late s' _ hdr' a (b.trans how) (e.trans hn) (c.trans hnp) (f.trans hnw) hS h1 hk
    have ex:(match s.put dst .und with
     | some s'=>earlyE C ops.toArray l (i+1) (listed.setIfInBounds i true) late s' K
     | none=>none)=some r→AW P E (SH F ι (notNT ow)) ops KK (l.length+late.length) (listed.setIfInBounds i true) (setD ρ dst undef) h:=fun h1=>by
     split at h1
     ·rename_i s' hput
      exact sk s' hput h1
     ·cases h1
    split at h0
    ·exact go (wan_none rfl) h0
    ·rename_i j b
     split at h0
     ·cases h0
     ·rename_i t ht
      have ht':(ops[j]?).bind (·.dst)=some t:=by simpa using ht
      split at h0
      ·rename_i c hs
       have hd:=hr.sl t
       rw [hs] at hd
       have hv:ev ρ (.tmp t) = .bool c:=Rd.bool_inv hd
       cases c <;> cases b
       ·exact go (wan_some rfl ht' hv) h0
       ·exact aw_skip_b i hi hsel hf.1 hf.2 hS rfl ht' hv rfl (ex h0)
       ·exact aw_skip_b i hi hsel hf.1 hf.2 hS rfl ht' hv rfl (ex h0)
       ·exact go (wan_some rfl ht' hv) h0
      ·rename_i hs
       have hd:=hr.sl t
       rw [hs] at hd
       exact aw_skip_u i hi hsel hf.1 hf.2 hS rfl ht' hd rfl (ex h0)
      ·cases h0
theorem evHeld_tw {f:FuncId} {RR:Value→Array Obj→Prop} {Ki:List Item} {id:Nat} {ops:Array Oper} {k:St→Option R} (hC:CxOK P C) (hmo:P.follows .mixedOrders=true) (hi:Inv F0 io L0 n np nw s ρ h) (h0:evHeld C s ops k=some r) (hk:∀ s' ρ' h',Inv F0 io L0 n np nw s' ρ' h'→k s'=some r→TW P f E RR Ki ρ' h'):TW P f E RR (.code (.region id ops true)::Ki) ρ h:=by
 obtain ⟨⟨F,ι,hF,hN,hr,hm,hι⟩,hn,hnp,hnw⟩:=hi
 unfold evHeld at h0
 cases hsel:chk (Region.noSelect ops) with
 | false=>rw [hsel] at h0; cases h0
 | true =>
  rw [hsel] at h0
  simp only [cond_true] at h0
  have e:ops=ops.toList.toArray:=by simp
  have hsel':Region.noSelect ops.toList.toArray=true:=by rw [← e]; exact hsel
  have hsub:(lv ι (notNT s.ow)).Sublist (lv ι s.ow):=filter_sub s NT
  have hS:SH F ι (notNT s.ow) h:=hm.sub (hsub.append (List.nil_sublist _))
  rw [e]
  refine tw_held (SH F ι (notNT s.ow)) hmo rfl fun KK hK=>?_
  have h1:=earlyE_aw (E:=E) (KK:=KK) (ops:=ops.toList) (h:=h) (r:=r) hC hsel' ops.toList 0 (Array.replicate ops.size false) [] s ρ rfl hr rfl hn hnp hnw hS (by rw [← e]; exact h0) fun listed' late' s' ρ' hr' how' hn' hnp' hnw' h1=>?_
  ·simpa using h1
  ·cases hh:hidden (s'.ow.filter fun p=>!(p.1 == NT)) with
   | false=>rw [hh] at h1; cases h1
   | true =>
    rw [hh] at h1
    simp only [cond_true] at h1
    have hnd:=hr'.nd
    have hpm:(lv ι s'.ow).Perm (lv ι (s'.ow.filter fun p=>p.1 == NT)++lv ι (notNT s.ow)):=by
     have p1:s'.ow.Perm ((s'.ow.filter fun p=>p.1 == NT)++s'.ow.filter fun p=>!(p.1 == NT)):=(List.filter_append_perm (fun p:Nat×OB=>p.1 == NT) s'.ow).symm
     have p2:=p1.flatMap_right (fun p=>(ι p.1).2)
     unfold notNT
     rw [← how']
     rw [← lv_append]
     exact p2
    refine lateE_aw (F:=F) (ι:=ι) (L0:=L0) (ops:=ops.toList) (w0:=s'.ow.filter fun p=>!(p.1 == NT)) hC hsel' hh late'.length late' listed' _ ρ' h F ι _ (fun h hm=>by unfold SH notNT; rw [← how']; exact hm) rfl (.refl F) (fun _=>rfl) (fun _ _=>rfl) (fun q hq=>hr'.ow q (List.mem_filter.1 hq).1) (hnd.sublist ((List.filter_sublist).map _)) (fun q hq p hp e=>?_) (hr'.fewer fun p=>p.1 == NT) ?_ hn' hnp' hnw' hι (by rw [← e]; exact h1) fun s2 ρ2 h2 F2 ι2 g1 g2 g3 g4 g5 g6 g7 g8 g9=>hK _ _ (hk s2 ρ2 h2 ⟨⟨F2,ι2,hF.trans g1,fun e=>(g2 e).trans (hN e),g3,g4,g8⟩,g5,g6,g7⟩ g9)
    ·have h2:=(List.mem_filter.1 hq).2
     have h3:=(List.mem_filter.1 hp).2
     rw [e] at h3
     simp only [beq_iff_eq] at h2
     simp [h2] at h3
    ·rw [← List.append_assoc]
     refine hm.perm (List.Perm.append_right L0 ?_)
     rw [how'] at hpm ⊢
     exact hpm.symm
theorem hidN_own {w0:List (Nat×OB)} (hh:hidN w0=true) (hle:F.le F') (hnt:(∃ q∈w0,q.1=NT)→F'.nid=F.nid) (he:∀ q∈w0,ι' q.1=ι q.1) {q:Nat×OB} (hq:q∈w0) (h:OwnR F ι q.1 q.2):OwnR F' ι' q.1 q.2:=by
 have h1:=List.all_eq_true.1 hh q hq
 obtain ⟨t,b⟩:=q
 simp only at h h1 ⊢
 have ht:=he _ hq
 simp only at ht
 cases b with
 | rows e T xs=>obtain ⟨q,n,cp,rows,a,c,f⟩:=h; exact ⟨q,n,cp,rows,by rw [ht]; exact a,by rw [ht]; exact c,forall2_imp (fun _ _ h=>h.mono hle) f⟩
 | mp l=>obtain ⟨B,cs,a,c,f⟩:=h; exact ⟨B,cs,by rw [ht]; exact a,by rw [ht]; exact c,f.mono hle⟩
 | sit l pos=>obtain ⟨B,a,c⟩:=h; exact ⟨B,by rw [ht]; exact a,by rw [ht]; exact c⟩
 | cells T ds =>
  obtain ⟨B,cs,a,c,f⟩:=h
  refine ⟨B,cs,by rw [ht]; exact a,by rw [ht]; exact c,?_⟩
  simp only at h1
  clear c hq
  induction f with
  | nil=>exact .nil
  | @cons d v ds vs hd _ ih =>
   rw [List.all_cons,Bool.and_eq_true] at h1
   refine .cons ?_ (ih h1.2)
   have h2:=h1.1
   cases hp:d.plain with
   | true=>exact .of_rd ((hd.to_rd hp).mono hle)
   | false =>
    rw [hp,Bool.false_or] at h2
    cases d with
    | own t' =>
     simp only [List.any_eq_true,beq_iff_eq] at h2
     obtain ⟨q,hq,rfl⟩:=h2
     show _=_
     rw [he q hq]
     exact hd
    | op t' o =>
     simp only [List.any_eq_true,beq_iff_eq] at h2
     obtain ⟨q,hq,rfl⟩:=h2
     obtain ⟨B,g1,g2⟩:=hd
     exact ⟨B,by rw [he q hq]; exact g1,g2⟩
    | opb t' o =>
     simp only [List.any_eq_true,beq_iff_eq] at h2
     obtain ⟨q,hq,rfl⟩:=h2
     obtain ⟨B,g1,g2⟩:=hd
     exact ⟨B,by rw [he q hq]; exact g1,g2⟩
    | _=>simp at h2
 | nodes cl T A hs hole =>
  obtain ⟨h0,hds,a,b,c⟩:=h
  exact ⟨h0,hds,by rw [ht]; exact a,by rw [ht]; exact b.mono hle,by rw [hnt ⟨_,hq,h0⟩]; exact c⟩
 | nodesR cl hs=>exact ⟨by rw [ht]; exact h.1,fun i x hx=>by obtain ⟨B,cs,a,b,c⟩:=h.2 i x hx; exact ⟨B,cs,hle.2.1 _ _ a,b.mono hle,c.mono hle⟩⟩
def TOK (F:Frz) (ι:Gh) (ow:List (Nat×OB)) (T:List (Nat×List Nat)) (TS:List (Nat×(Array Obj→Prop))):Prop :=
 F2 (fun (q:Nat×List Nat) (c:Nat×(Array Obj→Prop))=>c.1=q.1∧∀ h,Hp h F (lv ι (ow.filter fun p=>q.2.contains p.1)++[])→c.2 h) T TS
theorem F2.filter {α β:Type} {R:α→β→Prop} {f:α→Bool} {g:β→Bool} (hfg:∀ a b,R a b→g b=f a):∀ {l:List α} {m:List β},F2 R l m→F2 R (l.filter f) (m.filter g)
 | _,_, .nil => .nil
 | _,_, .cons (a:=a) (b:=b) h t=>by
  rw [List.filter_cons,List.filter_cons,hfg a b h]
  cases f a with
  | true=>exact .cons h (t.filter hfg)
  | false=>exact t.filter hfg
theorem F2.mem_r {α β:Type} {R:α→β→Prop}:∀ {l:List α} {m:List β} {b:β},F2 R l m→b∈m→∃ a∈l,R a b
 | _,_,_, .nil,h=>by cases h
 | _,_,_, .cons h t,hb=>by
  rcases List.mem_cons.1 hb with rfl | hb
  ·exact ⟨_,by simp,h⟩
  ·obtain ⟨a,ha,hr⟩:=t.mem_r hb
   exact ⟨a,by simp [ha],hr⟩
theorem lv_sub {A B:List (Nat×OB)} (h:A.Sublist B):(lv ι A).Sublist (lv ι B):=by
 rw [lv_kl,lv_kl]
 exact kl_sub (h.map _)
theorem tok_all {T:List (Nat×List Nat)} {TS:List (Nat×(Array Obj→Prop))} (hT:TOK F ι s.ow T TS) (hm:Hp h F (lv ι s.ow++L0)):∀ q∈TS,q.2 h:=fun q hq=>by
 obtain ⟨a,_,_,h1⟩:=hT.mem_r hq
 exact h1 h (hm.sub ((lv_sub List.filter_sublist).append (List.nil_sublist _)))
theorem filter_mono {α:Type} {f g:α→Bool} (h:∀ p,f p=true→g p=true):∀ {l:List α},(l.filter f).Sublist (l.filter g)
 | [] => .slnil
 | p::l=>by
  rw [List.filter_cons,List.filter_cons]
  cases hf:f p with
  | true=>rw [h p hf]; exact (filter_mono h).cons_cons _
  | false =>
   cases hg:g p with
   | true=>exact (filter_mono h).cons _
   | false=>exact filter_mono h
theorem contains_app (l m:List Nat) (a:Nat):(l++m).contains a=(l.contains a || m.contains a):=by simp
theorem evMix_am {ops:List Oper} (hC:CxOK P C) (hsel:Region.noSelect ops.toArray=true) {k:St→Option R}:∀ (sch:List (Bool×Nat)) (fuel:Nat) (listed:Array Bool) (T:List (Nat×List Nat)) (TS:List (Nat×(Array Obj→Prop))) (s:St) (ρ:List Value) (h:Array Obj) (F1:Frz) (ι1:Gh),sch.length≤fuel→F.le F1→(nw=false→F1.nid=F.nid)→Rel F1 ι1 s ρ→Hp h F1 (lv ι1 s.ow++L0)→s.n=n→s.np=np→s.nw=nw→(∀ t,(np / 1000≤t∧t<np % 1000)→(ι1 t).1=io t)→TOK F1 ι1 s.ow T TS →
  evMix C ops.toArray sch listed T s k=some r→(∀ s' ρ' h' F' ι',F.le F'→(nw=false→F'.nid=F.nid)→Rel F' ι' s' ρ'→Hp h' F' (lv ι' s'.ow++L0)→s'.n=n→s'.np=np→s'.nw=nw→(∀ t,(np / 1000≤t∧t<np % 1000)→(ι' t).1=io t)→k s'=some r→KK ρ' h')→AM P E ops KK fuel listed TS ρ h
 | [],fuel,listed,T,TS,s,ρ,h,F1,ι1,hlen,hle,hN,hr,hm,hn,hnp,hnw,hio,hT,h0,hk=>by
  unfold evMix at h0
  cases hc:chk (Region.ready .any ops.toArray listed == []) with
  | false=>rw [hc] at h0; cases h0
  | true =>
   rw [hc] at h0
   have hc':Region.ready .any ops.toArray listed=[]:=by simpa [chk] using hc
   exact am_done hc' (hk s ρ h F1 ι1 hle hN hr hm hn hnp hnw hio h0)
 | _::_,0,_,_,_,_,_,_,_,_,hlen,_,_,_,_,_,_,_,_,_,_,_=>by simp at hlen
 | (true,i)::sch,fuel+1,listed,T,TS,s,ρ,h,F1,ι1,hlen,hle,hN,hr,hm,hn,hnp,hnw,hio,hT,h0,hk=>by
  have hlen':sch.length≤fuel:=by simpa using hlen
  unfold evMix at h0
  cases hc:chk (fireB ops.toArray listed i) with
  | false=>rw [hc] at h0; cases h0
  | true =>
   rw [hc] at h0
   simp only [cond_true] at h0
   simp only [chk,fireB,Bool.and_eq_true] at hc
   obtain ⟨hq2,hq3⟩:=hc
   split at h0
   ·cases h0
   ·rename_i o ho
    have ho':ops[i]?=some o:=by simpa using ho
    rcases guardE_inv hr h0 with ⟨s1,r1,e1,e2,e3,e4,hwan,h1⟩ | ⟨s1,r1,e1,e2,e3,e4,hwan,h1⟩
    ·cases hp:isPure o.op with
     | false=>rw [hp] at h1; cases h1
     | true =>
      rw [hp] at h1
      simp only [cond_true] at h1
      obtain ⟨dst,op,ty,p,af,gd⟩:=o
      simp only at h1
      cases hfr:(freeB s1 op && !(sch.any fun q=>!q.1 && waitsB .any ops.toArray q.2 i)) with
      | true =>
       have hfr':freeB s1 op=true:=(Bool.and_eq_true _ _ ▸ hfr).1
       obtain ⟨v,d,g1,g2,g3⟩:=evFree_sound (P:=P) (dst:=dst) (ty:=ty) (p:=p) (af:=af) (gd:=gd) (s:=⟨s1.n,s1.np,s1.nw,s1.sl,s1.ow.filter fun p=>(fpr s1 op).contains p.1⟩) hC.1 (r1.fewer fun p=>(fpr s1 op).contains p.1) hfr' h1
       split at g3
       ·rename_i s' hput
        rw [hfr] at g3
        simp only [cond_true] at g3
        obtain ⟨a,b,c,e,f⟩:=r1.put hput (fun _=>g2)
        refine am_take3 i ho' hsel hq2 hq3 (tok_all hT hm) hwan g1 rfl
         (evMix_am hC hsel sch fuel _ ((i,[])::T) _ s' _ h F1 ι1 hlen' hle hN a (by rw [b,e1]; exact hm) ((e.trans e2).trans hn) ((c.trans e3).trans hnp) ((f.trans e4).trans hnw) hio ?_ g3 hk)
        rw [b]
        exact .cons ⟨rfl,fun h hh=>trivial⟩ (by rw [e1]; exact hT)
       ·cases g3
      | false =>
      obtain ⟨v,d,g1,g2,g3⟩:=evPure_sound (P:=P) (dst:=dst) (ty:=ty) (p:=p) (af:=af) (gd:=gd) (L0:=[]) hC.1 hm.gl (r1.fewer fun p=>(fpr s1 op).contains p.1) h1
      rw [hfr] at g3
      simp only [cond_false] at g3
      split at g3
      ·rename_i s' hput
       obtain ⟨a,b,c,e,f⟩:=r1.put hput (fun _=>g2)
       have hm1:Hp h F1 (lv ι1 s1.ow++L0):=by rw [e1]; exact hm
       refine am_take2 (S:=fun h=>Hp h F1 (lv ι1 (s1.ow.filter fun p=>(fpr s1 op).contains p.1)++[])) i ho' hsel hq2 hq3 (hm1.sub ((lv_sub List.filter_sublist).append (List.nil_sublist _))) (tok_all hT hm) hwan (fun h' hh'=>g1 h' hh') rfl
        (evMix_am hC hsel sch fuel _ ((i,fpr s1 op++(T.filter fun q=>waitsB .any ops.toArray i q.1).flatMap (·.2))::T.filter fun q=>!(waitsB .any ops.toArray i q.1)) _ s' _ h F1 ι1 hlen' hle hN a (by rw [b,e1]; exact hm) ((e.trans e2).trans hn) ((c.trans e3).trans hnp) ((f.trans e4).trans hnw) hio ?_ g3 hk)
       rw [b]
       refine .cons ⟨rfl,fun h hh=>⟨hh.sub ?_,fun q hq hwt=>?_⟩⟩ (by rw [e1]; exact hT.filter fun a b hab=>by rw [hab.1])
       ·exact (lv_sub (filter_mono fun p hp=>by rw [contains_app,hp]; rfl)).append (List.Sublist.refl _)
       ·obtain ⟨a0,ha0,hab⟩:=hT.mem_r hq
        refine hab.2 h (hh.sub ?_)
        rw [e1]
        refine (lv_sub (filter_mono fun p hp=>?_)).append (List.Sublist.refl _)
        have:((T.filter fun q=>waitsB .any ops.toArray i q.1).flatMap (·.2)).contains p.1=true:=by
         rw [List.contains_iff_mem] at hp ⊢
         exact List.mem_flatMap.2 ⟨a0,List.mem_filter.2 ⟨ha0,by rw [← hab.1]; exact hwt⟩,hp⟩
        rw [contains_app,this,Bool.or_true]
      ·cases g3
    ·exact am_skip i ho' hsel hq2 hq3 (tok_all hT hm) hwan rfl (evMix_am hC hsel sch fuel _ T TS s1 _ h F1 ι1 hlen' hle hN r1 (by rw [e1]; exact hm) (e2.trans hn) (e3.trans hnp) (e4.trans hnw) hio (by rw [e1]; exact hT) h1 hk)
 | (false,i)::sch,fuel+1,listed,T,TS,s,ρ,h,F1,ι1,hlen,hle,hN,hr,hm,hn,hnp,hnw,hio,hT,h0,hk=>by
  have hlen':sch.length≤fuel:=by simpa using hlen
  unfold evMix at h0
  cases hc:chk (Region.ready .any ops.toArray listed == [i]) with
  | false=>rw [hc] at h0; cases h0
  | true =>
   rw [hc] at h0
   simp only [cond_true] at h0
   have hc':Region.ready .any ops.toArray listed=[i]:=by simpa [chk] using hc
   split at h0
   ·cases h0
   ·rename_i o ho
    have ho':ops[i]?=some o:=by simpa using ho
    have hT':TOK F1 ι1 s.ow (T.filter fun q=>!(waitsB .any ops.toArray i q.1)) (TS.filter fun q=>!(waitsB .any ops.toArray i q.1)):=hT.filter fun a b hab=>by rw [hab.1]
    generalize hTd:(T.filter fun q=>!(waitsB .any ops.toArray i q.1))=T' at h0 hT'
    rcases guardE_inv hr h0 with ⟨s1,r1,e1,e2,e3,e4,hwan,h1⟩ | ⟨s1,r1,e1,e2,e3,e4,hwan,h1⟩
    ·generalize hpd:T'.flatMap (·.2)=pd at h1
     cases hqc:(quietC C o.op && !(pd.isEmpty)) with
     | true =>
      rw [hqc] at h1
      simp only [cond_true] at h1
      have hm1:Hp h F1 (lv ι1 s1.ow++L0):=by rw [e1]; exact hm
      obtain ⟨dst,op,ty,p,af,gd⟩:=o
      simp only at h1
      unfold evOpQ at h1
      split at h1
      ·rename_i f xs ta
       obtain ⟨hcal,v,d,g1,g2,g3⟩:=evCallQ_sound (L0:=L0) hC r1 h1
       haveI:Cal P f:=⟨hcal⟩
       have e:xs=xs.toList.toArray:=by simp
       split at g2
       ·rename_i s' hput
        obtain ⟨a,b,c,e',f'⟩:=r1.put hput (fun _=>g1)
        refine am_step i ho' hc' ?_
        rw [e] at hwan ⊢
        refine lw_cal hwan (g3 h hm1) fun v' h' ⟨hv,hp⟩=>?_
        subst hv
        exact lw_nil ⟨tok_all hT' (by rw [← e1]; exact hp),evMix_am hC hsel sch fuel _ T' _ s' _ h' F1 ι1 hlen' hle hN a (by rw [b]; exact hp) ((e'.trans e2).trans hn) ((c.trans e3).trans hnp) ((f'.trans e4).trans hnw) hio (by rw [b,e1]; exact hT') g2 hk⟩
       ·cases g2
      ·simp only [Bool.and_eq_true] at hqc
       rename_i hne
       have h5:=hqc.1
       unfold quietC at h5
       split at h5
       ·rename_i f xs ta
        exact absurd rfl (hne f xs ta)
       ·cases h5
     | false =>
     rw [hqc] at h1
     simp only [cond_false] at h1
     cases hch:(hidN (s1.ow.filter fun p=>pd.contains p.1) && (s1.ow.filter fun p=>pd.contains p.1).all (fun p=>othB (s1.ow.filter fun p=>!(pd.contains p.1)) (o.dst.getD 900000) p.1)) with
     | false=>rw [hch] at h1; cases h1
     | true =>
      rw [hch] at h1
      simp only [cond_true] at h1
      rw [Bool.and_eq_true] at hch
      obtain ⟨hh,hoth⟩:=hch
      have hm1:Hp h F1 (lv ι1 s1.ow++L0):=by rw [e1]; exact hm
      have hpm:(lv ι1 s1.ow).Perm (lv ι1 (s1.ow.filter fun p=>!(pd.contains p.1))++lv ι1 (s1.ow.filter fun p=>pd.contains p.1)):=by
       have p1:s1.ow.Perm ((s1.ow.filter fun p=>pd.contains p.1)++s1.ow.filter fun p=>!(pd.contains p.1)):=(List.filter_append_perm (fun p:Nat×OB=>pd.contains p.1) s1.ow).symm
       have p2:=(p1.trans List.perm_append_comm).flatMap_right (fun p=>(ι1 p.1).2)
       rw [← lv_append]
       exact p2
      have hm2:Hp h F1 (lv ι1 (s1.ow.filter fun p=>!(pd.contains p.1))++(lv ι1 (s1.ow.filter fun p=>pd.contains p.1)++L0)):=by
       rw [← List.append_assoc]
       exact hm1.perm (hpm.symm.append_right L0)
      have hr2:Rel F1 ι1 ⟨s1.n,s1.np,s1.nw && !(pd.contains NT),s1.sl,s1.ow.filter fun p=>!(pd.contains p.1)⟩ ρ:=⟨r1.len,r1.sl,fun q hq=>r1.ow q (List.mem_filter.1 hq).1,r1.nd.sublist ((List.filter_sublist).map _)⟩
      refine am_step i ho' hc' (stepM_gen (all:=ops) hC hr2 hm2 r1 hm1 hwan h1 fun s' ρ' h' F' ι' hp=>?_)
      have hk1:=hp.k
      cases hd2:(s'.ow.all fun q=>!(pd.contains q.1)) with
      | false=>rw [hd2] at hk1; cases hk1
      | true =>
       rw [hd2] at hk1
       simp only [cond_true] at hk1
       have hdj:∀ q∈s'.ow,pd.contains q.1=false:=fun q hq=>by
        have:=List.all_eq_true.1 hd2 q hq
        simpa using this
       have hι':∀ q∈s1.ow.filter (fun p=>pd.contains p.1),ι' q.1=ι1 q.1:=fun q hq=>by
        have h2:=List.all_eq_true.1 hoth q hq
        simp only [othB,Bool.and_eq_true,Bool.not_eq_true',beq_eq_false_iff_ne,Bool.or_eq_true,Nat.blt_eq] at h2
        refine hp.oth q.1 (fun p hp' e=>?_) h2.1.1 h2.1.2 fun hsb=>?_
        ·have h3:=(List.mem_filter.1 hp').2
         have h4:=(List.mem_filter.1 hq).2
         rw [e,h4] at h3
         cases h3
        ·rcases h2.2 with h3 | h3
         ·omega
         ·refine ⟨fun p hp'=>?_,h3.2⟩
          have:=List.all_eq_true.1 h3.1 p hp'
          simpa using this
       have hnt:(∃ q∈s1.ow.filter (fun p=>pd.contains p.1),q.1=NT)→F'.nid=F1.nid:=fun ⟨q,hq,e⟩=>by
        have h4:=(List.mem_filter.1 hq).2
        rw [e] at h4
        exact hp.nid (by simp only [h4,Bool.not_true,Bool.and_false])
       have hlv:lv ι' (s1.ow.filter fun p=>pd.contains p.1)=lv ι1 (s1.ow.filter fun p=>pd.contains p.1):=lv_other hι'
       have hmf:Hp h' F' (lv ι' ((s1.ow.filter fun p=>pd.contains p.1)++s'.ow)++L0):=by
        rw [lv_append,hlv,List.append_assoc]
        exact hp.hp.perm (List.perm_append_comm_assoc _ _ _)
       have hrf:Rel F' ι' ⟨s'.n,s'.np,s1.nw,s'.sl,(s1.ow.filter fun p=>pd.contains p.1)++s'.ow⟩ ρ':=by
        refine ⟨hp.rel.len,hp.rel.sl,fun q hq=>?_,?_⟩
        ·rcases List.mem_append.1 hq with hq | hq
         ·exact hidN_own hh hp.le hnt hι' hq (r1.ow q (List.mem_filter.1 hq).1)
         ·exact hp.rel.ow q hq
        ·show (((s1.ow.filter fun p=>pd.contains p.1)++s'.ow).map (·.1)).Nodup
         rw [List.map_append,List.nodup_append]
         refine ⟨r1.nd.sublist ((List.filter_sublist).map _),hp.rel.nd,fun a ha b hb e=>?_⟩
         obtain ⟨p,hp1,rfl⟩:=List.mem_map.1 ha
         obtain ⟨q,hq1,rfl⟩:=List.mem_map.1 hb
         have h3:=(List.mem_filter.1 hp1).2
         rw [e,hdj q hq1] at h3
         cases h3
       have hTf:TOK F' ι' ((s1.ow.filter fun p=>pd.contains p.1)++s'.ow) T' (TS.filter fun q=>!(waitsB .any ops.toArray i q.1)):=by
        have hsub:∀ q∈T',∀ t,q.2.contains t=true→pd.contains t=true:=fun q hq t ht=>by
         rw [← hpd]
         simp only [List.contains_eq_mem,decide_eq_true_eq] at ht ⊢
         exact List.mem_flatMap.2 ⟨q,hq,ht⟩
        have hfe:∀ q∈T',((s1.ow.filter fun p=>pd.contains p.1)++s'.ow).filter (fun p=>q.2.contains p.1)=s.ow.filter (fun p=>q.2.contains p.1):=fun q hq=>by
         rw [List.filter_append]
         have n1:s'.ow.filter (fun p=>q.2.contains p.1)=[]:=List.filter_eq_nil_iff.2 fun p hp' hc=>by
          have:=hdj p hp'
          rw [hsub q hq _ hc] at this
          cases this
         rw [n1,List.append_nil,List.filter_filter,e1]
         refine List.filter_congr fun p _=>?_
         cases hc:q.2.contains p.1 with
         | true=>rw [hsub q hq _ hc]; rfl
         | false=>rfl
        have gen:∀ {A:List (Nat×List Nat)} {B:List (Nat×(Array Obj→Prop))},(∀ q∈A,q∈T')→TOK F1 ι1 s.ow A B→TOK F' ι' ((s1.ow.filter fun p=>pd.contains p.1)++s'.ow) A B:=fun {A B} hA hAB=>by
         unfold TOK at *
         induction hAB with
         | nil=>exact .nil
         | @cons a b l m h t ih =>
          refine .cons ⟨h.1,fun h2 hh2=>h.2 h2 ?_⟩ (ih fun q hq=>hA q (by simp [hq]))
          rw [hfe a (hA a (by simp))] at hh2
          have e5:lv ι' (s.ow.filter fun p=>a.2.contains p.1)=lv ι1 (s.ow.filter fun p=>a.2.contains p.1):=lv_other fun p hp'=>by
           obtain ⟨h5,h6⟩:=List.mem_filter.1 hp'
           exact hι' p (List.mem_filter.2 ⟨by rw [e1]; exact h5,hsub a (hA a (by simp)) _ h6⟩)
          rw [e5] at hh2
          exact hh2.weaken hp.le hm.gl
        exact gen (fun q hq=>hq) hT'
       refine lw_nil ⟨tok_all (s:=⟨s'.n,s'.np,s1.nw,s'.sl,(s1.ow.filter fun p=>pd.contains p.1)++s'.ow⟩) hTf hmf,evMix_am hC hsel sch fuel _ T' _ ⟨s'.n,s'.np,s1.nw,s'.sl,(s1.ow.filter fun p=>pd.contains p.1)++s'.ow⟩ ρ' h' F' ι' hlen' (hle.trans hp.le) (fun e=>?_) hrf hmf ((hp.n.trans e2).trans hn) ((hp.np.trans e3).trans hnp) (e4.trans hnw) (fun t ht=>(hp.io t (by show s1.np / 1000≤t∧t<s1.np % 1000; rw [e3,hnp]; exact ht)).trans (hio t ht)) hTf hk1 hk⟩
       exact (hp.nid (by show (s1.nw && !(pd.contains NT))=false; rw [e4,hnw,e]; rfl)).trans (hN e)
    ·exact am_step i ho' hc' (lw_skip hwan rfl (lw_nil ⟨tok_all hT' hm,evMix_am hC hsel sch fuel _ T' _ s1 _ h F1 ι1 hlen' hle hN r1 (by rw [e1]; exact hm) (e2.trans hn) (e3.trans hnp) (e4.trans hnw) hio (by rw [e1]; exact hT') h1 hk⟩))
theorem mixE_am {ops:List Oper} {i:Nat} {Q:List (Nat×List Nat)→St→Option R} {listed:Array Bool} {T:List (Nat×List Nat)} {TS:List (Nat×(Array Obj→Prop))} {s:St} {ρ:List Value} {h:Array Obj} {F1:Frz} {ι1:Gh} {fuel:Nat} (hC:CxOK P C) (hsel:Region.noSelect ops.toArray=true) (hle:F.le F1) (hN:nw=false→F1.nid=F.nid) (hr:Rel F1 ι1 s ρ) (hm:Hp h F1 (lv ι1 s.ow++L0)) (hn:s.n=n) (hnp:s.np=np) (hnw:s.nw=nw) (hio:∀ t,(np / 1000≤t∧t<np % 1000)→(ι1 t).1=io t) (hT:TOK F1 ι1 s.ow T TS) (hq2:Region.free .any ops.toArray listed i=true) (hq3:(Region.ready .any ops.toArray listed).contains i=true) (h0:mixE C ops.toArray i T s Q=some r) (hQ:∀ (T:List (Nat×List Nat)) (TS:List (Nat×(Array Obj→Prop))) (s:St) (ρ:List Value) (h:Array Obj) (F1:Frz) (ι1:Gh),F.le F1→(nw=false→F1.nid=F.nid)→Rel F1 ι1 s ρ→Hp h F1 (lv ι1 s.ow++L0)→s.n=n→s.np=np→s.nw=nw→(∀ t,(np / 1000≤t∧t<np % 1000)→(ι1 t).1=io t)→TOK F1 ι1 s.ow T TS→Q T s=some r→AM P E ops KK fuel (listed.setIfInBounds i true) TS ρ h):AM P E ops KK (fuel+1) listed TS ρ h:=by
 unfold mixE at h0
 split at h0
 ·cases h0
 ·rename_i o ho
  have ho':ops[i]?=some o:=by simpa using ho
  rcases guardE_inv hr h0 with ⟨s1,r1,e1,e2,e3,e4,hwan,h1⟩ | ⟨s1,r1,e1,e2,e3,e4,hwan,h1⟩
  ·cases hp:isPure o.op with
   | false=>rw [hp] at h1; cases h1
   | true =>
    rw [hp] at h1
    simp only [cond_true] at h1
    obtain ⟨dst,op,ty,p,af,gd⟩:=o
    simp only at h1
    obtain ⟨v,d,g1,g2,g3⟩:=evPure_sound (P:=P) (dst:=dst) (ty:=ty) (p:=p) (af:=af) (gd:=gd) (L0:=[]) hC.1 hm.gl (r1.fewer fun p=>(fpr s1 op).contains p.1) h1
    split at g3
    ·rename_i s' hput
     obtain ⟨a,b,c,e,f⟩:=r1.put hput (fun _=>g2)
     have hm1:Hp h F1 (lv ι1 s1.ow++L0):=by rw [e1]; exact hm
     refine am_take2 (S:=fun h=>Hp h F1 (lv ι1 (s1.ow.filter fun p=>(fpr s1 op).contains p.1)++[])) i ho' hsel hq2 hq3 (hm1.sub ((lv_sub List.filter_sublist).append (List.nil_sublist _))) (tok_all hT hm) hwan (fun h' hh'=>g1 h' hh') rfl
      (hQ ((i,fpr s1 op++(T.filter fun q=>waitsB .any ops.toArray i q.1).flatMap (·.2))::T.filter fun q=>!(waitsB .any ops.toArray i q.1)) _ s' _ h F1 ι1 hle hN a (by rw [b,e1]; exact hm) ((e.trans e2).trans hn) ((c.trans e3).trans hnp) ((f.trans e4).trans hnw) hio ?_ g3)
     rw [b]
     refine .cons ⟨rfl,fun h hh=>⟨hh.sub ?_,fun q hq hwt=>?_⟩⟩ (by rw [e1]; exact hT.filter fun a b hab=>by rw [hab.1])
     ·exact (lv_sub (filter_mono fun p hp=>by rw [contains_app,hp]; rfl)).append (List.Sublist.refl _)
     ·obtain ⟨a0,ha0,hab⟩:=hT.mem_r hq
      refine hab.2 h (hh.sub ?_)
      rw [e1]
      refine (lv_sub (filter_mono fun p hp=>?_)).append (List.Sublist.refl _)
      have:((T.filter fun q=>waitsB .any ops.toArray i q.1).flatMap (·.2)).contains p.1=true:=by
       rw [List.contains_iff_mem] at hp ⊢
       exact List.mem_flatMap.2 ⟨a0,List.mem_filter.2 ⟨ha0,by rw [← hab.1]; exact hwt⟩,hp⟩
      rw [contains_app,this,Bool.or_true]
    ·cases g3
  ·exact am_skip i ho' hsel hq2 hq3 (tok_all hT hm) hwan rfl (hQ T TS s1 _ h F1 ι1 hle hN r1 (by rw [e1]; exact hm) (e2.trans hn) (e3.trans hnp) (e4.trans hnw) hio (by rw [e1]; exact hT) h1)
theorem mixL_lw {ops:List Oper} {i:Nat} {Q:List (Nat×List Nat)→St→Option R} {listed:Array Bool} {T:List (Nat×List Nat)} {TS:List (Nat×(Array Obj→Prop))} {s:St} {ρ:List Value} {h:Array Obj} {F1:Frz} {ι1:Gh} {fuel:Nat} (hC:CxOK P C) (hsel:Region.noSelect ops.toArray=true) (hle:F.le F1) (hN:nw=false→F1.nid=F.nid) (hr:Rel F1 ι1 s ρ) (hm:Hp h F1 (lv ι1 s.ow++L0)) (hn:s.n=n) (hnp:s.np=np) (hnw:s.nw=nw) (hio:∀ t,(np / 1000≤t∧t<np % 1000)→(ι1 t).1=io t) (hT:TOK F1 ι1 s.ow T TS) (h0:mixL C ops.toArray i T s Q=some r) (hQ:∀ (T:List (Nat×List Nat)) (TS:List (Nat×(Array Obj→Prop))) (s:St) (ρ:List Value) (h:Array Obj) (F1:Frz) (ι1:Gh),F.le F1→(nw=false→F1.nid=F.nid)→Rel F1 ι1 s ρ→Hp h F1 (lv ι1 s.ow++L0)→s.n=n→s.np=np→s.nw=nw→(∀ t,(np / 1000≤t∧t<np % 1000)→(ι1 t).1=io t)→TOK F1 ι1 s.ow T TS→Q T s=some r→AM P E ops KK fuel (listed.setIfInBounds i true) TS ρ h):∃ o,ops[i]?=some o∧LW P E ops (fun ρ' h'=>(∀ q∈TS.filter (fun q=>!(waitsB .any ops.toArray i q.1)),q.2 h')∧AM P E ops KK fuel (listed.setIfInBounds i true) (TS.filter fun q=>!(waitsB .any ops.toArray i q.1)) ρ' h') [o] ρ h:=by
 unfold mixL at h0
 split at h0
 ·cases h0
 ·rename_i o ho
  have ho':ops[i]?=some o:=by simpa using ho
  refine ⟨o,ho',?_⟩
  have hT':TOK F1 ι1 s.ow (T.filter fun q=>!(waitsB .any ops.toArray i q.1)) (TS.filter fun q=>!(waitsB .any ops.toArray i q.1)):=hT.filter fun a b hab=>by rw [hab.1]
  generalize hTd:(T.filter fun q=>!(waitsB .any ops.toArray i q.1))=T' at h0 hT'
  rcases guardE_inv hr h0 with ⟨s1,r1,e1,e2,e3,e4,hwan,h1⟩ | ⟨s1,r1,e1,e2,e3,e4,hwan,h1⟩
  ·dsimp only at h1
   generalize hpd:T'.flatMap (·.2)=pd at h1
   cases hch:(hidN (s1.ow.filter fun p=>pd.contains p.1) && (s1.ow.filter fun p=>pd.contains p.1).all (fun p=>othB (s1.ow.filter fun p=>!(pd.contains p.1)) (o.dst.getD 900000) p.1)) with
   | false=>rw [hch] at h1; cases h1
   | true =>
    rw [hch] at h1
    simp only [cond_true] at h1
    rw [Bool.and_eq_true] at hch
    obtain ⟨hh,hoth⟩:=hch
    have hm1:Hp h F1 (lv ι1 s1.ow++L0):=by rw [e1]; exact hm
    have hpm:(lv ι1 s1.ow).Perm (lv ι1 (s1.ow.filter fun p=>!(pd.contains p.1))++lv ι1 (s1.ow.filter fun p=>pd.contains p.1)):=by
     have p1:s1.ow.Perm ((s1.ow.filter fun p=>pd.contains p.1)++s1.ow.filter fun p=>!(pd.contains p.1)):=(List.filter_append_perm (fun p:Nat×OB=>pd.contains p.1) s1.ow).symm
     have p2:=(p1.trans List.perm_append_comm).flatMap_right (fun p=>(ι1 p.1).2)
     rw [← lv_append]
     exact p2
    have hm2:Hp h F1 (lv ι1 (s1.ow.filter fun p=>!(pd.contains p.1))++(lv ι1 (s1.ow.filter fun p=>pd.contains p.1)++L0)):=by
     rw [← List.append_assoc]
     exact hm1.perm (hpm.symm.append_right L0)
    have hr2:Rel F1 ι1 ⟨s1.n,s1.np,s1.nw && !(pd.contains NT),s1.sl,s1.ow.filter fun p=>!(pd.contains p.1)⟩ ρ:=⟨r1.len,r1.sl,fun q hq=>r1.ow q (List.mem_filter.1 hq).1,r1.nd.sublist ((List.filter_sublist).map _)⟩
    refine stepM_gen (all:=ops) hC hr2 hm2 r1 hm1 hwan h1 fun s' ρ' h' F' ι' hp=>?_
    have hk1:=hp.k
    cases hd2:(s'.ow.all fun q=>!(pd.contains q.1)) with
    | false=>rw [hd2] at hk1; cases hk1
    | true =>
     rw [hd2] at hk1
     simp only [cond_true] at hk1
     have hdj:∀ q∈s'.ow,pd.contains q.1=false:=fun q hq=>by
      have:=List.all_eq_true.1 hd2 q hq
      simpa using this
     have hι':∀ q∈s1.ow.filter (fun p=>pd.contains p.1),ι' q.1=ι1 q.1:=fun q hq=>by
      have h2:=List.all_eq_true.1 hoth q hq
      simp only [othB,Bool.and_eq_true,Bool.not_eq_true',beq_eq_false_iff_ne,Bool.or_eq_true,Nat.blt_eq] at h2
      refine hp.oth q.1 (fun p hp' e=>?_) h2.1.1 h2.1.2 fun hsb=>?_
      ·have h3:=(List.mem_filter.1 hp').2
       have h4:=(List.mem_filter.1 hq).2
       rw [e,h4] at h3
       cases h3
      ·rcases h2.2 with h3 | h3
       ·omega
       ·refine ⟨fun p hp'=>?_,h3.2⟩
        have:=List.all_eq_true.1 h3.1 p hp'
        simpa using this
     have hnt:(∃ q∈s1.ow.filter (fun p=>pd.contains p.1),q.1=NT)→F'.nid=F1.nid:=fun ⟨q,hq,e⟩=>by
      have h4:=(List.mem_filter.1 hq).2
      rw [e] at h4
      exact hp.nid (by simp only [h4,Bool.not_true,Bool.and_false])
     have hlv:lv ι' (s1.ow.filter fun p=>pd.contains p.1)=lv ι1 (s1.ow.filter fun p=>pd.contains p.1):=lv_other hι'
     have hmf:Hp h' F' (lv ι' ((s1.ow.filter fun p=>pd.contains p.1)++s'.ow)++L0):=by
      rw [lv_append,hlv,List.append_assoc]
      exact hp.hp.perm (List.perm_append_comm_assoc _ _ _)
     have hrf:Rel F' ι' ⟨s'.n,s'.np,s1.nw,s'.sl,(s1.ow.filter fun p=>pd.contains p.1)++s'.ow⟩ ρ':=by
      refine ⟨hp.rel.len,hp.rel.sl,fun q hq=>?_,?_⟩
      ·rcases List.mem_append.1 hq with hq | hq
       ·exact hidN_own hh hp.le hnt hι' hq (r1.ow q (List.mem_filter.1 hq).1)
       ·exact hp.rel.ow q hq
      ·show (((s1.ow.filter fun p=>pd.contains p.1)++s'.ow).map (·.1)).Nodup
       rw [List.map_append,List.nodup_append]
       refine ⟨r1.nd.sublist ((List.filter_sublist).map _),hp.rel.nd,fun a ha b hb e=>?_⟩
       obtain ⟨p,hp1,rfl⟩:=List.mem_map.1 ha
       obtain ⟨q,hq1,rfl⟩:=List.mem_map.1 hb
       have h3:=(List.mem_filter.1 hp1).2
       rw [e,hdj q hq1] at h3
       cases h3
     have hTf:TOK F' ι' ((s1.ow.filter fun p=>pd.contains p.1)++s'.ow) T' (TS.filter fun q=>!(waitsB .any ops.toArray i q.1)):=by
      have hsub:∀ q∈T',∀ t,q.2.contains t=true→pd.contains t=true:=fun q hq t ht=>by
       rw [← hpd]
       simp only [List.contains_eq_mem,decide_eq_true_eq] at ht ⊢
       exact List.mem_flatMap.2 ⟨q,hq,ht⟩
      have hfe:∀ q∈T',((s1.ow.filter fun p=>pd.contains p.1)++s'.ow).filter (fun p=>q.2.contains p.1)=s.ow.filter (fun p=>q.2.contains p.1):=fun q hq=>by
       rw [List.filter_append]
       have n1:s'.ow.filter (fun p=>q.2.contains p.1)=[]:=List.filter_eq_nil_iff.2 fun p hp' hc=>by
        have:=hdj p hp'
        rw [hsub q hq _ hc] at this
        cases this
       rw [n1,List.append_nil,List.filter_filter,e1]
       refine List.filter_congr fun p _=>?_
       cases hc:q.2.contains p.1 with
       | true=>rw [hsub q hq _ hc]; rfl
       | false=>rfl
      have gen:∀ {A:List (Nat×List Nat)} {B:List (Nat×(Array Obj→Prop))},(∀ q∈A,q∈T')→TOK F1 ι1 s.ow A B→TOK F' ι' ((s1.ow.filter fun p=>pd.contains p.1)++s'.ow) A B:=fun {A B} hA hAB=>by
       unfold TOK at *
       induction hAB with
       | nil=>exact .nil
       | @cons a b l m h t ih =>
        refine .cons ⟨h.1,fun h2 hh2=>h.2 h2 ?_⟩ (ih fun q hq=>hA q (by simp [hq]))
        rw [hfe a (hA a (by simp))] at hh2
        have e5:lv ι' (s.ow.filter fun p=>a.2.contains p.1)=lv ι1 (s.ow.filter fun p=>a.2.contains p.1):=lv_other fun p hp'=>by
         obtain ⟨h5,h6⟩:=List.mem_filter.1 hp'
         exact hι' p (List.mem_filter.2 ⟨by rw [e1]; exact h5,hsub a (hA a (by simp)) _ h6⟩)
        rw [e5] at hh2
        exact hh2.weaken hp.le hm.gl
      exact gen (fun q hq=>hq) hT'
     refine lw_nil ⟨tok_all (s:=⟨s'.n,s'.np,s1.nw,s'.sl,(s1.ow.filter fun p=>pd.contains p.1)++s'.ow⟩) hTf hmf,hQ T' _ ⟨s'.n,s'.np,s1.nw,s'.sl,(s1.ow.filter fun p=>pd.contains p.1)++s'.ow⟩ ρ' h' F' ι' (hle.trans hp.le) (fun e=>?_) hrf hmf ((hp.n.trans e2).trans hn) ((hp.np.trans e3).trans hnp) (e4.trans hnw) (fun t ht=>(hp.io t (by show s1.np / 1000≤t∧t<s1.np % 1000; rw [e3,hnp]; exact ht)).trans (hio t ht)) hTf hk1⟩
     exact (hp.nid (by show (s1.nw && !(pd.contains NT))=false; rw [e4,hnw,e]; rfl)).trans (hN e)
  ·exact (lw_skip hwan rfl (lw_nil ⟨tok_all hT' hm,hQ T' _ s1 _ h F1 ι1 hle hN r1 (by rw [e1]; exact hm) (e2.trans hn) (e3.trans hnp) (e4.trans hnw) hio (by rw [e1]; exact hT') h1⟩))
end
def tailS (prs:List TPr) (L:Array Bool) (s:St):St:=⟨s.n,s.np,s.nw,fun u=>cond (prs.any fun p=>p.t == u && L[p.ia]? == some true) (.op u 0) (s.sl u),
 prs.filterMap (fun p=>cond (L[p.ia]? == some true) (some (p.t, .cells p.T (cond (L[p.ib]? == some true) p.l p.z))) none)++s.ow⟩
theorem purge1_idem (t:Nat) (d:D):(d.purge1 t).purge1 t=d.purge1 t:=by
 cases d with
 | own t'=>simp only [D.purge1]; cases h:(t' == t) <;> simp [D.purge1,h]
 | op t' o=>simp only [D.purge1]; cases h:(t' == t) <;> simp [D.purge1,h]
 | oe t' z i o=>simp only [D.purge1]; cases h:(t' == t) <;> simp [D.purge1,h]
 | na i=>simp only [D.purge1]; cases h:(NT == t) <;> simp [D.purge1,h]
 | nae z i j o=>simp only [D.purge1]; cases h:(NT == t) <;> simp [D.purge1,h]
 | nas z i a b=>simp only [D.purge1]; cases h:(NT == t) <;> simp [D.purge1,h]
 | aggo ds t'=>simp only [D.purge1]; cases h:(t' == t) <;> simp [D.purge1,h]
 | aggh t' ds=>simp only [D.purge1]; cases h:(t' == t) <;> simp [D.purge1,h]
 | clov f t' ds=>simp only [D.purge1]; cases h:(t' == t) <;> simp [D.purge1,h]
 | opb t' b=>simp only [D.purge1]; cases h:(t' == t) <;> simp [D.purge1,h]
 | nap o=>simp only [D.purge1]; cases h:(NT == t) <;> simp [D.purge1,h]
 | _=>rfl
theorem purge1_or (t:Nat) (d:D):d.purge1 t=d∨d.purge1 t = .u:=by
 cases d with
 | own t'=>simp only [D.purge1]; cases h:(t' == t) <;> simp
 | op t' o=>simp only [D.purge1]; cases h:(t' == t) <;> simp
 | oe t' z i o=>simp only [D.purge1]; cases h:(t' == t) <;> simp
 | na i=>simp only [D.purge1]; cases h:(NT == t) <;> simp
 | nae z i j o=>simp only [D.purge1]; cases h:(NT == t) <;> simp
 | nas z i a b=>simp only [D.purge1]; cases h:(NT == t) <;> simp
 | aggo ds t'=>simp only [D.purge1]; cases h:(t' == t) <;> simp
 | aggh t' ds=>simp only [D.purge1]; cases h:(t' == t) <;> simp
 | clov f t' ds=>simp only [D.purge1]; cases h:(t' == t) <;> simp
 | opb t' b=>simp only [D.purge1]; cases h:(t' == t) <;> simp
 | nap o=>simp only [D.purge1]; cases h:(NT == t) <;> simp
 | _=>exact .inl rfl
theorem purge1_keep {t t':Nat} {d:D} (h:d.purge1 t=d):(d.purge1 t').purge1 t=d.purge1 t':=by
 rcases purge1_or t' d with e | e <;> rw [e]
 ·exact h
 ·rfl
theorem purge_nt {t:Nat} {d:D} (h:∀ ds,d ≠ .tup ds):d.purge t=d.purge1 t:=by
 cases d <;> first | rfl | exact absurd rfl (h _)
theorem purge1_nt {t:Nat} {d:D} (h:∀ ds,d ≠ .tup ds):∀ ds,d.purge1 t ≠ .tup ds:=by
 rcases purge1_or t d with e | e <;> rw [e]
 ·exact h
 ·exact fun ds h=>by cases h
theorem purge_idem (t:Nat) (d:D):(d.purge t).purge t=d.purge t:=by
 by_cases h:∃ ds,d = .tup ds
 ·obtain ⟨ds,rfl⟩:=h
  simp only [D.purge,List.map_map,D.tup.injEq]
  apply List.map_congr_left
  intro a _
  exact purge1_idem t a
 ·have h:∀ ds,d ≠ .tup ds:=fun ds e=>h ⟨ds,e⟩
  rw [purge_nt h,purge_nt (purge1_nt h),purge1_idem]
theorem purge_keep {t t':Nat} {d:D} (h0:d.purge t=d):(d.purge t').purge t=d.purge t':=by
 by_cases h:∃ ds,d = .tup ds
 ·obtain ⟨ds,rfl⟩:=h
  simp only [D.purge,List.map_map,D.tup.injEq] at h0 ⊢
  apply List.map_congr_left
  intro a ha
  exact purge1_keep (List.map_inj_left.1 (h0.trans (List.map_id ds).symm) a ha)
 ·have h:∀ ds,d ≠ .tup ds:=fun ds e=>h ⟨ds,e⟩
  rw [purge_nt h] at h0 ⊢
  rw [purge_nt (purge1_nt h)]
  exact purge1_keep h0
theorem dpurge_keep {t:Nat}:∀ {ts:List Nat} {d:D},d.purge t=d→(dpurge d ts).purge t=dpurge d ts
 | [],_,h=>h
 | t'::ts,d,h=>show (dpurge (d.purge t') ts).purge t=dpurge (d.purge t') ts from dpurge_keep (purge_keep h)
theorem dpurge_purge {t:Nat}:∀ {ts:List Nat} {d:D},t∈ts→(dpurge d ts).purge t=dpurge d ts
 | t'::ts,d,h=>by
  rcases List.mem_cons.1 h with rfl | h
  ·exact show (dpurge (d.purge t) ts).purge t=dpurge (d.purge t) ts from dpurge_keep (purge_idem _ _)
  ·exact show (dpurge (d.purge t') ts).purge t=dpurge (d.purge t') ts from dpurge_purge h
theorem plain_purgeC {k:Bool} {t:Nat} {d:D} (h:d.plain=true):d.purgeC k t=d:=by
 cases d <;> first | rfl | (simp [D.plain] at h)
theorem plains_purge {k:Bool} {t:Nat} {T:TypeId} {ds:List D} (h:ds.all D.plain=true):(OB.cells T ds).purge k t = .cells T ds:=by
 simp only [OB.purge,OB.cells.injEq,true_and]
 have:ds.map (D.purgeC k t)=ds.map id:=List.map_congr_left fun d hd=>plain_purgeC (List.all_eq_true.1 h d hd)
 rw [this,List.map_id]
theorem ow_keep {ts:List Nat} {t:Nat} {k:Bool} (ht:t∈ts):∀ {ow:List (Nat×OB)},tailO ts ow=true→(ow.filter fun p=>!(p.1 == t)).map (fun p=>(p.1,p.2.purge k t))=ow
 | [],_=>rfl
 | p::ow,h=>by
  simp only [tailO,List.all_cons,Bool.and_eq_true] at h
  obtain ⟨⟨h1,h2⟩,h3⟩:=h
  have hne:p.1≠t:=fun e=>by
   rw [e] at h1
   have:=List.contains_iff_mem.2 ht
   rw [this] at h1
   cases h1
  have hb:p.2.purge k t=p.2:=by
   obtain ⟨u,b⟩:=p
   cases b with
   | cells T ds =>
    simp only [OB.purge,OB.cells.injEq,true_and]
    have:ds.map (D.purgeC k t)=ds.map id:=List.map_congr_left fun d hd=>by
     have h4:=List.all_eq_true.1 h2 d hd
     cases hp:d.plain with
     | true=>exact plain_purgeC hp
     | false =>
      rw [hp,Bool.false_or] at h4
      have key:∀ t',(!(ts.contains t'))=true→(t' == t)=false:=fun t' h5=>by
       have h6:t'≠t:=fun e=>by
        rw [e,List.contains_iff_mem.2 ht] at h5
        cases h5
       simpa using h6
      cases d <;> first | (cases h4; done) | (simp only [D.purgeC,D.purge1,key _ h4,cond_false,id])
    rw [this,List.map_id]
   | _=>rfl
  rw [List.filter_cons]
  simp only [show (!(p.1 == t))=true by simp [hne],if_true,List.map_cons,hb]
  rw [ow_keep ht h3]
theorem set_get {L:Array Bool} {i j:Nat}:(L.setIfInBounds i true)[j]?=if j=i∧i<L.size then some true else L[j]?:=by
 rw [Array.getElem?_setIfInBounds]
 by_cases e:i=j
 ·subst e
  by_cases h:i<L.size
  ·simp [h]
  ·simp [h]
 ·have:¬ (j=i):=fun h=>e h.symm
  simp [e,this]
theorem cond_inv {α:Type} {c:Bool} {x y:α} (h:cond c (some x) none=some y):c=true∧x=y:=by
 cases c
 ·cases h
 ·exact ⟨rfl,Option.some.inj h⟩
structure Eqv (s s':St):Prop where
 n:s.n=s'.n
 np:s.np=s'.np
 nw:s.nw=s'.nw
 sl:∀ u,s.sl u=s'.sl u
 ow:s.ow.Perm s'.ow
structure PrOK (C:Cx) (ops:List Oper) (ts:List Nat) (s:St) (p:TPr):Prop where
 out:∃ a b tt x,ops[p.ia]?=some a∧ops[p.ib]?=some b∧a.op = .alloc p.T∧a.dst=some p.t∧a.guard=none∧b.op = .store p.T (.tmp p.t) x∧b.dst=none∧b.guard=none∧ti C p.T=some tt∧cellP (g s x)=some p.l∧p.l.length=tt.size∧tt.zv.cells.toList.length=tt.size∧p.z=tt.zv.cells.toList.map ofVal∧p.z.all D.plain=true∧p.t<s.n∧s.np % 1000≤p.t∧(∀ v,x = .tmp v→v∉ts)
theorem mkTPr_ok {C:Cx} {ops:List Oper} {ts:List Nat} {s:St} {q:Nat×Nat} {p:TPr} (h:mkTPr C ops.toArray ts s q=some p):PrOK C ops ts s p:=by
 unfold mkTPr at h
 split at h
 ·rename_i a ha
  split at h
  ·rename_i b hb
   split at h
   ·rename_i T hT
    split at h
    ·rename_i T' u x hS
     split at h
     ·rename_i t ht
      split at h
      ·rename_i tt htt
       split at h
       ·rename_i l hl
        obtain ⟨hc,h⟩:=cond_inv h
        cases h
        simp only [Bool.and_eq_true,beq_iff_eq,Option.isNone_iff_eq_none,Nat.blt_eq,Nat.ble_eq] at hc
        obtain ⟨⟨⟨⟨⟨⟨⟨⟨⟨⟨c1,c2⟩,c3⟩,rfl⟩,rfl⟩,c6⟩,c7⟩,c8⟩,c9⟩,c10⟩,c11⟩:=hc
        refine ⟨a,b,tt,x,by simpa using ha,by simpa using hb,hT,ht,c1,hS,c3,c2,htt,hl,c8,c9,rfl,c10,c6,c7,fun v hv=>?_⟩
        subst hv
        simpa using c11
       ·cases h
      ·cases h
     ·cases h
    ·cases h
   ·cases h
  ·cases h
 ·cases h
theorem cellP_of {s:St} {d:D} {l:List D} (h:cellP d=some l):cellsOf s d=some l∧l.all D.plain=true:=by
 unfold cellP at h
 split at h
 ·rename_i l'
  obtain ⟨h1,rfl⟩:=cond_inv h
  exact ⟨by simp only [cellsOf,h1,cond_true],h1⟩
 ·rename_i hn
  obtain ⟨h1,rfl⟩:=cond_inv h
  refine ⟨?_,by simp [h1]⟩
  cases d <;> first | (simp only [cellsOf,h1,cond_true]; done) | (exact absurd rfl (hn _)) | (simp [D.plain] at h1)
section
variable {P:Program} {C:Cx} {ops:List Oper} {ts:List Nat} {prs:List TPr} {s0:St} {L:Array Bool} {p:TPr} {T:List (Nat×List Nat)} {Q:List (Nat×List Nat)→St→Option Unit}
theorem tail_nil (hT:T.all (fun q=>q.2.isEmpty)=true) (f:Nat×List Nat→Bool):(T.filter f).flatMap (·.2)=[]∧(T.filter f).all (fun q=>q.2.isEmpty)=true:=by
 constructor
 ·rw [List.flatMap_eq_nil_iff]
  intro q hq
  have:=List.all_eq_true.1 hT q (List.mem_filter.1 hq).1
  simpa using this
 ·rw [List.all_eq_true]
  intro q hq
  exact List.all_eq_true.1 hT q (List.mem_filter.1 hq).1
theorem mixL_tail {i:Nat} {o:Oper} {s s':St} (ho:ops[i]?=some o) (hg:o.guard=none) (hT:T.all (fun q=>q.2.isEmpty)=true) (hnw:s'.nw=s.nw) (hst:∀ k:St→Option Unit,stepM C s s o k=k s')
  (hQ:∀ T',T'.all (fun q=>q.2.isEmpty)=true→Q T' s'=some ()):mixL C ops.toArray i T s Q=some ():=by
 unfold mixL
 rw [show ops.toArray.toList[i]?=some o by simpa using ho]
 simp only [guardE,hg]
 rw [(tail_nil hT _).1]
 have f1:∀ l:List (Nat×OB),l.filter (fun _=>false)=[]:=fun l=>by simp
 have f2:∀ l:List (Nat×OB),l.filter (fun _=>true)=l:=fun l=>by simp
 simp only [List.contains_nil,Bool.not_false,Bool.and_true,f1,f2,hidN,List.all_nil,cond_true,List.nil_append]
 have e:(⟨s.n,s.np,s.nw,s.sl,s.ow⟩:St)=s:=rfl
 rw [e,hst]
 have ha:(s'.ow.all fun _=>true)=true:=by simp
 simp only [ha,cond_true]
 rw [← hnw]
 exact hQ _ (tail_nil hT _).2
theorem stepM_alloc {s:St} {o:Oper} {T:TypeId} {t:Nat} {tt:TI} {k:St→Option Unit} (h1:o.op = .alloc T) (h2:o.dst=some t) (h3:ti C T=some tt) (h4:t<s.n) (h5:s.np % 1000≤t) :
  stepM C s s o k=k (((s.purge t).make t (.cells T (tt.zv.cells.toList.map ofVal))).set t (.op t 0)):=by
 have h6:Nat.ble (s.np % 1000) t=true:=by simpa using h5
 have h7:Nat.blt t s.n=true:=by simpa using h4
 unfold stepM stepN
 rw [h1,h2]
 simp only [appNT,cond_false,evOp,isPure,Option.getD_some,h6,cond_true,preO,freezeAll,preN,evEff,h3,St.put,St.make,St.purge,h7,St.set]
theorem stepM_store {s:St} {o:Oper} {T:TypeId} {t:Nat} {x:Operand} {tt:TI} {z l:List D} {k:St→Option Unit} (h1:o.op = .store T (.tmp t) x) (h2:o.dst=none) (h3:ti C T=some tt) (h4:s.np % 1000≤900000) (h5:s.sl t = .op t 0) (h6:s.look t=some (.cells T z)) (h7:cellsOf s (g s x)=some l) (h8:l.length=tt.size) (h9:z.length=tt.size) :
  stepM C s s o k=k (s.upd t (.cells T l)):=by
 have h10:Nat.ble (s.np % 1000) 900000=true:=by simpa using h4
 have h11:g s (.tmp t) = .op t 0:=h5
 have h12:(l.length == tt.size && Nat.ble (0+tt.size) z.length)=true:=by simp [h8,h9]
 have h13:z.take 0++l++z.drop (0+tt.size)=l:=by
  rw [List.take_zero,List.nil_append,Nat.zero_add,← h9,List.drop_length,List.append_nil]
 unfold stepM stepN
 rw [h1,h2]
 simp only [appNT,cond_false,evOp,isPure,Option.getD_none,h10,cond_true,preO,h11,freezeAll,preN_cells h7,evEff,h3,h6,h7,h12,h13,St.put]
def entT (L:Array Bool) (p:TPr):Option (Nat×OB):=cond (L[p.ia]? == some true) (some (p.t, .cells p.T (cond (L[p.ib]? == some true) p.l p.z))) none
structure Dst (p:TPr) (q:TPr):Prop where
 aa:q.ia≠p.ia
 ba:q.ib≠p.ia
 ab:q.ia≠p.ib
 bb:q.ib≠p.ib
 t:q.t≠p.t
theorem split_at (hp:p∈prs) (hts:(prs.map (·.t)).Nodup) (hix:(prs.flatMap fun p=>[p.ia,p.ib]).Nodup):∃ A B,prs=A++p::B∧p.ia≠p.ib∧∀ q,q∈A∨q∈B→Dst p q:=by
 obtain ⟨A,B,rfl⟩:=List.append_of_mem hp
 rw [List.map_append,List.map_cons,List.nodup_append] at hts
 rw [List.flatMap_append,List.flatMap_cons,List.nodup_append] at hix
 obtain ⟨t1,t2,t3⟩:=hts
 obtain ⟨x1,x2,x3⟩:=hix
 rw [List.nodup_append] at x2
 obtain ⟨y1,y2,y3⟩:=x2
 refine ⟨A,B,rfl,by simpa using y1,fun q hq=>?_⟩
 rcases hq with hq | hq
 ·have m1:q.ia∈A.flatMap fun p=>[p.ia,p.ib]:=List.mem_flatMap.2 ⟨q,hq,by simp⟩
  have m2:q.ib∈A.flatMap fun p=>[p.ia,p.ib]:=List.mem_flatMap.2 ⟨q,hq,by simp⟩
  exact ⟨x3 _ m1 _ (by simp),x3 _ m2 _ (by simp),x3 _ m1 _ (by simp),x3 _ m2 _ (by simp),t3 _ (List.mem_map_of_mem hq) _ (by simp)⟩
 ·have m1:q.ia∈B.flatMap fun p=>[p.ia,p.ib]:=List.mem_flatMap.2 ⟨q,hq,by simp⟩
  have m2:q.ib∈B.flatMap fun p=>[p.ia,p.ib]:=List.mem_flatMap.2 ⟨q,hq,by simp⟩
  refine ⟨(y3 p.ia (by simp) _ m1).symm,(y3 p.ia (by simp) _ m2).symm,(y3 p.ib (by simp) _ m1).symm,(y3 p.ib (by simp) _ m2).symm,fun e=>?_⟩
  rw [List.nodup_cons] at t2
  exact t2.1 (e ▸ List.mem_map_of_mem hq)
theorem ent_congr {L':Array Bool}:∀ {l:List TPr},(∀ q∈l,L'[q.ia]?=L[q.ia]?∧L'[q.ib]?=L[q.ib]?)→l.filterMap (entT L')=l.filterMap (entT L)
 | [],_=>rfl
 | q::l,h=>by
  have h1:=h q (by simp)
  have:entT L' q=entT L q:=by simp only [entT,h1.1,h1.2]
  rw [List.filterMap_cons,List.filterMap_cons,this,ent_congr fun q hq=>h q (by simp [hq])]
theorem any_congr {L':Array Bool} {u:Nat}:∀ {l:List TPr},(∀ q∈l,L'[q.ia]?=L[q.ia]?)→(l.any fun p=>p.t == u && L'[p.ia]? == some true)=l.any fun p=>p.t == u && L[p.ia]? == some true
 | [],_=>rfl
 | q::l,h=>by
  rw [List.any_cons,List.any_cons,h q (by simp),any_congr fun q hq=>h q (by simp [hq])]
theorem ow_id {t:Nat} {k:Bool}:∀ {l:List (Nat×OB)},(∀ e∈l,e.1≠t∧e.2.purge k t=e.2)→(l.filter fun p=>!(p.1 == t)).map (fun p=>(p.1,p.2.purge k t))=l
 | [],_=>rfl
 | e::l,h=>by
  have h1:=h e (by simp)
  rw [List.filter_cons]
  simp only [show (!(e.1 == t))=true by simp [h1.1],if_true,List.map_cons,h1.2]
  rw [ow_id fun q hq=>h q (by simp [hq])]
theorem ent_mem {l:List TPr} {e:Nat×OB} (h:e∈l.filterMap (entT L)):∃ q∈l,e.1=q.t∧(e.2 = .cells q.T q.l∨e.2 = .cells q.T q.z):=by
 obtain ⟨q,hq,h⟩:=List.mem_filterMap.1 h
 unfold entT at h
 obtain ⟨_,h⟩:=cond_inv h
 refine ⟨q,hq,by rw [← h],?_⟩
 rw [← h]
 cases (L[q.ib]? == some true)
 ·exact .inr rfl
 ·exact .inl rfl
theorem alloc_eqv (hok:∀ p∈prs,PrOK C ops ts s0 p) (hp:p∈prs) (hts:prs.map (·.t)=ts) (hnd:ts.Nodup) (hix:(prs.flatMap fun p=>[p.ia,p.ib]).Nodup) (ho:tailO ts s0.ow=true) (hs:∀ u,∀ t∈ts,(s0.sl u).purge t=s0.sl u)
  (ha:L[p.ia]?=some false) (hb:L[p.ib]?=some false) :
  Eqv ((((tailS prs L s0).purge p.t).make p.t (.cells p.T p.z)).set p.t (.op p.t 0)) (tailS prs (L.setIfInBounds p.ia true) s0):=by
 have hpt:p.t∈ts:=hts ▸ List.mem_map_of_mem hp
 obtain ⟨A,B,rfl,hne,hd⟩:=split_at hp (by rw [hts]; exact hnd) hix
 have hlt:p.ia<L.size:=(Array.getElem?_eq_some_iff.1 ha).1
 have g1:(L.setIfInBounds p.ia true)[p.ia]?=some true:=by rw [set_get]; simp [hlt]
 have g2:(L.setIfInBounds p.ia true)[p.ib]?=some false:=by rw [set_get]; simp [hne.symm,hb]
 have gq:∀ q,q∈A∨q∈B→(L.setIfInBounds p.ia true)[q.ia]?=L[q.ia]?∧(L.setIfInBounds p.ia true)[q.ib]?=L[q.ib]?:=fun q hq=>by
  have:=hd q hq
  exact ⟨by rw [set_get]; simp [this.aa],by rw [set_get]; simp [this.ba]⟩
 have hpl:∀ q∈A++p::B,q.l.all D.plain=true∧q.z.all D.plain=true:=fun q hq=>by
  obtain ⟨a,b,tt,x,_,_,_,_,_,_,_,_,_,q1,_,_,_,q2,_⟩:=(hok q hq).out
  exact ⟨(cellP_of (s:=s0) q1).2,q2⟩
 have hen:entT L p=none:=by simp [entT,ha]
 have heq:(A++p::B).filterMap (entT L)=A.filterMap (entT L)++B.filterMap (entT L):=by
  rw [List.filterMap_append,List.filterMap_cons,hen]
 have hkeep:∀ k:Bool,(((A++p::B).filterMap (entT L)++s0.ow).filter fun q=>!(q.1 == p.t)).map (fun q=>(q.1,q.2.purge k p.t))=(A++p::B).filterMap (entT L)++s0.ow:=fun k=>by
  rw [List.filter_append,List.map_append,ow_keep hpt ho,ow_id]
  intro e he
  rw [heq,← List.filterMap_append] at he
  obtain ⟨q,hq,e1,e2⟩:=ent_mem he
  have hq':q∈A∨q∈B:=List.mem_append.1 hq
  refine ⟨by rw [e1]; exact (hd q hq').t,?_⟩
  have:=hpl q (by rcases hq' with h | h <;> simp [h])
  rcases e2 with e2 | e2 <;> rw [e2]
  ·exact plains_purge this.1
  ·exact plains_purge this.2
 refine ⟨rfl,rfl,rfl,fun u=>?_,?_⟩
 ·simp only [St.set,St.make,St.purge,tailS]
  by_cases hu:u=p.t
  ·subst hu
   have:((A++p::B).any fun q=>q.t == p.t && (L.setIfInBounds p.ia true)[q.ia]? == some true)=true:=by
    rw [List.any_eq_true]
    exact ⟨p,by simp,by simp [g1]⟩
   simp only [beq_self_eq_true,cond_true,this]
  ·have hu':(u == p.t)=false:=by simpa using hu
   have hpu:(p.t == u)=false:=by simpa using fun e=>hu e.symm
   have e1:((A++p::B).any fun q=>q.t == u && (L.setIfInBounds p.ia true)[q.ia]? == some true)=(A++p::B).any fun q=>q.t == u && L[q.ia]? == some true:=by
    rw [List.any_append,List.any_append,List.any_cons,List.any_cons,any_congr fun q hq=>(gq q (.inl hq)).1,any_congr (l:=B) fun q hq=>(gq q (.inr hq)).1,hpu,Bool.false_and,Bool.false_and]
   rw [hu',e1,cond_false]
   cases (A++p::B).any fun q=>q.t == u && L[q.ia]? == some true with
   | true=>simp only [cond_true,D.purge,D.purge1,hu',cond_false]
   | false=>simp only [cond_false]; exact hs u _ hpt
 ·show ((p.t,OB.cells p.T p.z)::(((A++p::B).filterMap (entT L)++s0.ow).filter fun q=>!(q.1 == p.t)).map (fun q=>(q.1,q.2.purge ((tailS (A++p::B) L s0).gone p.t) p.t))).Perm ((A++p::B).filterMap (entT (L.setIfInBounds p.ia true))++s0.ow)
  rw [hkeep,heq,List.filterMap_append,List.filterMap_cons,ent_congr fun q hq=>gq q (.inl hq),ent_congr (l:=B) fun q hq=>gq q (.inr hq)]
  have:entT (L.setIfInBounds p.ia true) p=some (p.t, .cells p.T p.z):=by simp [entT,g1,g2]
  rw [this]
  simp only [List.append_assoc,List.cons_append]
  exact List.perm_middle.symm
theorem find_none {t:Nat}:∀ {l:List (Nat×OB)},(∀ e∈l,e.1≠t)→l.find? (fun p=>p.1 == t)=none
 | [],_=>rfl
 | e::l,h=>by
  rw [List.find?_cons]
  have:(e.1 == t)=false:=by simpa using h e (by simp)
  rw [this]
  exact find_none fun q hq=>h q (by simp [hq])
theorem map_none {t:Nat} {b:OB}:∀ {l:List (Nat×OB)},(∀ e∈l,e.1≠t)→l.map (fun p=>cond (p.1 == t) (t,b) p)=l
 | [],_=>rfl
 | e::l,h=>by
  have:(e.1 == t)=false:=by simpa using h e (by simp)
  rw [List.map_cons,this,map_none fun q hq=>h q (by simp [hq])]
  rfl
theorem store_eqv (hp:p∈prs) (hts:prs.map (·.t)=ts) (hnd:ts.Nodup) (hix:(prs.flatMap fun p=>[p.ia,p.ib]).Nodup) (ho:tailO ts s0.ow=true)
  (ha:L[p.ia]?=some true) (hb:L[p.ib]?=some false) :
  (tailS prs L s0).sl p.t = .op p.t 0∧(tailS prs L s0).look p.t=some (.cells p.T p.z)∧Eqv ((tailS prs L s0).upd p.t (.cells p.T p.l)) (tailS prs (L.setIfInBounds p.ib true) s0):=by
 have hpt:p.t∈ts:=hts ▸ List.mem_map_of_mem hp
 obtain ⟨A,B,rfl,hne,hd⟩:=split_at hp (by rw [hts]; exact hnd) hix
 have hlt:p.ib<L.size:=(Array.getElem?_eq_some_iff.1 hb).1
 have g1:(L.setIfInBounds p.ib true)[p.ib]?=some true:=by rw [set_get]; simp [hlt]
 have g2:(L.setIfInBounds p.ib true)[p.ia]?=some true:=by rw [set_get]; simp [hne,ha]
 have gq:∀ q,q∈A∨q∈B→(L.setIfInBounds p.ib true)[q.ia]?=L[q.ia]?∧(L.setIfInBounds p.ib true)[q.ib]?=L[q.ib]?:=fun q hq=>by
  have:=hd q hq
  exact ⟨by rw [set_get]; simp [this.ab],by rw [set_get]; simp [this.bb]⟩
 have hen:entT L p=some (p.t, .cells p.T p.z):=by simp [entT,ha,hb]
 have hen':entT (L.setIfInBounds p.ib true) p=some (p.t, .cells p.T p.l):=by simp [entT,g1,g2]
 have nA:∀ e∈A.filterMap (entT L),e.1≠p.t:=fun e he=>by
  obtain ⟨q,hq,e1,_⟩:=ent_mem he
  rw [e1]; exact (hd q (.inl hq)).t
 have nB:∀ e∈B.filterMap (entT L),e.1≠p.t:=fun e he=>by
  obtain ⟨q,hq,e1,_⟩:=ent_mem he
  rw [e1]; exact (hd q (.inr hq)).t
 have n0:∀ e∈s0.ow,e.1≠p.t:=fun e he h=>by
  have:=List.all_eq_true.1 ho e he
  rw [Bool.and_eq_true,h,List.contains_iff_mem.2 hpt] at this
  exact absurd this.1 (by simp)
 have how:(tailS (A++p::B) L s0).ow=A.filterMap (entT L)++(p.t, .cells p.T p.z)::(B.filterMap (entT L)++s0.ow):=by
  show (A++p::B).filterMap (entT L)++s0.ow=_
  rw [List.filterMap_append,List.filterMap_cons,hen,List.append_assoc,List.cons_append]
 refine ⟨?_,?_,rfl,rfl,rfl,fun u=>?_,?_⟩
 ·simp only [tailS]
  have:((A++p::B).any fun q=>q.t == p.t && L[q.ia]? == some true)=true:=by
   rw [List.any_eq_true]
   exact ⟨p,by simp,by simp [ha]⟩
  rw [this,cond_true]
 ·unfold St.look
  rw [how,List.find?_append,find_none nA,Option.none_or,List.find?_cons]
  simp
 ·simp only [St.upd,tailS]
  have e1:((A++p::B).any fun q=>q.t == u && (L.setIfInBounds p.ib true)[q.ia]? == some true)=(A++p::B).any fun q=>q.t == u && L[q.ia]? == some true:=by
   rw [List.any_append,List.any_append,List.any_cons,List.any_cons,any_congr fun q hq=>(gq q (.inl hq)).1,any_congr (l:=B) fun q hq=>(gq q (.inr hq)).1,g2,ha]
  rw [e1]
 ·have e2:(tailS (A++p::B) (L.setIfInBounds p.ib true) s0).ow=A.filterMap (entT L)++(p.t, .cells p.T p.l)::(B.filterMap (entT L)++s0.ow):=by
   show (A++p::B).filterMap (entT (L.setIfInBounds p.ib true))++s0.ow=_
   rw [List.filterMap_append,List.filterMap_cons,hen',ent_congr fun q hq=>gq q (.inl hq),ent_congr (l:=B) fun q hq=>gq q (.inr hq),List.append_assoc,List.cons_append]
  rw [e2]
  simp only [St.upd]
  rw [how,List.map_append,List.map_cons,List.map_append,map_none nA,map_none nB,map_none n0]
  simp
end
section
variable {P:Program} {C:Cx} {ops:List Oper} {ts:List Nat} {prs:List TPr} {s0:St} {F F1:Frz} {ι1:Gh} {L0:List Blk} {io:Nat→Value} {n np:Nat} {nw:Bool} {E:Env} {KK:List Value→Array Obj→Prop}
theorem Eqv.rel {s s':St} {ρ:List Value} (he:Eqv s s') (hr:Rel F1 ι1 s ρ):Rel F1 ι1 s' ρ :=
 ⟨hr.len.trans he.n,fun i=>by rw [← he.sl]; exact hr.sl i,fun p hp=>hr.ow p (he.ow.mem_iff.2 hp),((he.ow.map _).nodup_iff).1 hr.nd⟩
theorem Eqv.hp {s s':St} {h:Array Obj} (he:Eqv s s') (hm:Hp h F1 (lv ι1 s.ow++L0)):Hp h F1 (lv ι1 s'.ow++L0) :=
 hm.perm ((he.ow.symm.flatMap_right fun p:Nat×OB=>(ι1 p.1).2).append_right L0)
theorem tok_nil {ow ow':List (Nat×OB)}:∀ {T:List (Nat×List Nat)} {TS:List (Nat×(Array Obj→Prop))},TOK F1 ι1 ow T TS→T.all (fun q=>q.2.isEmpty)=true→TOK F1 ι1 ow' T TS
 | [],[], .nil,_ => .nil
 | q::T,c::TS, .cons h1 h2,hT=>by
  simp only [List.all_cons,Bool.and_eq_true] at hT
  have e:q.2=[]:=by simpa using hT.1
  refine .cons ⟨h1.1,fun h hh=>h1.2 h ?_⟩ (tok_nil h2 hT.2)
  rw [e] at hh ⊢
  have f1:∀ l:List (Nat×OB),l.filter (fun p=>([]:List Nat).contains p.1)=[]:=fun l=>by simp
  rw [f1] at hh ⊢
  exact hh
theorem full_eq {L:Array Bool} (hts:prs.map (·.t)=ts) (hf:(prs.all fun p=>L[p.ia]? == some true && L[p.ib]? == some true)=true):tailS prs L s0=tailF ts prs s0:=by
 subst hts
 have h1:∀ (l:List TPr),(l.all fun p=>L[p.ia]? == some true && L[p.ib]? == some true)=true→(l.filterMap fun p=>cond (L[p.ia]? == some true) (some (p.t,OB.cells p.T (cond (L[p.ib]? == some true) p.l p.z))) none)=l.map (fun p=>(p.t, .cells p.T p.l))∧∀ u,(l.any fun p=>p.t == u && L[p.ia]? == some true)=(l.map (·.t)).contains u:=by
  intro l
  induction l with
  | nil=>exact fun _=>⟨rfl,fun u=>rfl⟩
  | cons p l ih =>
   intro h
   simp only [List.all_cons,Bool.and_eq_true] at h
   obtain ⟨⟨a,b⟩,c⟩:=h
   obtain ⟨i1,i2⟩:=ih c
   refine ⟨?_,fun u=>?_⟩
   ·rw [List.filterMap_cons,a,b,cond_true,cond_true,i1]; rfl
   ·rw [List.any_cons,i2,a,Bool.and_true,List.map_cons,List.contains_cons]
    congr 1
    rw [Bool.eq_iff_iff]
    simp only [beq_iff_eq]
    exact eq_comm
 obtain ⟨h2,h3⟩:=h1 prs hf
 unfold tailS tailF
 rw [h2]
 congr 1
 funext u
 rw [h3]
theorem tail_am (hC:CxOK P C) (hsel:Region.noSelect ops.toArray=true) (hok:∀ p∈prs,PrOK C ops ts s0 p) (hts:prs.map (·.t)=ts) (hnd:ts.Nodup) (hix:(prs.flatMap fun p=>[p.ia,p.ib]).Nodup) (ho:tailO ts s0.ow=true) (hs:∀ u,∀ t∈ts,(s0.sl u).purge t=s0.sl u) (hn:s0.n=n) (hnp:s0.np=np) (hnw:s0.nw=nw)
  (hk:∀ ρ' h' F' ι',F.le F'→(nw=false→F'.nid=F.nid)→Rel F' ι' (tailF ts prs s0) ρ'→Hp h' F' (lv ι' (tailF ts prs s0).ow++L0)→(∀ t,(np / 1000≤t∧t<np % 1000)→(ι' t).1=io t)→KK ρ' h') :
  ∀ (fuel:Nat) (L:Array Bool) (T:List (Nat×List Nat)) (TS:List (Nat×(Array Obj→Prop))) (ρ:List Value) (h:Array Obj) (F1:Frz) (ι1:Gh),tailB ops.toArray prs fuel L=true→T.all (fun q=>q.2.isEmpty)=true→F.le F1→(nw=false→F1.nid=F.nid)→Rel F1 ι1 (tailS prs L s0) ρ→Hp h F1 (lv ι1 (tailS prs L s0).ow++L0)→(∀ t,(np / 1000≤t∧t<np % 1000)→(ι1 t).1=io t)→TOK F1 ι1 (tailS prs L s0).ow T TS→AM P E ops KK fuel L TS ρ h:=by
 have fin:∀ (fuel:Nat) (L:Array Bool) (TS:List (Nat×(Array Obj→Prop))) (ρ:List Value) (h:Array Obj) (F1:Frz) (ι1:Gh),Region.ready .any ops.toArray L=[]→(prs.all fun p=>L[p.ia]? == some true && L[p.ib]? == some true)=true→F.le F1→(nw=false→F1.nid=F.nid)→Rel F1 ι1 (tailS prs L s0) ρ→Hp h F1 (lv ι1 (tailS prs L s0).ow++L0)→(∀ t,(np / 1000≤t∧t<np % 1000)→(ι1 t).1=io t)→AM P E ops KK fuel L TS ρ h:=fun fuel L TS ρ h F1 ι1 h1 h2 hle hN hr hm hio=>by
  rw [full_eq hts h2] at hr hm
  exact am_done h1 (hk ρ h F1 ι1 hle hN hr hm hio)
 intro fuel
 induction fuel with
 | zero =>
  intro L T TS ρ h F1 ι1 hb hT hle hN hr hm hio hTO
  simp only [tailB,Bool.and_eq_true,beq_iff_eq] at hb
  exact fin 0 L TS ρ h F1 ι1 hb.1 (by simpa using hb.2) hle hN hr hm hio
 | succ fuel ih =>
  intro L T TS ρ h F1 ι1 hb hT hle hN hr hm hio hTO
  unfold tailB at hb
  cases hc:(Region.ready .any ops.toArray L == []) with
  | true =>
   rw [hc,cond_true] at hb
   exact fin _ L TS ρ h F1 ι1 (by simpa using hc) hb hle hN hr hm hio
  | false =>
   rw [hc,cond_false] at hb
   refine am_steps (by simpa using hc) fun q hq=>?_
   have hq1:=List.all_eq_true.1 hb q hq
   rw [Bool.and_eq_true,List.any_eq_true] at hq1
   obtain ⟨⟨p,hp,hq2⟩,hq3⟩:=hq1
   simp only [Bool.or_eq_true,Bool.and_eq_true,beq_iff_eq] at hq2
   have key:∀ (o:Oper) (s':St),ops[q]?=some o→o.guard=none→s'.nw=(tailS prs L s0).nw→(∀ k:St→Option Unit,stepM C (tailS prs L s0) (tailS prs L s0) o k=k s')→Eqv s' (tailS prs (L.setIfInBounds q true) s0)→∃ o,ops[q]?=some o∧LW P E ops (fun ρ' h'=>(∀ q'∈TS.filter (fun q'=>!(waitsB .any ops.toArray q q'.1)),q'.2 h')∧AM P E ops KK fuel (L.setIfInBounds q true) (TS.filter fun q'=>!(waitsB .any ops.toArray q q'.1)) ρ' h') [o] ρ h:=fun o s' h1 h2 h3 h4 h5=>by
    classical
    refine mixL_lw (Q:=fun T' s1=>if T'.all (fun q=>q.2.isEmpty)=true∧Eqv s1 (tailS prs (L.setIfInBounds q true) s0) then some () else none) (r:=()) (n:=n) (np:=np) (nw:=nw) hC hsel hle hN hr hm hn hnp hnw hio hTO (mixL_tail h1 h2 hT h3 h4 fun T' hT'=>by rw [if_pos ⟨hT',h5⟩]) ?_
    intro T' TS' s1 ρ' h' F' ι' a1 a2 a3 a4 a5 a6 a7 a8 a9 a10
    split at a10
    ·rename_i hh
     exact ih _ T' TS' ρ' h' F' ι' hq3 hh.1 a1 a2 (hh.2.rel a3) (hh.2.hp a4) a8 (tok_nil a9 hh.1)
    ·cases a10
   obtain ⟨a,b,tt,x,o1,o2,o3,o4,o5,o6,o7,o8,o9,o10,o11,o12,o13,o14,o15,o16,o17⟩:=(hok p hp).out
   rcases hq2 with ⟨⟨rfl,ha⟩,hb⟩ | ⟨⟨rfl,ha⟩,hb⟩
   ·have he:=alloc_eqv hok hp hts hnd hix ho hs ha hb
    rw [o13] at he
    exact key a ((((tailS prs L s0).purge p.t).make p.t (.cells p.T (tt.zv.cells.toList.map ofVal))).set p.t (.op p.t 0)) o1 o5 rfl (fun k=>stepM_alloc o3 o4 o9 o15 o16) he
   ·obtain ⟨e1,e2,e3⟩:=store_eqv hp hts hnd hix ho ha hb
    have hx:g (tailS prs L s0) x=g s0 x:=by
     cases x with
     | tmp v =>
      have hv:=o17 v rfl
      have:(prs.any fun p=>p.t == v && L[p.ia]? == some true)=false:=by
       rw [List.any_eq_false]
       intro p' hp' h
       simp only [Bool.and_eq_true,beq_iff_eq] at h
       exact hv (hts ▸ h.1 ▸ List.mem_map_of_mem hp')
      simp only [g,tailS,this,cond_false]
     | _=>rfl
    have hzl:p.z.length=tt.size:=by rw [o13,List.length_map,o12]
    exact key b ((tailS prs L s0).upd p.t (.cells p.T p.l)) o2 o8 rfl (fun k=>stepM_store o6 o7 o9 (Nat.le_of_lt (Nat.lt_of_lt_of_le (Nat.mod_lt _ (by decide)) (by decide))) e1 e2 (by rw [hx]; exact (cellP_of o10).1) o11 hzl) e3
end
theorem mapM_all {α β:Type} {f:α→Option β}:∀ {l:List α} {ys:List β},l.mapM f=some ys→∀ y∈ys,∃ x∈l,f x=some y
 | [],ys,h,y,hy=>by
  simp at h
  subst h
  cases hy
 | a::l,ys,h,y,hy=>by
  rw [List.mapM_cons] at h
  obtain ⟨z,hz,h⟩:=Option.bind_eq_some_iff.1 h
  obtain ⟨zs,hzs,h⟩:=Option.bind_eq_some_iff.1 h
  cases h
  rcases List.mem_cons.1 hy with rfl | hy
  ·exact ⟨a,by simp,hz⟩
  ·obtain ⟨x,hx,h1⟩:=mapM_all hzs y hy
   exact ⟨x,by simp [hx],h1⟩
theorem dpurge_rd {F:Frz} {ι:Gh} {v:Value}:∀ {ts:List Nat} {d:D},RdV F ι d v→RdV F ι (dpurge d ts) v
 | [],_,h=>h
 | t::ts,d,h=>show RdV F ι (dpurge (d.purge t) ts) v from dpurge_rd (h.purge (t:=t) fun _ _=>rfl)
theorem tail_start {prs:List TPr} {L:Array Bool} {s:St} (h:(prs.all fun p=>L[p.ia]? == some false && L[p.ib]? == some false)=true):tailS prs L s=s:=by
 have h1:∀ (l:List TPr),(l.all fun p=>L[p.ia]? == some false && L[p.ib]? == some false)=true→(l.filterMap fun p=>cond (L[p.ia]? == some true) (some (p.t,OB.cells p.T (cond (L[p.ib]? == some true) p.l p.z))) none)=[]∧∀ u,(l.any fun p=>p.t == u && L[p.ia]? == some true)=false:=by
  intro l
  induction l with
  | nil=>exact fun _=>⟨rfl,fun u=>rfl⟩
  | cons p l ih =>
   intro h
   simp only [List.all_cons,Bool.and_eq_true,beq_iff_eq] at h
   obtain ⟨⟨a,b⟩,c⟩:=h
   obtain ⟨i1,i2⟩:=ih c
   have e:(some false == some true)=false:=rfl
   refine ⟨?_,fun u=>?_⟩
   ·rw [List.filterMap_cons,a,e,cond_false,i1]
   ·rw [List.any_cons,i2,a,e,Bool.and_false,Bool.false_or]
 obtain ⟨h2,h3⟩:=h1 prs h
 unfold tailS
 rw [h2]
 simp only [h3,cond_false,List.nil_append]
section
variable {P:Program} {C:Cx} {R:Type} {F F' F1 F0:Frz} {ι ι':Gh} {s s':St} {ρ:List Value} {d:D} {v:Value} {t:Nat} {L0:List Blk} {r:R} {dst:Option Tmp} {ty:TypeId} {p:String} {af:Array Edge} {gd:Option (Nat×Bool)} {h:Array Obj} {io:Nat→Value} {n np:Nat} {nw:Bool} {E:Env} {all rest:List Oper} {KK:List Value→Array Obj→Prop} {o:Oper}
theorem both_some {R:Type} {a b:Option R} {r:R} (h:both a b=some r):a=some r∧b=some r:=by
 unfold both at h
 split at h
 ·rename_i e
  exact ⟨h,e ▸ h⟩
 ·cases h
theorem evMixB_am {ops:List Oper} (hC:CxOK P C) (hsel:Region.noSelect ops.toArray=true) {k:St→Option R} (hk:∀ s' ρ' h' F' ι',F.le F'→(nw=false→F'.nid=F.nid)→Rel F' ι' s' ρ'→Hp h' F' (lv ι' s'.ow++L0)→s'.n=n→s'.np=np→s'.nw=nw→(∀ t,(np / 1000≤t∧t<np % 1000)→(ι' t).1=io t)→k s'=some r→KK ρ' h'):∀ (fuel:Nat) (sch:List (Bool×Nat)) (listed:Array Bool) (T:List (Nat×List Nat)) (TS:List (Nat×(Array Obj→Prop))) (s:St) (ρ:List Value) (h:Array Obj) (F1:Frz) (ι1:Gh),F.le F1→(nw=false→F1.nid=F.nid)→Rel F1 ι1 s ρ→Hp h F1 (lv ι1 s.ow++L0)→s.n=n→s.np=np→s.nw=nw→(∀ t,(np / 1000≤t∧t<np % 1000)→(ι1 t).1=io t)→TOK F1 ι1 s.ow T TS →
  evMixB C ops.toArray fuel sch listed T s k=some r→AM P E ops KK fuel listed TS ρ h:=by
 intro fuel
 induction fuel with
 | zero =>
  intro sch listed T TS s ρ h F1 ι1 hle hN hr hm hn hnp hnw hio hT h0
  cases sch with
  | nil =>
   unfold evMixB at h0
   cases hc:chk (Region.ready .any ops.toArray listed == []) with
   | false=>rw [hc] at h0; cases h0
   | true =>
    rw [hc] at h0
    have hc':Region.ready .any ops.toArray listed=[]:=by simpa [chk] using hc
    exact am_done hc' (hk s ρ h F1 ι1 hle hN hr hm hn hnp hnw hio h0)
  | cons a sch=>unfold evMixB at h0; cases h0
 | succ fuel ih =>
  intro sch listed T TS s ρ h F1 ι1 hle hN hr hm hn hnp hnw hio hT h0
  match sch,h0 with
  | [],h0 =>
   unfold evMixB at h0
   cases hc:chk (Region.ready .any ops.toArray listed == []) with
   | false=>rw [hc] at h0; cases h0
   | true =>
    rw [hc] at h0
    have hc':Region.ready .any ops.toArray listed=[]:=by simpa [chk] using hc
    exact am_done hc' (hk s ρ h F1 ι1 hle hN hr hm hn hnp hnw hio h0)
  | (true,i)::sch,h0 =>
   unfold evMixB at h0
   cases hc:chk (fireB ops.toArray listed i) with
   | false=>rw [hc] at h0; cases h0
   | true =>
    rw [hc] at h0
    simp only [cond_true] at h0
    simp only [chk,fireB,Bool.and_eq_true] at hc
    exact mixE_am hC hsel hle hN hr hm hn hnp hnw hio hT hc.1 hc.2 h0 fun T TS s ρ h F1 ι1 g1 g2 g3 g4 g5 g6 g7 g8 g9 g10=>ih sch _ T TS s ρ h F1 ι1 g1 g2 g3 g4 g5 g6 g7 g8 g9 g10
  | (false,i)::sch,h0 =>
   unfold evMixB at h0
   cases hb:Nat.blt i 1000000 with
   | true =>
    rw [hb] at h0
    simp only [cond_true] at h0
    cases hc:chk (Region.ready .any ops.toArray listed == [i]) with
    | false=>rw [hc] at h0; cases h0
    | true =>
     rw [hc] at h0
     simp only [cond_true] at h0
     have hc':Region.ready .any ops.toArray listed=[i]:=by simpa [chk] using hc
     obtain ⟨o,ho,hl⟩:=mixL_lw hC hsel hle hN hr hm hn hnp hnw hio hT h0 fun T TS s ρ h F1 ι1 g1 g2 g3 g4 g5 g6 g7 g8 g9 g10=>ih sch _ T TS s ρ h F1 ι1 g1 g2 g3 g4 g5 g6 g7 g8 g9 g10
     exact am_step i ho hc' hl
   | false =>
    rw [hb] at h0
    simp only [cond_false] at h0
    split at h0
    ·rename_i j u hd
     cases hc:chk (Region.ready .any ops.toArray listed == [i % 1000000,j] || Region.ready .any ops.toArray listed == [j,i % 1000000]) with
     | false=>rw [hc] at h0; cases h0
     | true =>
      rw [hc] at h0
      simp only [cond_true] at h0
      obtain ⟨hA,hB⟩:=both_some h0
      have hc':Region.ready .any ops.toArray listed=[i % 1000000,j]∨Region.ready .any ops.toArray listed=[j,i % 1000000]:=by simpa [chk] using hc
      have l1:=mixL_lw hC hsel hle hN hr hm hn hnp hnw hio hT hA fun T TS s ρ h F1 ι1 g1 g2 g3 g4 g5 g6 g7 g8 g9 g10=>ih _ _ T TS s ρ h F1 ι1 g1 g2 g3 g4 g5 g6 g7 g8 g9 g10
      have l2:=mixL_lw hC hsel hle hN hr hm hn hnp hnw hio hT hB fun T TS s ρ h F1 ι1 g1 g2 g3 g4 g5 g6 g7 g8 g9 g10=>ih _ _ T TS s ρ h F1 ι1 g1 g2 g3 g4 g5 g6 g7 g8 g9 g10
      refine am_steps (by rcases hc' with e | e <;> rw [e] <;> simp) fun q hq=>?_
      have:q=i % 1000000∨q=j:=by
       rcases hc' with e | e <;> rw [e] at hq <;> simp at hq
       ·exact hq
       ·exact hq.symm
      rcases this with rfl | rfl
      ·exact l1
      ·exact l2
    ·unfold evTail at h0
     dsimp only at h0
     split at h0
     ·rename_i prs hprs
      generalize hts0:tailTs ops.toArray (tailPairs sch)=ts at h0 hprs
      cases hc1:(nodupB ts && tailO ts s.ow && T.all (fun q=>q.2.isEmpty)) with
      | false=>rw [hc1] at h0; cases h0
      | true =>
       rw [hc1,cond_true] at h0
       cases hc2:chk (tailB ops.toArray prs (fuel+1) listed && nodupB (prs.flatMap fun p=>[p.ia,p.ib]) && (prs.map (·.t) == ts) && prs.all (fun p=>listed[p.ia]? == some false && listed[p.ib]? == some false)) with
       | false=>rw [hc2] at h0; cases h0
       | true =>
        rw [hc2,cond_true] at h0
        simp only [chk,Bool.and_eq_true] at hc1 hc2
        obtain ⟨⟨q1,q2⟩,q3⟩:=hc1
        obtain ⟨⟨⟨p1,p2⟩,p3⟩,p4⟩:=hc2
        have p3:prs.map (·.t)=ts:=by simpa using p3
        have hst:=tail_start (s:=⟨s.n,s.np,s.nw,fun u=>dpurge (s.sl u) ts,s.ow⟩) p4
        refine tail_am (F:=F) (n:=n) (np:=np) (nw:=nw) (io:=io) (L0:=L0) (s0:=⟨s.n,s.np,s.nw,fun u=>dpurge (s.sl u) ts,s.ow⟩) hC hsel (fun p hp=>?_) p3 (nodupB_nodup q1) (nodupB_nodup p2) q2 (fun u t ht=>dpurge_purge ht) hn hnp hnw (fun ρ' h' F' ι' a1 a2 a3 a4 a5=>hk _ ρ' h' F' ι' a1 a2 a3 a4 hn hnp hnw a5 h0) (fuel+1) listed T TS ρ h F1 ι1 p1 q3 hle hN (by rw [hst]; exact ⟨hr.len,fun i=>dpurge_rd (hr.sl i),hr.ow,hr.nd⟩) (by rw [hst]; exact hm) hio (by rw [hst]; exact hT)
        obtain ⟨q,_,hq⟩:=mapM_all hprs p hp
        exact mkTPr_ok hq
     ·cases h0
theorem evMixB_tw {f:FuncId} {RR:Value→Array Obj→Prop} {Ki:List Item} {id:Nat} {ops:Array Oper} {sch:List (Bool×Nat)} {k:St→Option R} (hC:CxOK P C) (hmo:P.follows .mixedOrders=true) (hi:Inv F0 io L0 n np nw s ρ h) (hs:chk (Region.noSelect ops)=true) (h0:evMixB C ops ops.size sch (Array.replicate ops.size false) [] s k=some r) (hk:∀ s' ρ' h',Inv F0 io L0 n np nw s' ρ' h'→k s'=some r→TW P f E RR Ki ρ' h'):TW P f E RR (.code (.region id ops true)::Ki) ρ h:=by
 obtain ⟨⟨F,ι,hF,hN,hr,hm,hι⟩,hn,hnp,hnw⟩:=hi
 simp only [chk] at hs
 have e:ops=ops.toList.toArray:=by simp
 have hsel':Region.noSelect ops.toList.toArray=true:=by rw [← e]; exact hs
 rw [e]
 refine tw_mixed hmo fun KK hK=>?_
 exact evMixB_am (F:=F) (ops:=ops.toList) hC hsel' (fun s2 ρ2 h2 F2 ι2 g1 g2 g3 g4 g5 g6 g7 g8 g9=>hK _ _ (hk s2 ρ2 h2 ⟨⟨F2,ι2,hF.trans g1,fun e=>(g2 e).trans (hN e),g3,g4,g8⟩,g5,g6,g7⟩ g9)) ops.toList.length sch (Array.replicate ops.toList.length false) [] [] s ρ h F ι (.refl F) (fun _=>rfl) hr hm hn hnp hnw hι .nil (by simpa using h0)
theorem evMix_tw {f:FuncId} {RR:Value→Array Obj→Prop} {Ki:List Item} {id:Nat} {ops:Array Oper} {sch:List (Bool×Nat)} {k:St→Option R} (hC:CxOK P C) (hmo:P.follows .mixedOrders=true) (hi:Inv F0 io L0 n np nw s ρ h) (hs:chk (Region.noSelect ops && Nat.ble sch.length ops.size)=true) (h0:evMix C ops sch (Array.replicate ops.size false) [] s k=some r) (hk:∀ s' ρ' h',Inv F0 io L0 n np nw s' ρ' h'→k s'=some r→TW P f E RR Ki ρ' h'):TW P f E RR (.code (.region id ops true)::Ki) ρ h:=by
 obtain ⟨⟨F,ι,hF,hN,hr,hm,hι⟩,hn,hnp,hnw⟩:=hi
 simp only [chk,Bool.and_eq_true,Nat.ble_eq] at hs
 have e:ops=ops.toList.toArray:=by simp
 have hsel':Region.noSelect ops.toList.toArray=true:=by rw [← e]; exact hs.1
 rw [e]
 refine tw_mixed hmo fun KK hK=>?_
 exact evMix_am (F:=F) (ops:=ops.toList) hC hsel' sch ops.toList.length (Array.replicate ops.toList.length false) [] [] s ρ h F ι (by simpa using hs.2) (.refl F) (fun _=>rfl) hr hm hn hnp hnw hι .nil (by simpa using h0) fun s2 ρ2 h2 F2 ι2 g1 g2 g3 g4 g5 g6 g7 g8 g9=>hK _ _ (hk s2 ρ2 h2 ⟨⟨F2,ι2,hF.trans g1,fun e=>(g2 e).trans (hN e),g3,g4,g8⟩,g5,g6,g7⟩ g9)
variable {f:FuncId} {RR:Value→Array Obj→Prop} {L:Nat→Option LEnt}
def Cont (P:Program) (f:FuncId) (E:Env) (RR:Value→Array Obj→Prop):Xt→List Item→List Value→Array Obj→Prop
 | .nm,K,ρ,h=>TW P f E RR K ρ h
 | .ex id,K,ρ,h=>∃ K',exitTo id K=some K'∧TW P f E RR K' ρ h
 | .rt,_,ρ,h=>∀ K,TW P f E RR (.code .ret::K) ρ h
 | .gt l,K,ρ,h=>∃ K',gotoIn l K=some K'∧TW P f E RR K' ρ h
def LoopsOK (Q:Nat→Code→Prop):Code→Nat→Prop
 | .seq a b,i=>LoopsOK Q a i∧LoopsOK Q b i
 | .cond _ a b,i=>LoopsOK Q a i∧LoopsOK Q b i
 | .block id c,_=>LoopsOK Q c id∧Q (BK+id) (.block id c)
 | .scope c,i=>LoopsOK Q c i
 | .loop c,i=>Q i (.loop c)
 | _,_=>True
def COK (P:Program) (n np:Nat) (nw:Bool) (le:LEnt) (c:Code):Prop :=
 ∀ (f:FuncId) (E:Env) (RR:Value→Array Obj→Prop) (F0:Frz) (io:Nat→Value) (L0:List Blk) (x:Tup le.pin) (y:SumT (le.exits.map (·.2))) (ρ:List Value) (h:Array Obj) (K:List Item),le.m x=some y→Inv F0 io L0 n np nw (mkP n np nw le.pin x) ρ h→(∀ ρ' h',Inv F0 io L0 n np nw (outS n np nw le.exits y).2 ρ' h'→Cont P f E RR (outS n np nw le.exits y).1 K ρ' h')→TW P f E RR (.code c::K) ρ h
def LOK (P:Program) (n np:Nat) (nw:Bool) (le:LEnt) (c:Code):Prop:=COK P n np nw le (.loop c)
theorem Inv.unD {p:Pt} {x:Tup p} (hi:Inv F0 io L0 n np nw s ρ h) (hu:unD s p=some x):Inv F0 io L0 n np nw (mkP n np nw p x) ρ h:=by
 obtain ⟨⟨F,ι,hF,hN,hr,hm,hι⟩,rfl,rfl,rfl⟩:=hi
 obtain ⟨h1,h2,h3⟩:=unD_sound hr hm hu
 exact ⟨⟨F,_,hF,hN,h1,h2,fun t ht=>(h3 t ht).trans (hι t ht)⟩,rfl,rfl,rfl⟩
theorem exit_code {id:Nat} {c:Code} {K:List Item}:exitTo id (.code c::K)=exitTo id K:=by simp [exitTo]
theorem exit_loop {id:Nat} {c:Code} {K:List Item}:exitTo id (.inLoop c::K)=exitTo id K:=by simp [exitTo]
theorem Cont.code {c:Code} {e:Xt} {K:List Item} {h':Array Obj} (h:Cont P f E RR e K ρ h') (he:e ≠ .nm):Cont P f E RR e (.code c::K) ρ h':=by
 cases e with
 | nm=>exact absurd rfl he
 | ex id=>obtain ⟨K',h1,h2⟩:=h; exact ⟨K',by rw [exit_code]; exact h1,h2⟩
 | rt=>exact h
 | gt l=>obtain ⟨K',h1,h2⟩:=h; exact ⟨K',by simp only [gotoIn]; exact h1,h2⟩
theorem Cont.loop {c:Code} {e:Xt} {K:List Item} {h':Array Obj} (h:Cont P f E RR e K ρ h') (he:e ≠ .nm):Cont P f E RR e (.inLoop c::K) ρ h':=by
 cases e with
 | nm=>exact absurd rfl he
 | ex id=>obtain ⟨K',h1,h2⟩:=h; exact ⟨K',by rw [exit_loop]; exact h1,h2⟩
 | rt=>exact h
 | gt l=>obtain ⟨K',h1,h2⟩:=h; exact ⟨K',by simp only [gotoIn]; exact h1,h2⟩
theorem exit_scope {id:Nat} {c:Code} {K:List Item}:exitTo id (.inScope c::K)=exitTo id K:=by simp [exitTo]
theorem Cont.scope {c:Code} {e:Xt} {K:List Item} {h':Array Obj} (he:∀ l,e ≠ .gt l) (h:Cont P f E RR e K ρ h'):Cont P f E RR e (.inScope c::K) ρ h':=by
 cases e with
 | nm=>exact tw_inScope h
 | ex id=>obtain ⟨K',h1,h2⟩:=h; exact ⟨K',by rw [exit_scope]; exact h1,h2⟩
 | rt=>exact h
 | gt l=>exact absurd rfl (he l)
theorem outK_eq {k:Xt→St→Option R}:∀ {xs:List (Xt×Pt)} {y:SumT (xs.map (·.2))},outK n np nw k xs y=k (outS n np nw xs y).1 (outS n np nw xs y).2
 | [],y=>y.elim
 | [p],y=>rfl
 | p::q::ps, .inl y=>rfl
 | p::q::ps, .inr y=>outK_eq (xs:=q::ps) (y:=y)
theorem evC0_sound {G:Code→Nat→Nat→St→(Xt→St→Option R)→Option R} (hC:CxOK P C) (hmo:P.follows .mixedOrders=true) (hG:∀ (c:Code) (l i:Nat) (s:St) (k:Xt→St→Option R) (ρ:List Value) (h:Array Obj) (K:List Item),G c l i s k=some r→LoopsOK (fun i c=>∀ le,L i=some le→COK P n np nw le c) c i→Inv F0 io L0 n np nw s ρ h→(∀ e s' ρ' h',Inv F0 io L0 n np nw s' ρ' h'→k e s'=some r→Cont P f E RR e K ρ' h')→Cont P f E RR (.gt l) (.inScope c::K) ρ h):∀ (c:Code) (i:Nat) (s:St) (k:Xt→St→Option R) (ρ:List Value) (h:Array Obj) (K:List Item),evC0 C L G c i s k=some r→LoopsOK (fun i c=>∀ le,L i=some le→COK P n np nw le c) c i→Inv F0 io L0 n np nw s ρ h→(∀ e s' ρ' h',Inv F0 io L0 n np nw s' ρ' h'→k e s'=some r→Cont P f E RR e K ρ' h')→TW P f E RR (.code c::K) ρ h
 | .skip,i,s,k,ρ,h,K,h0,_,hi,hk=>tw_skip (hk .nm s ρ h hi h0)
 | .region id ops drawn,i,s,k,ρ,h,K,h0,_,hi,hk=>by
  simp only [evC0] at h0
  have e:ops=ops.toList.toArray:=by simp
  split at h0
  ·cases h0
  rename_i s0 hs0
  obtain ⟨⟨F1,ι1,hF1,hN1,hr1,hm1,hι1⟩,hn1,hnp1,hnw1⟩:=hi
  obtain ⟨F2,g1,g2,g3,g4,g5,g6,g7,_⟩:=freezeAll_seq hr1 hm1 hs0
  have hi:Inv F0 io L0 n np nw s0 ρ h:=⟨⟨F2,ι1,hF1.trans g1,fun e=>g2.trans (hN1 e),g3,g4,hι1⟩,g5.trans hn1,g6.trans hnp1,g7.trans hnw1⟩
  clear hr1 hm1 g1 g2 g3 g4 g5 g6 g7 hs0 hn1 hnp1 hnw1 hN1 hF1 hι1
  revert hi h0
  generalize s0=s
  intro h0 hi
  cases drawn with
  | false =>
   simp only [cond_false] at h0
   rw [e]
   exact tw_region fun KK hK=>evOps_lw hC _ s ρ h hi h0 fun s' ρ' h' hi' h1=>hK _ _ (hk .nm s' ρ' h' hi' h1)
  | true =>
   simp only [cond_true] at h0
   cases hq:ops.toList.all (quietB C) with
   | true =>
    rw [hq] at h0
    simp only [cond_true] at h0
    cases hB:chk (Region.lexB .any ops) with
    | false=>rw [hB] at h0; cases h0
    | true =>
     rw [hB] at h0
     simp only [cond_true] at h0
     unfold chk at hB
     obtain ⟨⟨F,ι,hF,hN,hr,hm,hι⟩,hn,hnp,hnw⟩:=hi
     rw [e]
     exact tw_quiet (SR F ι s.ow L0) hmo (by simpa using hB) hm fun Kq hK=>evOps_qw hC hm.gl _ s ρ hr rfl hn hnp hnw h0 fun s' ρ' hr' how' hn' hnp' hnw' h1=>hK _ fun h' hS=>hk .nm s' ρ' h' ⟨⟨F,ι,hF,hN,hr',by rw [how']; exact hS,hι⟩,hn',hnp',hnw'⟩ h1
   | false =>
    rw [hq] at h0
    simp only [cond_false] at h0
    split at h0
    ·exact evHeld_tw hC hmo hi h0 fun s' ρ' h' hi' h1=>hk .nm s' ρ' h' hi' h1
    ·rename_i sch hsch
     cases hbr:(sch.any fun q=>Nat.ble 1000000 q.2) with
     | true =>
      rw [hbr] at h0
      simp only [cond_true] at h0
      cases hs:chk (Region.noSelect ops) with
      | false=>rw [hs] at h0; cases h0
      | true =>
       rw [hs] at h0
       exact evMixB_tw hC hmo hi hs h0 fun s' ρ' h' hi' h1=>hk .nm s' ρ' h' hi' h1
     | false =>
     rw [hbr] at h0
     simp only [cond_false] at h0
     cases hs:chk (Region.noSelect ops && Nat.ble sch.length ops.size) with
     | false=>rw [hs] at h0; cases h0
     | true =>
      rw [hs] at h0
      exact evMix_tw hC hmo hi hs h0 fun s' ρ' h' hi' h1=>hk .nm s' ρ' h' hi' h1
 | .seq a b,i,s,k,ρ,h,K,h0,hl,hi,hk=>by
  simp only [evC0] at h0
  refine tw_seq (evC0_sound hC hmo hG a i s _ ρ h (.code b::K) h0 hl.1 hi fun e s' ρ' h' hi' h1=>?_)
  cases e with
  | nm=>exact evC0_sound hC hmo hG b i s' k ρ' h' K h1 hl.2 hi' hk
  | ex id=>exact Cont.code (e := .ex id) (hk (.ex id) s' ρ' h' hi' h1) (by simp)
  | rt=>exact Cont.code (e := .rt) (hk .rt s' ρ' h' hi' h1) (by simp)
  | gt l=>exact Cont.code (e := .gt l) (hk (.gt l) s' ρ' h' hi' h1) (by simp)
 | .cond x a b,i,s,k,ρ,h,K,h0,hl,hi,hk=>by
  simp only [evC0] at h0
  split at h0
  ·rename_i t
   split at h0
   ·rename_i c hs
    have hv:=hi.bool hs
    have hi':=hi.reset hs
    cases c with
    | true=>exact tw_cond_t hv (evC0_sound hC hmo hG a i _ k ρ h K h0 hl.1 hi' hk)
    | false=>exact tw_cond_f hv (evC0_sound hC hmo hG b i _ k ρ h K h0 hl.2 hi' hk)
   ·cases h0
  ·rename_i c
   cases c with
   | true=>exact tw_cond_t rfl (evC0_sound hC hmo hG a i s k ρ h K h0 hl.1 hi hk)
   | false=>exact tw_cond_f rfl (evC0_sound hC hmo hG b i s k ρ h K h0 hl.2 hi hk)
  ·cases h0
 | .block id c,i,s,k,ρ,h,K,h0,hl,hi,hk=>by
  simp only [evC0] at h0
  split at h0
  ·rename_i le hle
   split at h0
   ·cases h0
   ·rename_i x hx
    obtain ⟨y,hy,h0⟩:=Option.bind_eq_some_iff.1 h0
    have hs:=hi.hn
    have hs':=hi.hnp
    have hs'':=hi.hnw
    rw [outK_eq,hs,hs',hs''] at h0
    exact hl.2 le hle f E RR F0 io L0 x y ρ h K hy (hi.unD hx) fun ρ' h' hi'=>hk _ _ ρ' h' hi' h0
  ·refine tw_block (evC0_sound hC hmo hG c id s _ ρ h (.inBlock id::K) h0 hl.1 hi fun e s' ρ' h' hi' h1=>?_)
   cases e with
   | nm=>exact tw_inBlock (hk .nm s' ρ' h' hi' h1)
   | ex j =>
    simp only at h1
    cases hj:(j == id) with
    | true =>
     rw [hj] at h1
     have:j=id:=by simpa using hj
     subst this
     exact ⟨K,by simp [exitTo],hk .nm s' ρ' h' hi' h1⟩
    | false =>
     rw [hj] at h1
     obtain ⟨K',h2,h3⟩:=hk (.ex j) s' ρ' h' hi' h1
     have:¬ id=j:=fun e=>by subst e; simp at hj
     exact ⟨K',by simp [exitTo,this]; exact h2,h3⟩
   | rt=>exact hk .rt s' ρ' h' hi' h1
   | gt l=>obtain ⟨K',h2,h3⟩:=hk (.gt l) s' ρ' h' hi' h1; exact ⟨K',by simp only [gotoIn]; exact h2,h3⟩
 | .loop c,i,s,k,ρ,h,K,h0,hl,hi,hk=>by
  simp only [evC0] at h0
  split at h0
  ·cases h0
  ·rename_i le hle
   split at h0
   ·cases h0
   ·rename_i x hx
    obtain ⟨y,hy,h0⟩:=Option.bind_eq_some_iff.1 h0
    have hs:=hi.hn
    have hs':=hi.hnp
    have hs'':=hi.hnw
    rw [outK_eq,hs,hs',hs''] at h0
    exact hl le hle f E RR F0 io L0 x y ρ h K hy (hi.unD hx) fun ρ' h' hi'=>hk _ _ ρ' h' hi' h0
 | .exit id,i,s,k,ρ,h,K,h0,_,hi,hk=>by
  obtain ⟨K',h1,h2⟩:=hk (.ex id) s ρ h hi h0
  exact tw_exit h1 h2
 | .ret,i,s,k,ρ,h,K,h0,_,hi,hk=>hk .rt s ρ h hi h0 K
 | .rangeFunc _ _ _ _,_,_,_,_,_,_,h0,_,_,_=>by cases h0
 | .scope c,i,s,k,ρ,h,K,h0,hl,hi,hk=>by
  simp only [evC0] at h0
  refine tw_scope (evC0_sound hC hmo hG c i s _ ρ h (.inScope c::K) h0 hl hi fun e s' ρ' h' hi' h1=>?_)
  cases e with
  | gt l=>exact hG c l i s' k ρ' h' K h1 hl hi' hk
  | nm=>exact (hk .nm s' ρ' h' hi' h1).scope (by simp)
  | ex id=>exact (hk (.ex id) s' ρ' h' hi' h1).scope (by simp)
  | rt=>exact (hk .rt s' ρ' h' hi' h1).scope (by simp)
 | .label _,_,s,k,ρ,h,K,h0,_,hi,hk=>tw_label (hk .nm s ρ h hi h0)
 | .goto l,i,s,k,ρ,h,K,h0,_,hi,hk=>by
  obtain ⟨K',h1,h2⟩:=hk (.gt l) s ρ h hi h0
  exact tw_goto h1 h2
 | .refuse _,_,_,_,_,_,_,h0,_,_,_=>by cases h0
theorem findLabel_loops {Q:Nat→Code→Prop} {l:Nat}:∀ {c rest:Code} {i:Nat},findLabel c l=some rest→LoopsOK Q c i→LoopsOK Q rest i
 | .seq a b,rest,i,h,hl=>by
  simp only [findLabel] at h
  split at h
  ·rename_i ra ha
   cases h
   exact ⟨findLabel_loops ha hl.1,hl.2⟩
  ·exact findLabel_loops h hl.2
 | .label l',rest,i,h,_=>by
  simp only [findLabel] at h
  split at h
  ·cases h; trivial
  ·cases h
 | .skip,_,_,h,_=>by cases h
 | .region _ _ _,_,_,h,_=>by cases h
 | .cond _ _ _,_,_,h,_=>by cases h
 | .block _ _,_,_,h,_=>by cases h
 | .loop _,_,_,h,_=>by cases h
 | .rangeFunc _ _ _ _,_,_,h,_=>by cases h
 | .exit _,_,_,h,_=>by cases h
 | .scope _,_,_,h,_=>by cases h
 | .goto _,_,_,h,_=>by cases h
 | .ret,_,_,h,_=>by cases h
 | .refuse _,_,_,h,_=>by cases h
theorem evG_sound (hC:CxOK P C) (hmo:P.follows .mixedOrders=true):∀ (m:Nat) (c:Code) (l i:Nat) (s:St) (k:Xt→St→Option R) (ρ:List Value) (h:Array Obj) (K:List Item),evG C L m c l i s k=some r→LoopsOK (fun i c=>∀ le,L i=some le→COK P n np nw le c) c i→Inv F0 io L0 n np nw s ρ h→(∀ e s' ρ' h',Inv F0 io L0 n np nw s' ρ' h'→k e s'=some r→Cont P f E RR e K ρ' h')→Cont P f E RR (.gt l) (.inScope c::K) ρ h
 | 0,_,_,_,_,_,_,_,_,h0,_,_,_=>by cases h0
 | m+1,c,l,i,s,k,ρ,h,K,h0,hl,hi,hk=>by
  simp only [evG] at h0
  split at h0
  ·rename_i rest hf
   refine ⟨.code rest :: .inScope c::K,by simp only [gotoIn,hf],evC0_sound hC hmo (evG_sound hC hmo m) rest i s _ ρ h (.inScope c::K) h0 (findLabel_loops hf hl) hi fun e s' ρ' h' hi' h1=>?_⟩
   cases e with
   | gt l'=>exact evG_sound hC hmo m c l' i s' k ρ' h' K h1 hl hi' hk
   | nm=>exact (hk .nm s' ρ' h' hi' h1).scope (by simp)
   | ex id=>exact (hk (.ex id) s' ρ' h' hi' h1).scope (by simp)
   | rt=>exact (hk .rt s' ρ' h' hi' h1).scope (by simp)
  ·rename_i hf
   obtain ⟨K',h1,h2⟩:=hk (.gt l) s ρ h hi h0
   exact ⟨K',by simp only [gotoIn,hf]; exact h1,h2⟩
theorem evC_sound (hC:CxOK P C) (hmo:P.follows .mixedOrders=true) (c:Code) (i:Nat) (s:St) (k:Xt→St→Option R) (ρ:List Value) (h:Array Obj) (K:List Item) (h0:evC C L c i s k=some r) (hl:LoopsOK (fun i c=>∀ le,L i=some le→COK P n np nw le c) c i) (hi:Inv F0 io L0 n np nw s ρ h) (hk:∀ e s' ρ' h',Inv F0 io L0 n np nw s' ρ' h'→k e s'=some r→Cont P f E RR e K ρ' h'):TW P f E RR (.code c::K) ρ h :=
 evC0_sound hC hmo (evG_sound hC hmo 8) c i s k ρ h K h0 hl hi hk
theorem decOut_sound {e:Xt} (hi:Inv F0 io L0 n np nw s ρ h):∀ {xs:List (Xt×Pt)} {y:SumT (xs.map (·.2))},decOut e s xs=some y→(outS n np nw xs y).1=e∧Inv F0 io L0 n np nw (outS n np nw xs y).2 ρ h
 | [],y,_=>y.elim
 | [p],y,h0=>by
  simp only [decOut] at h0
  cases hd:decide (p.1=e) with
  | false=>rw [hd] at h0; cases h0
  | true =>
   rw [hd] at h0
   exact ⟨(by simpa using hd:p.1=e),hi.unD h0⟩
 | p::q::ps,y,h0=>by
  simp only [decOut] at h0
  cases hd:decide (p.1=e) with
  | false =>
   rw [hd] at h0
   simp only [cond_false] at h0
   split at h0
   ·rename_i z hz
    cases h0
    exact decOut_sound hi (xs:=q::ps) hz
   ·cases h0
  | true =>
   rw [hd] at h0
   simp only [cond_true] at h0
   split at h0
   ·rename_i z hz
    cases h0
    exact ⟨(by simpa using hd:p.1=e),hi.unD hz⟩
   ·split at h0
    ·rename_i z hz
     cases h0
     exact decOut_sound hi (xs:=q::ps) hz
    ·cases h0
theorem loop_ok {le:LEnt} {c:Code} {body:Tup le.pin→Option (Stp (Tup le.pin) (SumT (le.exits.map (·.2))))} (hC:CxOK P C) (hmo:P.follows .mixedOrders=true) (hl:LoopsOK (fun i c=>∀ le,L i=some le→COK P n np nw le c) c 0) (hb:∀ x,evRound C L c n np nw le.pin le.exits x=body x) (hm:∀ x y,le.m x=some y→LoopTo body x y):LOK P n np nw le c:=by
 intro f E RR F0 io L0 x y ρ h K hx hi hk
 have key:∀ x y,LoopTo body x y→∀ ρ h,Inv F0 io L0 n np nw (mkP n np nw le.pin x) ρ h→(∀ ρ' h',Inv F0 io L0 n np nw (outS n np nw le.exits y).2 ρ' h'→Cont P f E RR (outS n np nw le.exits y).1 K ρ' h')→TW P f E RR (.code c :: .inLoop c::K) ρ h:=by
  intro x y hto
  induction hto with
  | @out x b h1 =>
   intro ρ h hi hk
   rw [← hb] at h1
   refine evC_sound (L:=L) hC hmo c 0 _ _ ρ h _ h1 hl hi fun e s' ρ' h' hi' h2=>?_
   unfold decRound at h2
   split at h2
   ·split at h2 <;> cases h2
   ·rename_i hne
    split at h2
    ·rename_i z hz
     cases h2
     obtain ⟨h3,h4⟩:=decOut_sound hi' hz
     have:=hk ρ' h' h4
     rw [h3] at this
     exact this.loop hne
    ·cases h2
  | @nx x z b h1 _ ih =>
   intro ρ h hi hk
   rw [← hb] at h1
   refine evC_sound (L:=L) hC hmo c 0 _ _ ρ h _ h1 hl hi fun e s' ρ' h' hi' h2=>?_
   unfold decRound at h2
   split at h2
   ·split at h2
    ·rename_i w hw
     cases h2
     exact tw_inLoop (ih ρ' h' (hi'.unD hw) hk)
    ·cases h2
   ·split at h2 <;> cases h2
 exact tw_loop0 (key x y (hm x y hx) ρ h hi hk)
end
end Go.Proofs.YtkmigbicabfodaaGreat.V
namespace Go.Proofs.YtkmigbicabfodaaGreat.V
open Go K
section
variable {P:Program} {C:Cx} {F F' F1 F0:Frz} {ι ι':Gh} {s s':St} {ρ:List Value} {d:D} {v:Value} {t:Nat} {L0:List Blk} {h:Array Obj} {L:Nat→Option LEnt}
def resOne (ρ:List Value):ResultVar→Sem Value
 | .tmp t=>pure (ρ.toArray.getD t undef)
 | .cell a t=>do loadVar t (← asAddr (ρ.toArray.getD a undef))
theorem resV_sound (hC:CxOK P C):∀ {rs:List ResultVar} {s s2:St} {ds:List D} {F:Frz},Rel F ι s ρ→Hp h F (lv ι s.ow++L0)→resV C s rs=some (s2,ds)→∃ F' vs,F.le F'∧F'.nid=F.nid∧Rel F' ι s2 ρ∧Hp h F' (lv ι s2.ow++L0)∧s2.n=s.n∧s2.np=s.np∧s2.nw=s.nw∧F2 (RdV F' ι) ds vs∧∀ w,w.heap=h→(rs.mapM (resOne ρ)).run P w = .ok vs w
 | [],s,s2,ds,F,hr,hm,h0=>by
  cases h0
  exact ⟨F,[], .refl F,rfl,hr,hm,rfl,rfl,rfl, .nil,fun w _=>by simp [List.mapM_nil]⟩
 | .tmp t::rs,s,s2,ds,F,hr,hm,h0=>by
  simp only [resV] at h0
  split at h0
  ·rename_i s' ds' hs'
   cases h0
   obtain ⟨F1,vs,h1,hn,h2,h3,h4,h5,h5',h6,h7⟩:=resV_sound hC hr hm hs'
   refine ⟨F1,ρ.getD t undef::vs,h1,hn,h2,h3,h4,h5,h5', .cons (h2.sl t) h6,fun w hw=>?_⟩
   rw [List.mapM_cons]
   simp [resOne,h7 w hw]
  ·cases h0
 | .cell t T::rs,s,s2,ds,F,hr,hm,h0=>by
  simp only [resV] at h0
  split at h0
  ·rename_i b off hsl
   split at h0
   ·rename_i T0 cs hlk
    split at h0
    ·rename_i s1 hs1
     split at h0
     ·rename_i i hi
      split at h0
      ·rename_i T1 cs1 hlk1
       obtain ⟨F1,h1,hn1,h2,h3,h4,h5,h5',_⟩:=freezeAll_seq hr hm hs1
       have hx:=hr.sl t
       rw [hsl] at hx
       obtain ⟨B,g1,hx⟩:=hx
       obtain ⟨B',vs1,g2,g3,g4⟩:=h2.look hlk1
       rw [g1] at g2
       cases g2
       have hxe:ev ρ (.tmp t) = .pointer (some ⟨B,0+off,none⟩):=by rw [Nat.zero_add]; exact hx
       obtain ⟨v,d,k1,k2,k3⟩:=rdCells_sound (P:=P) (s:=s1) (L0:=L0) (dst:=none) (ty:=0) (p := "") (af:=#[]) (gd:=none) (o:=0) (ti_ok hC.1 hi) g4 hxe (fun hh hm=>by
        obtain ⟨fz,_,this⟩:=(hm.own (B,vs1,BT.c T1) (List.mem_append_left _ (lv_mem hlk1 (by rw [g3]; simp)))).cells
        exact cells_of_row vs1 [] [] 0 (by simpa using this) rfl) h0
       split at k3
       ·rename_i s' ds' hs'
        cases k3
        obtain ⟨F2,vs,q1,qn,q2,q3,q4,q5,q5',q6,q7⟩:=resV_sound hC h2 h3 hs'
        refine ⟨F2,v::vs,h1.trans q1,qn.trans hn1,q2,q3,q4.trans h4,q5.trans h5,q5'.trans h5', .cons (k2.mono q1) q6,fun w hw=>?_⟩
        have hload:=(k1 h h3).out w hw
        have hxa:ρ.toArray.getD t undef = .pointer (some ⟨B,off,none⟩):=by
         have:=hxe
         simpa [ev] using this
        simp only [execOp,hxe,Instr.loadAt,Instr.sureAddr,Nat.zero_add] at hload
        have hl2:(loadVar T ⟨B,off,none⟩).run P w = .ok v w:=by
         simp only [Sem.run_bind,Sem.run_pure,Result.andThen_ok] at hload
         cases hres:(loadVar T ⟨B,off,none⟩).run P w with
         | ok a w' =>
          rw [hres] at hload
          simp only [Result.andThen_ok,Result.ok.injEq,Next.value.injEq] at hload
          rw [hload.1,hload.2]
         | halt x w'=>rw [hres] at hload; simp [Result.andThen] at hload
        rw [List.mapM_cons]
        simp [resOne,hxa,asAddr,hl2,q7 w hw]
       ·cases k3
      ·cases h0
     ·cases h0
    ·cases h0
   ·cases h0
  ·cases h0
theorem run_results {fn:Func} {vs:List Value} {w:World} (h:(fn.results.toList.mapM (resOne ρ)).run P w = .ok vs w):(results fn ρ.toArray).run P w = .ok (joinV vs) w:=by
 have e:results fn ρ.toArray=(do
   let vs ← fn.results.mapM (resOne ρ)
   pure (if h:vs.size=1 then vs[0] else .tuple vs)):=by
  unfold results
  congr 1
 rw [e,Array.mapM_eq_mapM_toList]
 simp only [map_eq_pure_bind,Sem.run_bind,Sem.run_pure,h,Result.andThen_ok]
 match vs with
 | []=>rfl
 | [v]=>rfl
 | a::b::vs=>rfl
theorem MP.congr {ρ ρ':Nat→Value}:∀ {p:Pt} {x:Tup p},(∀ i∈p.map (·.1),ρ' i=ρ i)→MP F ι ρ p x→MP F ι ρ' p x
 | [],_,_,_=>trivial
 | [q],x,h,hm=>by
  have:=h q.1 (by simp)
  show M1 _ _ _ _ _ _
  rw [this]
  exact hm
 | q::q'::ps,x,h,hm=>by
  refine ⟨?_,MP.congr (p:=q'::ps) (fun i hi=>h i (by simp at hi ⊢; exact .inr hi)) hm.2⟩
  rw [h q.1 (by simp)]
  exact hm.1
theorem frzB_sound {s0:St} (hr:Rel F ι s ρ) (hm:Hp h F (lv ι s.ow++L0)) (h0:frzB s t=some s0):∃ F',F.le F'∧F'.nid=F.nid∧Rel F' ι s0 ρ∧Hp h F' (lv ι s0.ow++L0)∧s0.n=s.n∧s0.np=s.np∧s0.nw=s.nw:=by
 unfold frzB at h0
 split at h0
 ·split at h0
  ·rename_i s1 hs1
   obtain ⟨F1,h1,hn1,h2,h3,h4,h5,h6,_⟩:=freezeAll_seq hr hm hs1
   split at h0
   ·rename_i T1 ds1 hlk1
    cases hp:ds1.all D.plain with
    | false=>rw [hp] at h0; cases h0
    | true =>
     rw [hp] at h0
     cases h0
     obtain ⟨F2,q1,q2,q3,q4,_⟩:=h2.freezeB h3 hlk1 hp
     exact ⟨F2,h1.trans q1,q2.trans hn1,q4,q3,h4,h5,h6⟩
   ·cases h0
  ·cases h0
 ·cases h0
theorem preFrz_sound:∀ {rs:List ResultVar} {ks:List (Nat×Kd)} {s s0:St} {F:Frz},Rel F ι s ρ→Hp h F (lv ι s.ow++L0)→preFrz s rs ks=some s0→∃ F',F.le F'∧F'.nid=F.nid∧Rel F' ι s0 ρ∧Hp h F' (lv ι s0.ow++L0)∧s0.n=s.n∧s0.np=s.np∧s0.nw=s.nw
 | rs,ks,s,s0,F,hr,hm,h0=>by
  unfold preFrz at h0
  split at h0
  ·split at h0
   ·split at h0
    ·rename_i s' hs'
     obtain ⟨F1,h1,h2,h3,h4,h5,h6,h7⟩:=frzB_sound hr hm hs'
     obtain ⟨F2,q1,q2,q3,q4,q5,q6,q7⟩:=preFrz_sound h3 h4 h0
     exact ⟨F2,h1.trans q1,q2.trans h2,q3,q4,q5.trans h5,q6.trans h6,q7.trans h7⟩
    ·cases h0
   ·exact preFrz_sound hr hm h0
  ·split at h0
   ·split at h0
    ·rename_i s' hs'
     obtain ⟨F1,h1,h2,h3,h4,h5,h6,h7,_⟩:=freezeAll_seq hr hm hs'
     obtain ⟨F2,q1,q2,q3,q4,q5,q6,q7⟩:=preFrz_sound h3 h4 h0
     exact ⟨F2,h1.trans q1,q2.trans h2,q3,q4,q5.trans h5,q6.trans h6,q7.trans h7⟩
    ·cases h0
   ·exact preFrz_sound hr hm h0
  ·exact preFrz_sound hr hm h0
  ·cases h0
   exact ⟨F, .refl F,rfl,hr,hm,rfl,rfl,rfl⟩
theorem fn_ok {f:FuncId} {fn:Func} {c:Code} {ent:Ent} (hC:CxOK P C) (hmo:P.follows .mixedOrders=true) (hf:P.funcs[f]?=some fn) (hb:fn.body=some c) (hp:(realK ent.pin == List.range (realK ent.pin).length && nodupB (ent.pin.map (·.1)) && ent.pin.all (fun q=>Nat.blt q.1 1000 || !(Nat.blt q.1 NT)))=true) (hn:(Nat.ble (realK ent.pin).length fn.ntmps && Nat.ble fn.ntmps 1000000)=true)
  (hl:LoopsOK (fun i c=>∀ le,L i=some le→COK P fn.ntmps ent.np (hasNT ent.pout) le c) c 0) (he:∀ x,evF C L fn c ent x=ent.m x):FnOK P f ent:=by
 simp only [Bool.and_eq_true,beq_iff_eq] at hp
 obtain ⟨⟨hp1,hp2⟩,hp3⟩:=hp
 simp only [Bool.and_eq_true,Nat.ble_eq] at hn
 obtain ⟨hn,hn2⟩:=hn
 intro x r hx F ι h L0 vargs hlen hMP hH
 refine ret_of_tw (ρ:=vargs++List.replicate (fn.ntmps - vargs.length) undef) hf hb rfl (fun E=>?_)
 have hnd:(ent.pin.map (·.1)).Nodup:=nodupB_nodup hp2
 have hMP':MP F ι (fun i=>(vargs++List.replicate (fn.ntmps - vargs.length) undef).getD i undef) ent.pin x:=hMP.congr fun i hi=>by
  obtain ⟨q,hq,rfl⟩:=List.mem_map.1 hi
  have h3:=List.all_eq_true.1 hp3 q hq
  simp only [List.getD_eq_getElem?_getD]
  by_cases hlt:q.1<vargs.length
  ·rw [List.getElem?_append_left hlt]
  ·rw [List.getElem?_append_right (by omega),List.getElem?_eq_none (l:=vargs) (by omega)]
   by_cases h1:q.1<1000
   ·exfalso
    have h4:q.1∈realK ent.pin:=List.mem_filter.2 ⟨List.mem_map.2 ⟨q,hq,rfl⟩,by rw [Nat.blt_eq]; exact h1⟩
    rw [hp1,List.mem_range] at h4
    omega
   ·have e1:Nat.blt q.1 1000=false:=by cases hb:Nat.blt q.1 1000 with
     | false=>rfl
     | true=>rw [Nat.blt_eq] at hb; omega
    rw [e1,Bool.false_or] at h3
    have h5:NT≤q.1:=by
     cases hb:Nat.blt q.1 NT with
     | true=>rw [hb] at h3; cases h3
     | false =>
      rcases Nat.lt_or_ge q.1 NT with h6 | h6
      ·rw [← Nat.blt_eq,hb] at h6; cases h6
      ·exact h6
    have h6:NT=1000000000:=rfl
    rw [List.getElem?_eq_none (by simp; omega)]
 have hi:Inv F (fun t=>(ι t).1) L0 fn.ntmps ent.np (hasNT ent.pout) (mkP fn.ntmps ent.np (hasNT ent.pout) ent.pin x) (vargs++List.replicate (fn.ntmps - vargs.length) undef) h:=⟨⟨F,ι, .refl F,fun _=>rfl,hMP'.rel hnd (by simp; omega),hH,fun _ _=>rfl⟩,rfl,rfl,rfl⟩
 rw [← he] at hx
 refine evC_sound (L:=L) hC hmo c 0 _ _ _ h [] hx hl hi fun e s' ρ' h' hi' h1=>?_
 unfold decRes at h1
 have hfin:(match preFrz s' fn.results.toList ent.pout with
  | some s=>match resV C s fn.results.toList with
   | some (s',ds)=>cond (realK ent.pout == List.range ds.length && ent.pout.all (fun q=>Nat.blt q.1 1000 || q.1 == NT || Nat.ble SB q.1 || (Nat.blt q.1 (1000+ent.np % 1000) && Nat.ble (1000+ent.np / 1000) q.1 && q.2.isRef))) (unD (endSt s' ds) ent.pout) none
   | none=>none
  | none=>none)=some r→∃ v,(∀ w,At E h' w→(results fn ρ'.toArray).run P w = .ok v w)∧Res F ι ent r L0 v h':=by
  intro h2
  split at h2
  ·rename_i s1 hs1
   obtain ⟨⟨F0,ι1,hF0,hN0,hr0,hm0,hι1⟩,hn0,hnp0,hnw0⟩:=hi'
   obtain ⟨F1,hF1,hN1,hr1,hm1,hn1,hnp1,hnw1⟩:=preFrz_sound hr0 hm0 hs1
   split at h2
   ·rename_i s2 ds hrs
    obtain ⟨F2,vs,q1,qn,q2,q3,q4,q5,q5',q6,q7⟩:=resV_sound hC hr1 hm1 hrs
    have hds:=forall2_len q6
    refine ⟨joinV vs,fun w hw=>run_results (q7 w hw.1),?_⟩
    cases hc:(realK ent.pout == List.range ds.length && ent.pout.all (fun q=>Nat.blt q.1 1000 || q.1 == NT || Nat.ble SB q.1 || (Nat.blt q.1 (1000+ent.np % 1000) && Nat.ble (1000+ent.np / 1000) q.1 && q.2.isRef))) with
    | false=>rw [hc] at h2; cases h2
    | true =>
     rw [hc] at h2
     simp only [cond_true] at h2
     simp only [Bool.and_eq_true,beq_iff_eq] at hc
     obtain ⟨hc1,hc2⟩:=hc
     have hsl:∀ k,RdV F2 ι1 ((endSt s2 ds).sl k) (vX vs ι1 k):=fun k=>by
      unfold endSt vX
      by_cases hk:k<1000
      ·have e1:Nat.blt k 1000=true:=by rw [Nat.blt_eq]; exact hk
       simp only [e1,cond_true,if_pos hk,List.getD_eq_getElem?_getD]
       cases hd:ds[k]? with
       | none=>trivial
       | some d =>
        obtain ⟨u,hu,hdu⟩:=forall2_get q6 hd
        rw [hu]
        exact hdu
      ·have e1:Nat.blt k 1000=false:=by cases hb:Nat.blt k 1000 with
        | false=>rfl
        | true=>rw [Nat.blt_eq] at hb; omega
       simp only [e1,cond_false,if_neg hk]
       by_cases hkN:k=NT∨SB≤k
       ·have e2:(k == NT || Nat.ble SB k)=true:=by
         rcases hkN with h | h
         ·simp [h]
         ·rw [Nat.ble_eq_true_of_le h,Bool.or_true]
        rw [e2,if_pos hkN,cond_true]
        trivial
       have e2:(k == NT || Nat.ble SB k)=false:=by
        have h1:¬ k=NT∧¬ SB≤k:=not_or.1 hkN
        rw [sb_ble (by omega),Bool.or_false]
        simpa using h1.1
       rw [e2,if_neg hkN,cond_false]
       unfold ioD
       split
       ·exact .of_w rfl
       ·rename_i T cs hlk
        obtain ⟨B,cv,g1,g2,g3⟩:=q2.look hlk
        exact .of_w ⟨B,g1,g1⟩
       ·exact .of_w rfl
       ·trivial
     obtain ⟨u1,u2⟩:=unD_vals (L0:=L0) ⟨hsl,q2.ow,q2.nd⟩ q3 h2
     have hkey:∀ q∈ent.pout,1000≤q.1→q.1≠NT→q.1<SB→(ent.np / 1000≤q.1 - 1000∧q.1 - 1000<ent.np % 1000)∧q.2.isRef=true:=fun q hq h3 h4 h4s=>by
      have h5:=List.all_eq_true.1 hc2 q hq
      have e1:Nat.blt q.1 1000=false:=by cases hb:Nat.blt q.1 1000 with
       | false=>rfl
       | true=>rw [Nat.blt_eq] at hb; omega
      have e2:(q.1 == NT)=false:=by simpa using h4
      rw [e1,e2,sb_ble h4s,Bool.false_or,Bool.false_or,Bool.false_or,Bool.and_eq_true,Bool.and_eq_true,Nat.blt_eq,Nat.ble_eq] at h5
      exact ⟨by omega,h5.2⟩
     refine ⟨F2,_,vs,(hF0.trans hF1).trans q1,fun e=>(qn.trans hN1).trans (hN0 e),by rw [hc1]; simp [hds],?_,rfl,u2,fun k hk h3 h4 h4s=>?_⟩
     ·refine u1.congr fun k hk=>?_
      unfold vX
      split
      ·rfl
      ·split
       ·rfl
       ·rename_i h3 h4
        obtain ⟨q,hq,rfl⟩:=List.mem_map.1 hk
        have h4':¬ q.1=NT∧¬ SB≤q.1:=not_or.1 h4
        rw [hι1 _ (hkey q hq (by omega) h4'.1 (by omega)).1]
     ·obtain ⟨q,hq,rfl⟩:=List.mem_map.1 hk
      have h5:=hkey q hq h3 h4 h4s
      rw [← hι1 _ h5.1,← MP.ref u1 hq h5.2]
      unfold vX
      rw [if_neg (by omega),if_neg (fun h=>h.elim h4 (fun h=>by omega))]
   ·cases h2
  ·cases h2
 cases e with
 | nm =>
  simp only at h1
  cases hr:fn.results.isEmpty with
  | false=>rw [hr] at h1; cases h1
  | true =>
   rw [hr] at h1
   simp only [cond_true] at h1
   obtain ⟨v,h2,h3⟩:=hfin h1
   exact tw_end_any hf h2 h3
 | ex id=>cases h1
 | gt l=>cases h1
 | rt =>
  simp only [cond_true] at h1
  obtain ⟨v,h2,h3⟩:=hfin h1
  exact fun K=>tw_ret_any hf h2 h3
end
end Go.Proofs.YtkmigbicabfodaaGreat.V
namespace Go.Proofs.YtkmigbicabfodaaGreat.V
open Go K
def loopsOf:Code→Nat→List (Nat×Code)
 | .seq a b,i=>loopsOf a i++loopsOf b i
 | .cond _ a b,i=>loopsOf a i++loopsOf b i
 | .block id c,_=>loopsOf c id
 | .scope c,i=>loopsOf c i
 | .loop c,i=>[(i,c)]
 | _,_=>[]
def blocksOf:Code→List (Nat×Code)
 | .seq a b=>blocksOf a++blocksOf b
 | .cond _ a b=>blocksOf a++blocksOf b
 | .block id c=>(BK+id, .block id c)::blocksOf c
 | .scope c=>blocksOf c
 | _=>[]
def loopAt (c:Code) (k:Nat):Code:=((loopsOf c 0).getD k (0, .skip)).2
theorem loops_iff {Q:Nat→Code→Prop}:∀ {c:Code} {i:Nat},(∀ p∈loopsOf c i,Q p.1 (.loop p.2))→(∀ p∈blocksOf c,Q p.1 p.2)→LoopsOK Q c i
 | .seq a b,i,h,g=>⟨loops_iff (fun p hp=>h p (List.mem_append_left _ hp)) fun p hp=>g p (List.mem_append_left _ hp),loops_iff (fun p hp=>h p (List.mem_append_right _ hp)) fun p hp=>g p (List.mem_append_right _ hp)⟩
 | .cond _ a b,i,h,g=>⟨loops_iff (fun p hp=>h p (List.mem_append_left _ hp)) fun p hp=>g p (List.mem_append_left _ hp),loops_iff (fun p hp=>h p (List.mem_append_right _ hp)) fun p hp=>g p (List.mem_append_right _ hp)⟩
 | .block id c,_,h,g=>⟨loops_iff (c:=c) h fun p hp=>g p (List.mem_cons_of_mem _ hp),g (BK+id, .block id c) List.mem_cons_self⟩
 | .scope c,_,h,g=>loops_iff (c:=c) h g
 | .loop c,i,h,_=>h (i,c) (by simp [loopsOf])
 | .skip,_,_,_=>trivial
 | .region _ _ _,_,_,_=>trivial
 | .rangeFunc _ _ _ _,_,_,_=>trivial
 | .exit _,_,_,_=>trivial
 | .label _,_,_,_=>trivial
 | .goto _,_,_,_=>trivial
 | .ret,_,_,_=>trivial
 | .refuse _,_,_,_=>trivial
def lookE:List (FuncId×Ent)→FuncId→Option Ent
 | [],_=>none
 | (g,e)::l,f=>cond (f == g) (some e) (lookE l f)
def lookL:List (Nat×LEnt)→Nat→Option LEnt
 | [],_=>none
 | (g,e)::l,f=>cond (f == g) (some e) (lookL l f)
def lookS:List (Nat×List (Bool×Nat))→Nat→Option (List (Bool×Nat))
 | [],_=>none
 | (g,e)::l,f=>cond (f == g) (some e) (lookS l f)
inductive EsOK (P:Program):List (FuncId×Ent)→Prop
 | nil:EsOK P []
 | cons {f:FuncId} {e:Ent} {l:List (FuncId×Ent)} (h:FnOK P (f % 1000000) e) (c:∀ args w,(callFunc (f % 1000000) args).run P w = .ok (.enter (f % 1000000) args) w) (t:EsOK P l):EsOK P ((f,e)::l)
theorem cx_ok {P:Program} {tb:List (Option TI)} {l:List (FuncId×Ent)} {ss:Nat→Option (List (Bool×Nat))} {ms:List (TypeId×String×FuncId)} {as1:List (TypeId×TypeId)} (ht:TbOK P tb) (hi:(∀ q∈ms,MtOK P q.1 q.2.1 q.2.2)∧∀ q∈as1,AsOK P q.1 q.2) (h:EsOK P l):CxOK P ⟨tb,lookE l,ss,ms,as1⟩:=by
 refine ⟨⟨ht,hi⟩,?_⟩
 induction h with
 | nil=>intro f e hf; cases hf
 | @cons g e0 l h c t ih =>
  intro f e hf
  simp only [lookE] at hf
  cases hg:(f == g) with
  | true =>
   rw [hg] at hf
   cases hf
   have:f=g:=by simpa using hg
   subst this
   exact ⟨h,c⟩
  | false =>
   rw [hg] at hf
   exact ih f e hf
inductive LsOK (P:Program) (n np:Nat) (nw:Bool) (L:Nat→Option LEnt):List (Nat×Code)→Prop
 | nil:LsOK P n np nw L []
 | cons {i:Nat} {c:Code} {le:LEnt} {l:List (Nat×Code)} (hl:L i=some le) (h:LOK P n np nw le c) (t:LsOK P n np nw L l):LsOK P n np nw L ((i,c)::l)
 | skip {i:Nat} {c:Code} {l:List (Nat×Code)} (hl:L i=none) (t:LsOK P n np nw L l):LsOK P n np nw L ((i,c)::l)
inductive BsOK (P:Program) (n np:Nat) (nw:Bool) (L:Nat→Option LEnt):List (Nat×Code)→Prop
 | nil:BsOK P n np nw L []
 | cons {i:Nat} {c:Code} {le:LEnt} {l:List (Nat×Code)} (hl:L i=some le) (h:COK P n np nw le c) (t:BsOK P n np nw L l):BsOK P n np nw L ((i,c)::l)
 | skip {i:Nat} {c:Code} {l:List (Nat×Code)} (hl:L i=none) (t:BsOK P n np nw L l):BsOK P n np nw L ((i,c)::l)
theorem BsOK.all {P:Program} {n np:Nat} {nw:Bool} {L:Nat→Option LEnt} {l:List (Nat×Code)} (h:BsOK P n np nw L l):∀ p∈l,∀ le,L p.1=some le→COK P n np nw le p.2:=by
 induction h with
 | nil=>intro p hp; cases hp
 | skip hl t ih =>
  intro p hp
  rcases List.mem_cons.1 hp with rfl | hp
  ·intro le hle
   rw [hl] at hle
   cases hle
  ·exact ih p hp
 | cons hl h t ih =>
  intro p hp
  rcases List.mem_cons.1 hp with rfl | hp
  ·intro le hle
   rw [hl] at hle
   cases hle
   exact h
  ·exact ih p hp
theorem ls_okB {P:Program} {n np:Nat} {nw:Bool} {L:Nat→Option LEnt} {c:Code} {l l':List (Nat×Code)} (hc:loopsOf c 0=l) (h:LsOK P n np nw L l) (hc':blocksOf c=l') (h':BsOK P n np nw L l'):LoopsOK (fun i c=>∀ le,L i=some le→COK P n np nw le c) c 0:=by
 refine loops_iff ?_ (by rw [hc']; exact h'.all)
 rw [hc]
 clear hc
 induction h with
 | nil=>intro p hp; cases hp
 | skip hl t ih =>
  intro p hp
  rcases List.mem_cons.1 hp with rfl | hp
  ·intro le hle
   rw [hl] at hle
   cases hle
  ·exact ih p hp
 | cons hl h t ih =>
  intro p hp
  rcases List.mem_cons.1 hp with rfl | hp
  ·intro le hle
   rw [hl] at hle
   cases hle
   exact h
  ·exact ih p hp
theorem bs_none {P:Program} {n np:Nat} {nw:Bool} {L:Nat→Option LEnt}:∀ {l:List (Nat×Code)},(l.all fun p=>(L p.1).isNone)=true→BsOK P n np nw L l
 | [],_ => .nil
 | p::l,h=>by
  rw [List.all_cons,Bool.and_eq_true] at h
  exact .skip (Option.isNone_iff_eq_none.1 h.1) (bs_none h.2)
theorem ls_ok {P:Program} {n np:Nat} {nw:Bool} {L:Nat→Option LEnt} {c:Code} {l:List (Nat×Code)} (hc:loopsOf c 0=l) (h:LsOK P n np nw L l) (hb:((blocksOf c).all fun p=>(L p.1).isNone)=true:=by kernel_rfl):LoopsOK (fun i c=>∀ le,L i=some le→COK P n np nw le c) c 0:=ls_okB hc h rfl (bs_none hb)
def big:Nat:=1099511627776
end Go.Proofs.YtkmigbicabfodaaGreat.V
namespace Go.Proofs.YtkmigbicabfodaaGreat.V
open Go K Go.WideShapes
def F0 (h:Array Obj):Frz:=⟨fun b=>h[b]?,fun _=>none,fun _=>False,(fun _ _ _ h=>by cases h),(fun _ _ h=>by cases h)⟩
theorem F0_hp (h:Array Obj) (hgl:Gl fun b=>h[b]?):Hp h (F0 h) []:=⟨fun _ _ hb=>hb,(fun _ hp=>by cases hp),(fun _ hp=>by cases hp),List.nodup_nil,(fun _ hb=>False.elim hb),hgl⟩
theorem cellF_F0 (h:Array Obj) (a:Addr):cellF (F0 h) a=K.cell h a:=by
 unfold cellF K.cell
 rfl
theorem cellsF_F0 {h:Array Obj} {B:Nat}:∀ {cs:List Value} {off:Nat},cellsFrom h B off cs→cellsF (F0 h) B off cs
 | [],_,_=>trivial
 | _::_,_,⟨h1,h2⟩=>⟨by rw [cellF_F0]; exact h1,cellsF_F0 h2⟩
theorem bridge {P:Program} {f:FuncId} {ent:Ent} {x:Tup ent.pin} {r:Tup ent.pout} {h:Array Obj} {ι:Gh} {vargs:List Value} (hok:FnOK P f ent) (hm:ent.m x=some r) (hlen:vargs.length=(realK ent.pin).length) (hMP:MP (F0 h) ι (fun i=>vargs.getD i undef) ent.pin x) (hL:lv ι (mkOw ent.pin x)=[]) (hgl:Gl fun b=>h[b]?)
  (hr:∀ F' ι' vs,MP F' ι' (vX vs ι) ent.pout r→vs.length=(realK ent.pout).length→joinV vs = .bool true):Ret P f vargs h fun v h'=>v = .bool true∧Ext h h':=by
 refine (hok x r hm (F0 h) ι h [] vargs hlen hMP (by rw [hL]; exact F0_hp h hgl)).mono ?_
 rintro v h' ⟨F',ι',vs,h1,_,h2,h3,rfl,h4,_⟩
 have hold:∀ b,b<h.size→h'[b]?=h[b]?:=fun b hb=>by
  have e:h[b]?=some h[b]:=Array.getElem?_eq_getElem hb
  rw [e]
  exact h4.frz b _ (h1.1 b _ e)
 refine ⟨hr F' ι' vs h3 h2,?_,hold⟩
 rcases Nat.eq_zero_or_pos h.size with h0 | h0
 ·omega
 ·have:=hold (h.size - 1) (by omega)
  rw [Array.getElem?_eq_getElem (xs:=h) (by omega)] at this
  have:=(Array.getElem?_eq_some_iff.1 this).1
  omega
theorem ans_one {F':Frz} {ι ι':Gh} {vs:List Value} (hl:vs.length=1) (h:M1 F' ι' 0 .bool true (vX vs ι 0)):joinV vs = .bool true:=by
 match vs,hl with
 | [v],_ =>
  have:=Rd.bool_inv h.1
  simpa [vX,joinV] using this
section
variable {P:Program} {t T:TypeId} {e:E}
def Reads (P:Program) (t:TypeId) (e:E):Prop:=∀ {H:Type} (enc:TypeId×Value→H) (w:World) (base:Nat) (spare:Nat→Bool) (held:Bool) (fuel:Nat) (cs:List Value) (y:DataW H×List MemPlace),DataW.trod enc P w base spare held fuel t cs=some y→∃ x:e.T,Rd (F0 w.heap) (e.enc x) cs
def ReadsL (P:Program) (t:TypeId) (e:E):Prop:=∀ {H:Type} (enc:TypeId×Value→H) (w:World) (base:Nat) (spare:Nat→Bool) (held:Bool) (fuel:Nat) (cs:List Value) (y:DataW H×List MemPlace),DataW.trod enc P w base spare held fuel t cs=some y→∃ xs:List e.T,Rd (F0 w.heap) [.lst e xs] cs
theorem reads_int (hu:P.underlying t=some (.int .i64)):Reads P t .int:=fun enc w base spare held fuel cs y h=>by
 obtain ⟨n,rfl,_⟩:=K.rd_int hu h
 exact ⟨n, .int .nil⟩
theorem reads_str (hu:P.underlying t=some .string):Reads P t .str:=fun enc w base spare held fuel cs y h=>by
 obtain ⟨l,rfl,_⟩:=K.rd_string hu h
 exact ⟨l, .str .nil⟩
theorem fld_get {fs:Array Field} {l:List (TypeId×Nat)} (hfs:fs.toList.map (fun f=>(f.type,f.offset))=l) {p:TypeId×Nat} (hp:p∈l):∃ f∈fs.toList,f.type=p.1∧f.offset=p.2:=by
 rw [← hfs] at hp
 obtain ⟨f,hf,rfl⟩:=List.mem_map.1 hp
 exact ⟨f,hf,rfl,rfl⟩
theorem reads_attr {fs:Array Field} {ts:TypeId} (hu:P.underlying t=some (.struct fs)) (hc:P.cellsOf t=2) (hfs:fs.toList.map (fun f=>(f.type,f.offset))=[(ts,0),(ts,1)]) (us:P.underlying ts=some .string) (cs':P.cellsOf ts=1):Reads P t .attr:=fun enc w base spare held fuel cs y h=>by
 obtain ⟨fu,h1,h2⟩:=K.rd_struct hu h
 rw [hc] at h1
 match cs,h1 with
 | [a,b],_ =>
  obtain ⟨f,hf,e1,e2⟩:=fld_get hfs (p:=(ts,0)) (by simp)
  obtain ⟨g,hg,e3,e4⟩:=fld_get hfs (p:=(ts,1)) (by simp)
  obtain ⟨y1,hy1⟩:=h2 f hf
  obtain ⟨y2,hy2⟩:=h2 g hg
  rw [e1,e2,cs'] at hy1
  rw [e3,e4,cs'] at hy2
  obtain ⟨k,hk⟩:=reads_str us enc w base spare held fu _ y1 hy1
  obtain ⟨v,hv⟩:=reads_str us enc w base spare held fu _ y2 hy2
  exact ⟨⟨k,v⟩,hk.cons hv⟩
theorem reads_lst {sz:Nat} (hu:P.underlying T=some (.slice t)) (hc:P.cellsOf t=sz) (hs:sz=e.sz) (hr:Reads P t e):ReadsL P T e:=fun enc w base spare held fuel cs y h=>by
 obtain ⟨fu,h1⟩:=K.rd_slice hu h
 rcases h1 with rfl | ⟨a,len,cap,rfl,g1,g2,g3⟩
 ·exact ⟨[], .lst (fun _=>[]) (Nat.le_refl _) (fun i x hx=>by simp at hx) (fun i x hx=>by simp at hx) .nil⟩
 ·subst hs
  rw [hc] at g3
  have hpos:=sz_pos e
  obtain ⟨xs,hl,hx⟩:=rows_exist (fun i (x:e.T)=>∃ cs,some a=some ⟨K.blk (some a),K.offs (some a),none⟩∧cellsF (F0 w.heap) (K.blk (some a)) (K.offs (some a)+i*e.sz) cs∧Rd (F0 w.heap) (e.enc x) cs) len (fun i hi=>by
   obtain ⟨ys,y,hy1,hy2⟩:=g3 i hi
   obtain ⟨zs,z,hz1,hz2⟩:=g3 0 (by omega)
   obtain ⟨q1,q2,q3⟩:=K.slice_at hpos ⟨zs,hz1⟩ hy1
   obtain ⟨x,hx⟩:=hr enc w base spare held fu ys y hy2
   exact ⟨x,ys,q1,cellsF_F0 q3,hx⟩)
  refine ⟨xs,?_⟩
  rw [← hl]
  exact Rd.of_at (by omega) fun i x hxi=>hx i x hxi
theorem reads_node {fs:Array Field} {ti ts tl:TypeId} (hu:P.underlying t=some (.struct fs)) (hc:P.cellsOf t=5) (hfs:fs.toList.map (fun f=>(f.type,f.offset))=[(ti,0),(ts,1),(ts,2),(tl,3),(ti,4)]) (ui:P.underlying ti=some (.int .i64)) (us:P.underlying ts=some .string) (ci:P.cellsOf ti=1) (cs':P.cellsOf ts=1) (cl:P.cellsOf tl=1) (hl:ReadsL P tl .attr):Reads P t .node:=fun enc w base spare held fuel cs y h=>by
 obtain ⟨fu,h1,h2⟩:=K.rd_struct hu h
 rw [hc] at h1
 match cs,h1 with
 | [a,b,c,d,e],_ =>
  obtain ⟨f0,hf0,e0,o0⟩:=fld_get hfs (p:=(ti,0)) (by simp)
  obtain ⟨f1,hf1,e1,o1⟩:=fld_get hfs (p:=(ts,1)) (by simp)
  obtain ⟨f2,hf2,e2,o2⟩:=fld_get hfs (p:=(ts,2)) (by simp)
  obtain ⟨f3,hf3,e3,o3⟩:=fld_get hfs (p:=(tl,3)) (by simp)
  obtain ⟨f4,hf4,e4,o4⟩:=fld_get hfs (p:=(ti,4)) (by simp)
  obtain ⟨y0,hy0⟩:=h2 f0 hf0
  obtain ⟨y1,hy1⟩:=h2 f1 hf1
  obtain ⟨y2,hy2⟩:=h2 f2 hf2
  obtain ⟨y3,hy3⟩:=h2 f3 hf3
  obtain ⟨y4,hy4⟩:=h2 f4 hf4
  rw [e0,o0,ci] at hy0
  rw [e1,o1,cs'] at hy1
  rw [e2,o2,cs'] at hy2
  rw [e3,o3,cl] at hy3
  rw [e4,o4,ci] at hy4
  obtain ⟨x0,hx0⟩:=reads_int ui enc w base spare held fu _ y0 hy0
  obtain ⟨x1,hx1⟩:=reads_str us enc w base spare held fu _ y1 hy1
  obtain ⟨x2,hx2⟩:=reads_str us enc w base spare held fu _ y2 hy2
  obtain ⟨x3,hx3⟩:=hl enc w base spare held fu _ y3 hy3
  obtain ⟨x4,hx4⟩:=reads_int ui enc w base spare held fu _ y4 hy4
  exact ⟨⟨x0,x1,x2,x3,x4⟩,hx0.cons (hx1.cons (hx2.cons (hx3.cons hx4)))⟩
variable {H:Type} {enc:TypeId×Value→H} {w:World} {base b0:Nat} {spare:Nat→Bool} {held:Bool} {v:Value} {d:DataW H} {ps:List MemPlace}
theorem arg_lst (hu:P.underlying T=some (.slice t)) (hr:ReadsL P T e) (hval:Value.okWide P w .any b0 T v) (hd:DataW.Trod enc P w base spare held T v d ps):∃ xs:List e.T,Rd (F0 w.heap) [.lst e xs] [v]:=by
 obtain ⟨q0,len0,cap0,rfl⟩:=okWide_slice hu hval
 obtain ⟨fuel,hf⟩:=hd
 have:=hr enc w base spare held fuel _ _ hf
 simpa [Value.cells] using this
theorem arg_int {k:IntKind} (hu:P.underlying t=some (.int k)) (hval:Value.okWide P w .any b0 t v) (hd:DataW.Trod enc P w base spare held t v d ps):∃ n:Int,v = .int k n∧(Lit.int k n).wf=true:=by
 obtain ⟨n,rfl⟩:=okWide_int hu hval
 obtain ⟨fuel,hf⟩:=hd
 obtain ⟨m,h1,h2⟩:=K.rd_int hu hf
 simp [Value.cells] at h1
 exact ⟨n,rfl,by rw [h1]; exact h2⟩
end
def ι0:Gh:=fun i=>if i=NT then (.tuple #[],[]) else (undef,[])
theorem own0 {F:Frz} {cl:Cl} {T A:TypeId} (hF:∀ j,F.nid j=none):OwnR F ι0 NT (.nodes cl T A [] none):=by
 refine ⟨rfl,[],?_,?_,fun j _=>hF j⟩
 ·simp [ι0]
 ·have:(ι0 NT).2=[]:=by simp [ι0]
  rw [this]
  exact .nil
theorem m1_ns {F:Frz} {cl:Cl} {T A:TypeId} {v:Value} (hF:∀ j,F.nid j=none):M1 F ι0 NT (.ns cl T A) [] v:=⟨trivial,fun q hq=>by
 simp [mk1] at hq
 subst hq
 exact own0 hF⟩
theorem lv0 {b:OB}:lv ι0 [(NT,b)]=[]:=by simp [lv,ι0]
theorem m1_lst {F:Frz} {i:Nat} {e:E} {xs:List e.T} {v:Value} {ι:Gh} (h:Rd F [.lst e xs] [v]):M1 F ι i (.lst e) xs v:=⟨.of_rd h,fun q hq=>by simp [mk1] at hq⟩
theorem m1_int {F:Frz} {i:Nat} {k:IntKind} {n:Int} {ι:Gh}:M1 F ι i (.int k) n (.int k n):=⟨.of_rd (.int .nil),fun q hq=>by simp [mk1] at hq⟩
end Go.Proofs.YtkmigbicabfodaaGreat.V
namespace Go.Proofs.YtkmigbicabfodaaGreat.V
open Go K
def snocT:(p:Pt)→(q:Nat×Kd)→Tup p→q.2.T→Tup (p++[q])
 | [],_,_,y=>y
 | [_],_,x,y=>(x,y)
 | _::b::ps,q,x,y=>(x.1,snocT (b::ps) q x.2 y)
def initT:(p:Pt)→(q:Nat×Kd)→Tup (p++[q])→Tup p
 | [],_,_=>()
 | [_],_,x=>x.1
 | _::b::ps,q,x=>(x.1,initT (b::ps) q x.2)
def E.nn0:E→Bool
 | .int=>true | .u8=>true | .str=>true | .bool=>true | .attr=>true | .node=>true | .sel=>true
 | _=>false
def Fl.nn:Fl→Bool
 | .int _=>true | .bool=>true | .str=>true | .ints=>true | .strs=>true | .bools=>true | .nodes=>true
 | _=>false
def E.nn:E→Bool
 | .rc f fs k=>f.nn && fs.all Fl.nn && k == 0
 | e=>e.nn0
def Kd.nn:Kd→Bool
 | .int _=>true | .bool=>true | .str=>true | .lst e=>e.nn | .el e=>e.nn
 | _=>false
def Kd.no:Kd→Bool
 | .int _=>true | .bool=>true | .str=>true | .own e _=>e.nn && e.flat | .lst e=>e.nn | .el e=>e.nn
 | _=>false
section
variable {F G:Frz} {ι ι':Gh} {v:Value} {h h':Array Obj} {L:List Blk}
theorem cellF_m (hm:∀ b o,F.m b=some o→G.m b=some o) {a:Addr} {v:Value} (hc:cellF F a=some v):cellF G a=some v:=by
 unfold cellF at *
 cases hb:F.m a.block with
 | none=>rw [hb] at hc; cases hc
 | some o=>rw [hm _ _ hb]; rw [hb] at hc; exact hc
theorem cellsF_m (hm:∀ b o,F.m b=some o→G.m b=some o) {B:Nat}:∀ {cs:List Value} {off:Nat},cellsF F B off cs→cellsF G B off cs
 | [],_,_=>trivial
 | _::_,_,⟨h1,h2⟩=>⟨cellF_m hm h1,cellsF_m hm h2⟩
theorem rd_lst_m {e:E} {xs:List e.T} (hm:∀ b o,F.m b=some o→G.m b=some o) (he:∀ (x:e.T) (vs:List Value),Rd F (e.enc x) vs→Rd G (e.enc x) vs) (h:Rd F [.lst e xs] [v]):Rd G [.lst e xs] [v]:=by
 obtain ⟨q,cp,rfl,hcp,hat⟩:=Rd.at h
 exact Rd.of_at hcp fun i x hx=>by
  obtain ⟨cs,a,b,c⟩:=hat i x hx
  exact ⟨cs,a,cellsF_m hm b,he x cs c⟩
theorem rd_attr_m {x:Attr} {vs:List Value} (h:Rd F (E.attr.enc x) vs):Rd G (E.attr.enc x) vs:=by
 obtain ⟨v1,r1,rfl,h1,h⟩:=h.inv_cons
 obtain ⟨v2,r2,rfl,h2,h⟩:=h.inv_cons
 cases h
 rw [Rd.str_inv h1,Rd.str_inv h2]
 exact .str (.str .nil)
theorem rd_nn0 {e:E} (he:e.nn0=true) (hm:∀ b o,F.m b=some o→G.m b=some o) {x:e.T} {vs:List Value} (h:Rd F (e.enc x) vs):Rd G (e.enc x) vs:=by
 cases e with
 | int=>obtain ⟨v1,r1,rfl,h1,h⟩:=h.inv_cons; cases h; rw [Rd.int_inv h1]; exact .int .nil
 | u8=>obtain ⟨v1,r1,rfl,h1,h⟩:=h.inv_cons; cases h; rw [Rd.int_inv h1]; exact .int .nil
 | str=>obtain ⟨v1,r1,rfl,h1,h⟩:=h.inv_cons; cases h; rw [Rd.str_inv h1]; exact .str .nil
 | bool=>obtain ⟨v1,r1,rfl,h1,h⟩:=h.inv_cons; cases h; rw [Rd.bool_inv h1]; exact .bool .nil
 | attr=>exact rd_attr_m h
 | node =>
  obtain ⟨v1,r1,rfl,h1,h⟩:=h.inv_cons
  obtain ⟨v2,r2,rfl,h2,h⟩:=h.inv_cons
  obtain ⟨v3,r3,rfl,h3,h⟩:=h.inv_cons
  obtain ⟨v4,r4,rfl,h4,h⟩:=h.inv_cons
  obtain ⟨v5,r5,rfl,h5,h⟩:=h.inv_cons
  cases h
  have h4':=rd_lst_m hm (fun _ _ h=>rd_attr_m h) h4
  rw [Rd.int_inv h1,Rd.str_inv h2,Rd.str_inv h3,Rd.int_inv h5]
  exact .int (.str (.str (h4'.cons (.int .nil))))
 | sel =>
  obtain ⟨v1,r1,rfl,h1,h⟩:=h.inv_cons
  obtain ⟨v2,r2,rfl,h2,h⟩:=h.inv_cons
  obtain ⟨v3,r3,rfl,h3,h⟩:=h.inv_cons
  obtain ⟨v4,r4,rfl,h4,h⟩:=h.inv_cons
  obtain ⟨v5,r5,rfl,h5,h⟩:=h.inv_cons
  obtain ⟨v6,r6,rfl,h6,h⟩:=h.inv_cons
  obtain ⟨v7,r7,rfl,h7,h⟩:=h.inv_cons
  obtain ⟨v8,r8,rfl,h8,h⟩:=h.inv_cons
  cases h
  rw [Rd.int_inv h1,Rd.int_inv h2,Rd.str_inv h3,Rd.str_inv h4,Rd.int_inv h5,Rd.int_inv h6,Rd.int_inv h7,Rd.int_inv h8]
  exact .int (.int (.str (.str (.int (.int (.int (.int .nil)))))))
 | _=>simp [E.nn0] at he
theorem fl_nn (hm:∀ b o,F.m b=some o→G.m b=some o):∀ {f:Fl} {x:f.T} {v:Value},f.nn=true→Rd F [f.enc x] [v]→Rd G [f.enc x] [v]:=by
 intro f x v hf h
 cases f with
 | int k=>rw [Rd.int_inv h]; exact .int .nil
 | bool=>rw [Rd.bool_inv h]; exact .bool .nil
 | str=>rw [Rd.str_inv h]; exact .str .nil
 | ints=>exact rd_lst_m hm (fun _ _ h=>rd_nn0 (e := .int) rfl hm h) h
 | strs=>exact rd_lst_m hm (fun _ _ h=>rd_nn0 (e := .str) rfl hm h) h
 | bools=>exact rd_lst_m hm (fun _ _ h=>rd_nn0 (e := .bool) rfl hm h) h
 | nodes=>exact rd_lst_m hm (fun _ _ h=>rd_nn0 (e := .node) rfl hm h) h
 | _=>simp [Fl.nn] at hf
theorem rec_nn (hm:∀ b o,F.m b=some o→G.m b=some o):∀ {f:Fl} {fs:List Fl} {x:recT f fs} {vs:List Value},f.nn=true→fs.all Fl.nn=true→Rd F (recEnc f fs x) vs→Rd G (recEnc f fs x) vs
 | f,[],x,vs,hf,_,h=>by
  obtain ⟨v,vs',rfl,h1,h2⟩:=h.inv_cons
  cases h2
  exact fl_nn hm hf h1
 | f,g::fs,x,vs,hf,hs,h=>by
  rw [List.all_cons,Bool.and_eq_true] at hs
  obtain ⟨v,vs',rfl,h1,h2⟩:=h.inv_cons
  exact (fl_nn hm hf h1).cons (rec_nn hm hs.1 hs.2 h2)
theorem rd_nn {e:E} (he:e.nn=true) (hm:∀ b o,F.m b=some o→G.m b=some o) {x:e.T} {vs:List Value} (h:Rd F (e.enc x) vs):Rd G (e.enc x) vs:=by
 cases e with
 | rc f fs k =>
  simp only [E.nn,Bool.and_eq_true,beq_iff_eq] at he
  obtain ⟨⟨h1,h2⟩,rfl⟩:=he
  simp only [E.enc,List.replicate_zero,List.append_nil] at h ⊢
  exact rec_nn hm h1 h2 h
 | int=>exact rd_nn0 (e := .int) rfl hm h
 | u8=>exact rd_nn0 (e := .u8) rfl hm h
 | str=>exact rd_nn0 (e := .str) rfl hm h
 | bool=>exact rd_nn0 (e := .bool) rfl hm h
 | attr=>exact rd_nn0 (e := .attr) rfl hm h
 | node=>exact rd_nn0 (e := .node) rfl hm h
 | sel=>exact rd_nn0 (e := .sel) rfl hm h
 | hattr=>simp [E.nn,E.nn0] at he
 | np=>simp [E.nn,E.nn0] at he
theorem M1.nn {i:Nat} {k:Kd} {x:k.T} (hk:k.nn=true) (hm:∀ b o,F.m b=some o→G.m b=some o) (h:M1 F ι i k x v):M1 G ι' i k x v:=by
 cases k with
 | int k=>exact ⟨by rw [Rd.int_inv h.1]; exact Rd.int .nil,fun q hq=>by simp [mk1] at hq⟩
 | bool=>exact ⟨by rw [Rd.bool_inv h.1]; exact Rd.bool .nil,fun q hq=>by simp [mk1] at hq⟩
 | str=>exact ⟨by rw [Rd.str_inv h.1]; exact Rd.str .nil,fun q hq=>by simp [mk1] at hq⟩
 | lst e=>exact ⟨.of_rd (rd_lst_m hm (fun _ _ h=>rd_nn hk hm h) (RdV.to_rd h.1 rfl)),fun q hq=>by simp [mk1] at hq⟩
 | el e =>
  obtain ⟨cs,hv,hcs⟩:=Rd.agg_inv h.1
  exact ⟨by rw [hv]; exact Rd.agg (rd_nn hk hm hcs) .nil,fun q hq=>by simp [mk1] at hq⟩
 | _=>simp [Kd.nn] at hk
theorem M1.no {i:Nat} {k:Kd} {x:k.T} (hk:k.no=true) (hm:∀ b o,F.m b=some o→G.m b=some o) (h:M1 F ι i k x v):M1 G ι i k x v:=by
 cases k with
 | int k=>exact ⟨by rw [Rd.int_inv h.1]; exact Rd.int .nil,fun q hq=>by simp [mk1] at hq⟩
 | bool=>exact ⟨by rw [Rd.bool_inv h.1]; exact Rd.bool .nil,fun q hq=>by simp [mk1] at hq⟩
 | str=>exact ⟨by rw [Rd.str_inv h.1]; exact Rd.str .nil,fun q hq=>by simp [mk1] at hq⟩
 | lst e=>exact ⟨.of_rd (rd_lst_m hm (fun _ _ h=>rd_nn hk hm h) (RdV.to_rd h.1 rfl)),fun q hq=>by simp [mk1] at hq⟩
 | el e =>
  obtain ⟨cs,hv,hcs⟩:=Rd.agg_inv h.1
  exact ⟨by rw [hv]; exact Rd.agg (rd_nn hk hm hcs) .nil,fun q hq=>by simp [mk1] at hq⟩
 | own e T =>
  simp only [Kd.no,Bool.and_eq_true] at hk
  refine ⟨h.1,fun q hq=>?_⟩
  have:=h.2 q hq
  simp only [mk1,List.mem_singleton] at hq
  subst hq
  obtain ⟨q,n,cp,rows,a,b,c⟩:=this
  exact ⟨q,n,cp,rows,a,b,forall2_imp (fun _ _ h=>rd_nn hk.1 hm h) c⟩
 | _=>simp [Kd.no] at hk
theorem MP.nn {σ:Nat→Value} (hm:∀ b o,F.m b=some o→G.m b=some o):∀ {p:Pt} {x:Tup p},(p.all fun q=>q.2.nn)=true→MP F ι σ p x→MP G ι' σ p x
 | [],_,_,_=>trivial
 | [_],_,hk,h=>M1.nn (by simpa using hk) hm h
 | _::b::ps,_,hk,h=>by
  rw [List.all_cons,Bool.and_eq_true] at hk
  exact ⟨h.1.nn hk.1 hm,MP.nn hm (p:=b::ps) hk.2 h.2⟩
theorem MP.no {σ:Nat→Value} (hm:∀ b o,F.m b=some o→G.m b=some o):∀ {p:Pt} {x:Tup p},(p.all fun q=>q.2.no)=true→MP F ι σ p x→MP G ι σ p x
 | [],_,_,_=>trivial
 | [_],_,hk,h=>M1.no (by simpa using hk) hm h
 | _::b::ps,_,hk,h=>by
  rw [List.all_cons,Bool.and_eq_true] at hk
  exact ⟨h.1.no hk.1 hm,MP.no hm (p:=b::ps) hk.2 h.2⟩
theorem MP.snoc {σ:Nat→Value} {q:Nat×Kd} {y:q.2.T} (hy:M1 F ι q.1 q.2 y (σ q.1)):∀ {p:Pt} {x:Tup p},MP F ι σ p x→MP F ι σ (p++[q]) (snocT p q x y)
 | [],_,_=>hy
 | [_],_,h=>⟨h,hy⟩
 | _::b::ps,_,h=>⟨h.1,MP.snoc hy (p:=b::ps) h.2⟩
theorem MP.init {σ:Nat→Value} {q:Nat×Kd}:∀ {p:Pt} {x:Tup (p++[q])},MP F ι σ (p++[q]) x→MP F ι σ p (initT p q x)
 | [],_,_=>trivial
 | [_],_,h=>h.1
 | _::b::ps,_,h=>⟨h.1,MP.init (p:=b::ps) h.2⟩
theorem mk1_nn {i:Nat} {k:Kd} {x:k.T} (hk:k.nn=true):(mk1 i k x).2=[]:=by cases k <;> first | rfl | (simp [Kd.nn] at hk)
theorem mkOw_nn:∀ {p:Pt} {x:Tup p},(p.all fun q=>q.2.nn)=true→mkOw p x=[]
 | [],_,_=>rfl
 | [_],_,hk=>mk1_nn (by simpa using hk)
 | _::b::ps,_,hk=>by
  rw [List.all_cons,Bool.and_eq_true] at hk
  show _++mkOw (b::ps) _=[]
  rw [mk1_nn hk.1,mkOw_nn hk.2]
  rfl
theorem mkOw_snoc {q:Nat×Kd}:∀ {p:Pt} {x:Tup (p++[q])},∃ y:q.2.T,mkOw (p++[q]) x=mkOw p (initT p q x)++(mk1 q.1 q.2 y).2
 | [],x=>⟨x,rfl⟩
 | [_],x=>⟨x.2,rfl⟩
 | a::b::ps,x=>by
  obtain ⟨y,hy⟩:=mkOw_snoc (q:=q) (p:=b::ps) (x:=x.2)
  refine ⟨y,?_⟩
  show (mk1 a.1 a.2 x.1).2++mkOw (b::ps++[q]) x.2=((mk1 a.1 a.2 x.1).2++mkOw (b::ps) (initT (b::ps) q x.2))++_
  rw [hy,List.append_assoc]
theorem mkOw_snoc' {q:Nat×Kd} {y:q.2.T}:∀ {p:Pt} {x:Tup p},mkOw (p++[q]) (snocT p q x y)=mkOw p x++(mk1 q.1 q.2 y).2
 | [],_=>rfl
 | [_],_=>rfl
 | a::b::ps,x=>by
  show (mk1 a.1 a.2 x.1).2++mkOw (b::ps++[q]) (snocT (b::ps) q x.2 y)=((mk1 a.1 a.2 x.1).2++mkOw (b::ps) x.2)++_
  rw [mkOw_snoc' (p:=b::ps),List.append_assoc]
end
def frT (np:Nat) (p q:Pt) (cl:Cl) (T A:TypeId) (m:Tup (p++[(NT, .ns cl T A)])→Option (Tup (q++[(NT, .ns cl T A)]))):Tup p→Option (Tup q):=fun x=>(m (snocT p (NT, .ns cl T A) x [])).map (initT q (NT, .ns cl T A))
theorem fresh_ok {P:Program} {f:FuncId} {np:Nat} {p q:Pt} {cl:Cl} {T A:TypeId} {m:Tup (p++[(NT, .ns cl T A)])→Option (Tup (q++[(NT, .ns cl T A)]))} (hok:FnOK P f ⟨np,p++[(NT, .ns cl T A)],q++[(NT, .ns cl T A)],m⟩) (hp:(p.all fun q=>q.2.nn && Nat.blt q.1 1000)=true) (hq:(q.all fun q=>q.2.no && Nat.blt q.1 1000)=true):FnOK P f ⟨np,p,q,frT np p q cl T A m⟩:=by
 intro (x:Tup p) (r:Tup q) hx F ι h L0 vargs hlen hMP hH
 have hMP:MP F ι (fun i=>vargs.getD i undef) p x:=hMP
 have hlen:vargs.length=(realK p).length:=hlen
 have hH:Hp h F (lv ι (mkOw p x)++L0):=hH
 have hp1:(p.all fun q=>q.2.nn)=true:=List.all_eq_true.2 fun a ha=>by have:=List.all_eq_true.1 hp a ha; rw [Bool.and_eq_true] at this; exact this.1
 have hq1:(q.all fun q=>q.2.no)=true:=List.all_eq_true.2 fun a ha=>by have:=List.all_eq_true.1 hq a ha; rw [Bool.and_eq_true] at this; exact this.1
 simp only [frT] at hx
 obtain ⟨r',hr',rfl⟩:=Option.map_eq_some_iff.1 hx
 let F1:Frz:=⟨F.m,fun _=>none,F.lv,(fun _ _ _ h=>by cases h),(fun _ _ h=>by cases h)⟩
 have hM1:MP F1 ι0 (fun i=>vargs.getD i undef) (p++[(NT, .ns cl T A)]) (snocT p (NT, .ns cl T A) x []):=MP.snoc (m1_ns (fun _=>rfl)) (MP.nn (F:=F) (G:=F1) (fun _ _ h=>h) hp1 hMP)
 have hbl:∀ (l:Pt),(l.all fun q=>Nat.blt q.1 1000)=true→realK (l++[(NT, .ns cl T A)])=realK l:=fun l hl=>by
  have e:Nat.blt NT 1000=false:=by decide
  simp [realK,List.filter_append,e]
 have hp2:(p.all fun q=>Nat.blt q.1 1000)=true:=List.all_eq_true.2 fun a ha=>by have:=List.all_eq_true.1 hp a ha; rw [Bool.and_eq_true] at this; exact this.2
 have hq2:(q.all fun q=>Nat.blt q.1 1000)=true:=List.all_eq_true.2 fun a ha=>by have:=List.all_eq_true.1 hq a ha; rw [Bool.and_eq_true] at this; exact this.2
 have hH0:Hp h F L0:=by rw [mkOw_nn hp1] at hH; exact hH
 have hH1:Hp h F1 (lv ι0 (mkOw (p++[(NT, .ns cl T A)]) (snocT p (NT, .ns cl T A) x []))++L0):=by
  rw [mkOw_snoc',mkOw_nn hp1]
  have e:lv ι0 ([]++(mk1 NT (.ns cl T A) []).2)=[]:=lv0
  rw [e]
  exact ⟨hH0.frz,hH0.own,hH0.sep,hH0.nodup,hH0.live,hH0.gl⟩
 refine (hok (snocT p (NT, .ns cl T A) x []) r' hr' F1 ι0 h L0 vargs (by rw [hlen]; exact congrArg List.length (hbl p hp2).symm) hM1 hH1).mono ?_
 rintro v h' ⟨F2,ι2,vs,h1,_,h2,h3,hv,h4,h5⟩
 let F3:Frz:=⟨F2.m,F.nid,F2.lv,F.inj,fun i b hb=>h1.2.2 b (F.nlt i b hb)⟩
 have h3':=MP.no (F:=F2) (G:=F3) (fun _ _ h=>h) hq1 (MP.init (p:=q) h3)
 obtain ⟨y,hy⟩:=mkOw_snoc (q:=(NT,Kd.ns cl T A)) (p:=q) (x:=r')
 have h4':Hp h' F3 (lv ι2 (mkOw q (initT q (NT, .ns cl T A) r'))++L0):=by
  have:Hp h' F2 (lv ι2 (mkOw q (initT q (NT, .ns cl T A) r'))++L0):=h4.sub (by
   show List.Sublist _ (lv ι2 (mkOw (q++[(NT, .ns cl T A)]) r')++L0)
   rw [hy,lv_append,List.append_assoc]
   exact (List.Sublist.refl _).append (List.sublist_append_right _ _))
  exact ⟨this.frz,this.own,this.sep,this.nodup,this.live,this.gl⟩
 have hvl:vs.length=(realK q).length:=by rw [h2]; exact congrArg List.length (hbl q hq2)
 refine ⟨F3,ι2,vs,⟨fun b o hb=>h1.1 b o hb,fun _ _ h=>h,fun b hb=>h1.2.2 b hb⟩,fun _=>rfl,hvl,?_,hv,h4',fun k hk h6 _=>?_⟩
 ·refine h3'.congr fun k hk=>?_
  obtain ⟨a,ha,rfl⟩:=List.mem_map.1 hk
  have hlt:a.1<1000:=by have:=List.all_eq_true.1 hq2 a ha; rwa [Nat.blt_eq] at this
  simp only [vX,if_pos hlt]
 ·obtain ⟨a,ha,rfl⟩:=List.mem_map.1 hk
  have hlt:a.1<1000:=by have:=List.all_eq_true.1 hq2 a ha; rwa [Nat.blt_eq] at this
  omega
end Go.Proofs.YtkmigbicabfodaaGreat.V
set_option linter.unusedVariables false
set_option linter.unusedSimpArgs false
namespace Go.Proofs.YtkmigbicabfodaaGreat.V
open Go
theorem loopO_rule {X B:Type} {body:X→Option (Stp X B)} (I:X→Prop) (Q:X→B→Prop) (μ:X→Nat)
  (h:∀ x,I x→(∃ b,body x=some (.out b)∧Q x b)∨(∃ y,body x=some (.nx y)∧I y∧μ y<μ x∧∀ b,Q y b→Q x b)):∀ x,I x→∃ b,loopO body x=some b∧Q x b:=by
 have key:∀ n x,μ x<n→I x→∃ b,loopO body x=some b∧Q x b:=by
  intro n
  induction n with
  | zero=>intro x hx; omega
  | succ n ih =>
   intro x hx hI
   rcases h x hI with ⟨b,h1,h2⟩ | ⟨y,h1,h2,h3,h4⟩
   ·exact ⟨b,loopO_out h1,h2⟩
   ·obtain ⟨b,g1,g2⟩:=ih y (by omega) h2
    exact ⟨b,by rw [loopO_nx h1]; exact g1,h4 b g2⟩
 exact fun x hx=>key (μ x+1) x (by omega) hx
theorem w64 {n:Int} (h1 : -9223372036854775808≤n) (h2:n≤9223372036854775807):IntKind.wrap .i64 n=n:=by
 simp [IntKind.wrap,IntKind.bits,IntKind.signed]
 omega
theorem atI_nat {α:Type} (l:List α) (k:Nat):atI l (k:Int)=l[k]?:=by simp [atI]
theorem atI_zero {α:Type} (l:List α):atI l 0=l[0]?:=atI_nat l 0
theorem cond_dec {α:Type} {p:Prop} [Decidable p] (a b:α):cond (decide p) a b=if p then a else b:=by by_cases h:p <;> simp [h]
theorem appL_some {α:Type} {l m:List α} (h:l.length+m.length≤2147483648):appL l m=some (l++m):=by simp [appL,h]
theorem bind_some {α β:Type} (a:α) (f:α→Option β):Option.bind (some a) f=f a:=rfl
theorem selim_l {α β γ:Type} (f:α→γ) (h:β→γ) (a:α):selim f h (.inl a)=f a:=rfl
theorem get_lt {α:Type} {l:List α} {k:Nat} (h:k<l.length):∃ v,l[k]?=some v:=⟨l[k],List.getElem?_eq_getElem h⟩
theorem loopO_up {X B:Type} {body:X→Option (Stp X B)} {st:Nat→X} (n:Nat) (Q:B→Prop)
  (h:∀ k,k≤n→(∃ b,body (st k)=some (.out b)∧Q b)∨(k<n∧body (st k)=some (.nx (st (k+1))))):∀ k,k≤n→∃ b,loopO body (st k)=some b∧Q b:=by
 have key:∀ m k,n - k=m→k≤n→∃ b,loopO body (st k)=some b∧Q b:=by
  intro m
  induction m with
  | zero =>
   intro k hm hk
   rcases h k hk with ⟨b,h1,h2⟩ | ⟨h1,_⟩
   ·exact ⟨b,loopO_out h1,h2⟩
   ·omega
  | succ m ih =>
   intro k hm hk
   rcases h k hk with ⟨b,h1,h2⟩ | ⟨h1,h2⟩
   ·exact ⟨b,loopO_out h1,h2⟩
   ·obtain ⟨b,g1,g2⟩:=ih (k+1) (by omega) (by omega)
    exact ⟨b,by rw [loopO_nx h2]; exact g1,g2⟩
 exact fun k hk=>key _ k rfl hk
theorem loop_all {X B α:Type} {body:X→Option (Stp X B)} (l:List α) (p:α→Bool) (st:Nat→X) (yes no:B)
  (hs:∀ k v,l[k]?=some v→body (st k)=some (if p v then .nx (st (k+1)) else .out no)) (he:body (st l.length)=some (.out yes)):∀ k,k≤l.length→loopO body (st k)=some (if (l.drop k).all p then yes else no):=by
 have key:∀ m k,l.length - k=m→k≤l.length→loopO body (st k)=some (if (l.drop k).all p then yes else no):=by
  intro m
  induction m with
  | zero =>
   intro k hm hk
   have:k=l.length:=by omega
   subst this
   rw [loopO_out he]
   simp
  | succ m ih =>
   intro k hm hk
   obtain ⟨v,hv⟩:=get_lt (l:=l) (k:=k) (by omega)
   have hd:l.drop k=v::l.drop (k+1):=by
    obtain ⟨h1,h2⟩:=List.getElem?_eq_some_iff.1 hv
    rw [← h2]
    exact List.drop_eq_getElem_cons h1
   have h:=hs k v hv
   rw [hd,List.all_cons]
   cases hp:p v with
   | true =>
    rw [hp] at h
    rw [loopO_nx h,ih (k+1) (by omega) (by omega)]
    simp
   | false =>
    rw [hp] at h
    rw [loopO_out h]
    simp
 exact fun k hk=>key _ k rfl hk
theorem not_cond {α:Type} (b:Bool) (x y:α):cond (!b) x y=if b then y else x:=by cases b <;> rfl
end Go.Proofs.YtkmigbicabfodaaGreat.V
