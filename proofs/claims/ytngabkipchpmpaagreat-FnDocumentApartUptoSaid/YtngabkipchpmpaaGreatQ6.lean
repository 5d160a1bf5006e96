/-
  Plain facts and an evaluator for what a law needs.
-/
import Derived.Test.YtngabkipchpmpaaGreatQ5
set_option linter.unusedVariables false
set_option linter.unusedSimpArgs false
namespace Go.Proofs.YtngabkipchpmpaaGreat.V
open Go
structure NW (c:List UInt8):Prop where
 ne:c≠[]
 sp:∀ x∈c,eB x=false
 nv:NV c
 len:c.length<=1048576
structure MR (s:List UInt8):Prop where
 nv:NV s
 lb:TG s
 front:∃ r,s=32::r
 back:∃ r,s=r++[32]
theorem PN:(32:UInt8).toNat<128/\(32:UInt8).toNat≠11:=by decide
theorem MR.add {s c:List UInt8}(h:MR s)(hc:NW c):MR (s++(c++[32]))/\aC (s++(c++[32]))=aC s++[c]:=by
 obtain⟨r,hr⟩:=h.front;obtain⟨q,hq⟩:=h.back;refine⟨⟨λx hx=>?_,λx hx hs=>?_,⟨r++(c++[32]),by rw [hr];rfl⟩,⟨s++c,by simp⟩⟩,?_⟩
 ·rcases List.mem_append.1 hx with hx | hx
  ·exact h.nv x hx
  ·rcases List.mem_append.1 hx with hx | hx
   ·exact hc.nv x hx
   ·rw [List.mem_singleton.1 hx];exact PN
 ·rcases List.mem_append.1 hx with hx | hx
  ·exact h.lb x hx hs
  ·rcases List.mem_append.1 hx with hx | hx
   ·rw [hc.sp x hx] at hs;cases hs
   ·exact List.mem_singleton.1 hx
 ·have e:s++(c++[32])=q++32::(c++[32]):=by rw [hq];simp
  rw [e,m7 xK,va xK,tp hc.ne hc.sp];rw [hq,va xK]
theorem JN {v:List UInt8}(hv:NV v)(Y7:∀ c∈v,c.toNat≠12):MR ((32::(v++[32])).map sL)/\aC ((32::(v++[32])).map sL)=aC v:=by
 have t32:sL 32=32:=by decide
 have zf:(32::(v++[32])).map sL=32::(v.map sL++[32]):=by simp [t32]
 have nv1:∀ c:UInt8,c.toNat<128/\c.toNat≠11->(sL c).toNat<128/\(sL c).toNat≠11:=λc hc=>by
  unfold sL;split
  ·exact PN
  ·exact hc
 have b1:∀ c:UInt8,c.toNat≠12->eB (sL c)=true->sL c=32:=λc hc hs=>by
  unfold sL at hs ⊢
  split at hs
  ·rename_i h;rw [if_pos h]
  ·rename_i h;rw [if_neg h];simp only [eB,Bool.or_eq_true,decide_eq_true_eq] at hs;apply UInt8.toNat_inj.1
   have:(32:UInt8).toNat=32:=rfl
   omega
 refine⟨⟨λx hx=>?_,λx hx hs=>?_,⟨_,zf⟩,⟨32::v.map sL,by rw [zf];rfl⟩⟩,?_⟩
 ·rw [zf] at hx;rcases List.mem_cons.1 hx with rfl | hx
  ·exact PN
  ·rcases List.mem_append.1 hx with hx | hx
   ·obtain⟨c,hc,rfl⟩:=List.mem_map.1 hx;exact nv1 c (hv c hc)
   ·rw [List.mem_singleton.1 hx];exact PN
 ·rw [zf] at hx;rcases List.mem_cons.1 hx with rfl | hx
  ·rfl
  ·rcases List.mem_append.1 hx with hx | hx
   ·obtain⟨c,hc,rfl⟩:=List.mem_map.1 hx;exact b1 c (Y7 c hc) hs
   ·exact List.mem_singleton.1 hx
 ·rw [zf,tq xK,va xK];have key:∀ n (v:List UInt8),v.length=n->aC (v.map sL)=aC v:=by
   intro n
   induction n using Nat.strongRecOn with
   | _ n ih =>
    intro v hn;have spt:∀ c:UInt8,eB (sL c)=eB c:=λc=>by
     unfold sL;split
     ·rename_i h
      have:eB c=true:=by simp only [eB,Bool.or_eq_true,decide_eq_true_eq];omega
      rw [this];decide
     ·rfl
    have same:∀ c:UInt8,eB c=false->sL c=c:=λc hc=>by
     unfold sL;rw [if_neg];intro h
     have:eB c=true:=by simp only [eB,Bool.or_eq_true,decide_eq_true_eq];omega
     rw [this] at hc;cases hc
    by_cases h:∃ c∈v,eB c=true
    ·obtain⟨w,c,b,rfl,hw,hc⟩:∃ w c b,v=w++c::b/\(∀ d∈w,eB d=false)/\eB c=true:=by
      clear ih hn
      induction v with
      | nil=>obtain⟨c,hc,_⟩:=h;cases hc
      | cons d a ih =>
       by_cases hd:eB d=true
       ·exact⟨[],d,a,rfl,by simp,hd⟩
       ·obtain⟨c,hc,h2⟩:=h;rcases List.mem_cons.1 hc with rfl | hc
        ·exact absurd h2 hd
        ·obtain⟨w,c',b,rfl,h3,h4⟩:=ih ⟨c,hc,h2⟩;refine⟨d::w,c',b,rfl,λe he=>?_,h4⟩;rcases List.mem_cons.1 he with rfl | he
         ·simpa using hd
         ·exact h3 e he
     have hmw:w.map sL=w:=by
      conv=>rhs;rw [<- List.map_id w]
      exact List.map_congr_left λd hd=>same d (hw d hd)
     rw [List.map_append,List.map_cons,hmw,jX hw (by rw [spt];exact hc),jX hw hc,ih b.length (by rw [<- hn];simp;omega) b rfl]
    ·have hmw:v.map sL=v:=by
      conv=>rhs;rw [<- List.map_id v]
      refine List.map_congr_left λd hd=>same d ?_
      cases hb:eB d with
      | false=>rfl
      | true=>exact absurd ⟨d,hd,hb⟩ h
     rw [hmw]
  exact key _ v rfl
theorem tu {s c:List UInt8}(h:MR s)(hc:NW c)(hl:s.length<=2147483647):fK (s,32::(c++[32]))=some (decide (c∈aC s)):=by
 obtain⟨b,hb,hi⟩:=contains_eq s (32::(c++[32])) hl (by have:=hc.len;simp;omega);rw [hb]
 have:=HZ hc.ne hc.sp h.lb h.front h.back
 rw [this] at hi
 congr 1
 rw [Bool.eq_iff_iff,decide_eq_true_eq];exact hi
theorem JO {c:List UInt8}(hc:NW c):(mr [(32:UInt8)] c)=some (32::c)/\mr (32::c) [(32:UInt8)]=some (32::(c++[32]))/\mr c [(32:UInt8)]=some (c++[32]):=by
 have:=hc.len
 exact⟨j_ (by simp;omega),j_ (by simp;omega),j_ (by simp;omega)⟩
theorem NV.mid {a t b:List UInt8}(h:NV (a++t++b)):NV t:=λx hx=>h x (by simp [hx])
def jL:List (List UInt8)->List UInt8
 | []=>[]
 | a::r=>a++r.flatMap λb=>32::b
def pH (l:List (List UInt8)):Nat:=(l.map λc=>c.length+1).sum
theorem gY (a:List UInt8)(l:List (List UInt8)):pH (a::l)=a.length+1+pH l:=by simp [pH]
theorem oZ:∀ (l:List (List UInt8)),l.length<=pH l
 | []=>Nat.zero_le _
 | a::l=>by have:=oZ l;rw [gY,List.length_cons];omega
theorem yz:∀ {l:List (List UInt8)} {c:List UInt8},c∈l->c.length+1<=pH l
 | a::l,c,h=>by
  rw [gY];rcases List.mem_cons.1 h with rfl | h
  ·omega
  ·have:=yz h;omega
theorem yA:∀ (l:List (List UInt8)),(jL l).length<=pH l
 | []=>Nat.zero_le _
 | a::r=>by
  rw [jL,List.length_append,gY]
  have:∀ r:List (List UInt8),(r.flatMap λb=>(32:UInt8)::b).length=pH r:=λr=>by
   induction r with
   | nil=>rfl
   | cons b r ih=>rw [List.flatMap_cons,List.length_append,ih,gY];simp
  rw [this];omega
theorem Sk {n:Nat}(h1:1<=n)(h2:n<=2000000):∃ m:Int,L3 IntKind.i64 (9223372036854775807:Int) (n:Int)=some m/\1<m:=by unfold L3;rw [if_neg (by omega)];have h3:Int.tdiv 9223372036854775807 (n:Int)=9223372036854775807 / (n:Int):=Int.tdiv_eq_ediv_of_nonneg (by decide);have h4:2<=(9223372036854775807:Int) / (n:Int):=Int.le_ediv_of_mul_le (by omega) (by omega);have h5:(9223372036854775807:Int) / (n:Int)<=9223372036854775807:=Int.ediv_le_self _ (by decide);rw [h3,cD (by omega) (by omega)];exact⟨_,rfl,by omega⟩
theorem Cu (b:Bool)(s acc:List UInt8)(h:acc.length+s.length<=2147483648):b9 ((b,()),s,acc)=some ((s.length:Int),false,(true,()),acc++s):=by simp only [b9,iM,bind_some];rw [a6 h,bind_some]
theorem join_eq (l:List (List UInt8))(ht:pH l<=1048576):jn (l,[(32:UInt8)])=some (jL l):=by
 simp only [jn,aa]
 match l,ht with
 | [],_=>rfl
 | [a],_=>simp [pj,jL]
 | a::b::r,ht =>
  have hlen:(a::b::r).length=r.length+2:=rfl;have h1:List.length [(32:UInt8)]=1:=rfl;rw [hlen,h1,if_neg (by omega),if_neg (by omega),if_pos (by decide)];have htl:=oZ (a::b::r);rw [hlen] at htl;have hd:∃ n:Int,L3 IntKind.i64 (9223372036854775807:Int) (IntKind.wrap .i64 (((r.length+2:Nat):Int) - (1:Int)))=some n/\1<n:=by
   rw [cD (by omega) (by omega)];have e:((r.length+2:Nat):Int) - 1=((r.length+1:Nat):Int):=by omega
   rw [e];exact Sk (by omega) (by omega)
  obtain⟨n,hn,rp⟩:=hd;rw [hn,bind_some,if_neg (by omega)];have hw:IntKind.wrap .i64 ((0:Int)+IntKind.wrap .i64 (((1:Nat):Int)*IntKind.wrap .i64 (((r.length+2:Nat):Int) - (1:Int))))=((r.length+1:Nat):Int):=by rw [cD (n:=((r.length+2:Nat):Int) - 1) (by omega) (by omega),cD (n:=((1:Nat):Int)*_) (by omega) (by omega),cD (by omega) (by omega)];omega
  rw [hw];have sum:∀ m k N:Nat,(a::b::r).length - k=m->k<=(a::b::r).length->N+pH ((a::b::r).drop k)<=3000000->∃ N':Nat,ab fL (a::b::r,[(32:UInt8)],(N:Int),a::b::r,((r.length+2:Nat):Int),(k:Int))=some (a::b::r,[(32:UInt8)],(N':Int))/\N'<=3000000:=by
   intro m
   induction m with
   | zero =>
    intro k N hk h2 h3;refine⟨N,ae ?_,by omega⟩;simp only [fL,aa];rw [if_neg (by omega)]
   | succ m ih =>
    intro k N hk h2 h3;obtain⟨c,hc⟩:=ay (l:=a::b::r) (k:=k) (by omega);rw [drop_cons hc,gY] at h3;have step:fL (a::b::r,[(32:UInt8)],(N:Int),a::b::r,((r.length+2:Nat):Int),(k:Int))=some (.nx (a::b::r,[(32:UInt8)],((N+c.length:Nat):Int),a::b::r,((r.length+2:Nat):Int),((k+1:Nat):Int))):=by simp only [fL,aa,ad,hc,bind_some];rw [if_pos (by omega),cD (n:=9223372036854775807 - _) (by omega) (by omega),if_neg (by omega),cD (n:=(N:Int)+_) (by omega) (by omega),cD (n:=(k:Int)+1) (by omega) (by omega)];rfl
    rw [aj step];exact ih (k+1) (N+c.length) (by omega) (by omega) (by omega)
  obtain⟨N,hN,hN2⟩:=sum (r.length+2) 0 (r.length+1) (by rw [hlen];rfl) (Nat.zero_le _) (by rw [List.drop_zero];omega);rw [show ab fL (a::b::r,[(32:UInt8)],((r.length+1:Nat):Int),a::b::r,((r.length+2:Nat):Int),(0:Int))=_ from hN,bind_some];have hG:fV (((),()),(N:Int))=some ((true,()),[]):=by simp only [fV];rw [decide_eq_true (by omega)];rfl
  have ht0:=ht;rw [gY] at ht0;simp only;rw [hG,bind_some,pj];simp only [List.getElem?_cons_zero,bind_some];rw [Cu _ _ _ (by simp;omega),bind_some];have iC:gn (a::b::r) (1:Int) ((r.length+2:Nat):Int)=some (b::r):=by
   have:=vb (a::b::r) (lo:=1) (hi:=r.length+2) (by omega) (by rw [hlen];exact Nat.le_refl _)
   rw [show ((1:Nat):Int)=1 from rfl] at this;rw [this,List.take_of_length_le (by rw [hlen];exact Nat.le_refl _)];rfl
  simp only;rw [hlen,iC,bind_some];have wr:∀ m k:Nat,∀ (bb:Bool) (acc:List UInt8),(b::r).length - k=m->k<=(b::r).length->acc.length+pH ((b::r).drop k)<=3000000->∃ Zo,ab fM ([(32:UInt8)],(bb,()),b::r,((b::r).length:Int),(k:Int),acc)=some ((Zo,()),acc++((b::r).drop k).flatMap λb=>32::b):=by
   intro m
   induction m with
   | zero =>
    intro k bb acc hk h2 h3;refine⟨bb,ae ?_⟩;simp only [fM,aa];rw [if_neg (by omega),List.drop_eq_nil_of_le (by omega)];simp
   | succ m ih =>
    intro k bb acc hk h2 h3;obtain⟨c,hc⟩:=ay (l:=b::r) (k:=k) (by omega);have h9:=oZ (b::r);have h3b:=h3;rw [drop_cons hc,gY] at h3;have step:fM ([(32:UInt8)],(bb,()),b::r,((b::r).length:Int),(k:Int),acc)=some (.nx ([(32:UInt8)],(true,()),b::r,((b::r).length:Int),((k+1:Nat):Int),acc++[32]++c)):=by simp only [fM,aa,ad,hc,bind_some];rw [if_pos (by omega),Cu _ _ _ (by simp;omega),bind_some];simp only;rw [Cu _ _ _ (by simp;omega),bind_some,cD (n:=(k:Int)+1) (by omega) (by omega)];rfl
    obtain⟨Zo,hb⟩:=ih (k+1) true (acc++[32]++c) (by omega) (by omega) (by rw [List.length_append,List.length_append];simp only [List.length_cons,List.length_nil];omega);refine⟨Zo,?_⟩;rw [aj step,hb,drop_cons hc,List.flatMap_cons];simp
  obtain⟨Zo,hb⟩:=wr (r.length+1) 0 true ([]++a) (by simp) (Nat.zero_le _) (by rw [List.drop_zero,List.nil_append];omega);rw [show ab fM ([(32:UInt8)],(true,()),b::r,((b::r).length:Int),(0:Int),[]++a)=_ from hb,bind_some];have hj:[]++a++((b::r).drop 0).flatMap (λb=>(32:UInt8)::b)=jL (a::b::r):=by simp [jL]
  simp only;rw [hj];have GA:=yA (a::b::r);simp only [gO]
  have:Nat.ble (jL (a::b::r)).length 2147483648=true:=by rw [Nat.ble_eq];omega
  rw [this];rfl
theorem xL:∀ {l:List (List UInt8)},(∀ c∈l,c≠[]/\∀ x∈c,eB x=false)->aC (jL l)=l
 | [],_=>by simp [jL,oS]
 | [a],h=>by
  have:=h a (by simp)
  simp [jL,tp this.1 this.2]
 | a::b::r,h=>by
  have h1:=h a (by simp)
  have:jL (a::b::r)=a++32::jL (b::r):=by simp [jL]
  rw [this,jX h1.2 xK,if_neg h1.1,xL λc hc=>h c (by simp [List.mem_cons.1 hc])];rfl
theorem FD:∀ {l:List (List UInt8)},(∀ c∈l,NW c)->NV (jL l)
 | [],_=>λx hx=>by simp [jL] at hx
 | [a],h=>λx hx=>by
  have hx:x∈a:=by simpa [jL] using hx
  exact (h a (by simp)).nv x hx
 | a::b::r,h=>λx hx=>by
  have e:jL (a::b::r)=a++32::jL (b::r):=by simp [jL]
  rw [e] at hx;rcases List.mem_append.1 hx with hx | hx
  ·exact (h a (by simp)).nv x hx
  ·rcases List.mem_cons.1 hx with rfl | hx
   ·exact PN
   ·exact FD (l:=b::r) (λc hc=>h c (by simp [List.mem_cons.1 hc])) x hx
theorem Yf {c:List UInt8}(h:c≠[]/\∀ x∈c,33<=x.toNat/\x.toNat<=126)(hl:c.length<=1048576):NW c:=by
 refine⟨h.1,λx hx=>?_,λx hx=>?_,hl⟩
 ·have:=h.2 x hx
  cases hb:eB x with
  | false=>rfl
  | true =>
   simp only [eB,Bool.or_eq_true,decide_eq_true_eq] at hb;omega
 ·have:=h.2 x hx
  omega
theorem js {X B σ:Type}{body:X->Option (ai X B)}{n:Nat}(st:Nat->σ->X)(I:Nat->σ->Prop)(J:B->Prop)(h:∀ k S,k<n->I k S->(∃ S',body (st k S)=some (.nx (st (k+1) S'))/\I (k+1) S')∨∃ b,body (st k S)=some (.out b)/\J b)(he:∀ S,I n S->∃ b,body (st n S)=some (.out b)/\J b):∀ d k S,n - k=d->k<=n->I k S->∃ b,ab body (st k S)=some b/\J b:=by
 intro d
 induction d with
 | zero =>
  intro k S hk h1 hI;obtain rfl:k=n:=by omega
  obtain⟨b,h2,h3⟩:=he S hI;exact⟨b,ae h2,h3⟩
 | succ d ih =>
  intro k S hk h1 hI;rcases h k S (by omega) hI with⟨S',h2,h3⟩ | ⟨b,h2,h3⟩
  ·obtain⟨b,h4,h5⟩:=ih (k+1) S' (by omega) (by omega) h3;exact⟨b,by rw [aj h2,h4],h5⟩
  ·exact⟨b,ae h2,h3⟩
abbrev Wd:=List (List UInt8)
def vd (op:Int)(ws l:Wd):Wd:=(if op=14 then ws else ws.filter λw=>!decide (w∈l))++(if op=15 then [] else l.filter λw=>!decide (w∈ws))
def wv (op:Int)(ws:Wd)(c:List UInt8):Wd:=if op=15 then ws.filter λw=>!decide (w=c) else if c∈ws then (if op=14 then ws else ws.filter λw=>!decide (w=c)) else ws++[c]
section
variable {op:Int}{ws l:Wd}{c:List UInt8}
theorem FE:vd op ws []=ws:=by
 unfold vd
 have:ws.filter (λw=>!decide (w∈([]:Wd)))=ws:=List.filter_eq_self.2 λa _=>by simp
 rw [this];simp
theorem Sl (h:c∉l):c∈vd op ws l↔c∈ws:=by
 unfold vd;rw [List.mem_append];constructor
 ·rintro (h1 | h1)
  ·by_cases e:op=14
   ·rwa [if_pos e] at h1
   ·rw [if_neg e] at h1;exact (List.mem_filter.1 h1).1
  ·by_cases e:op=15
   ·rw [if_pos e] at h1;cases h1
   ·rw [if_neg e] at h1;exact absurd (List.mem_filter.1 h1).1 h
 ·intro h1;left
  by_cases e:op=14
  ·rwa [if_pos e]
  ·rw [if_neg e];exact List.mem_filter.2 ⟨h1,by simp [h]⟩
theorem H5 (h:c∉l):vd op ws (l++[c])=wv op (vd op ws l) c:=by
 have hm:=Sl (op:=op) (ws:=ws) h;have hA:ws.filter (λw=>!decide (w∈l++[c]))=(ws.filter λw=>!decide (w∈l)).filter λw=>!decide (w=c):=by
  rw [List.filter_filter];refine List.filter_congr λw _=>?_
  by_cases h1:w∈l <;> by_cases h2:w=c <;> simp [h1,h2]
 have hB:(l++[c]).filter (λw=>!decide (w∈ws))=l.filter (λw=>!decide (w∈ws))++if c∈ws then [] else [c]:=by
  rw [List.filter_append]
  congr 1
  by_cases h1:c∈ws <;> simp [h1]
 have hC:(l.filter λw=>!decide (w∈ws)).filter (λw=>!decide (w=c))=l.filter λw=>!decide (w∈ws):=List.filter_eq_self.2 λw hw=>by
  have:w≠c:=λe=>h (e ▸ (List.mem_filter.1 hw).1)
  simpa using this
 unfold wv
 by_cases e5:op=15
 ·rw [if_pos e5];unfold vd;have e4:¬ op=14:=by omega
  simp only [if_neg e4,if_pos e5,hA,List.append_nil]
 ·rw [if_neg e5]
  by_cases hc:c∈ws
  ·rw [if_pos (hm.2 hc)];unfold vd;rw [if_neg e5,if_neg e5,hB,if_pos hc,List.append_nil]
   by_cases e4:op=14
   ·rw [if_pos e4,if_pos e4];rw [if_pos e4]
   ·rw [if_neg e4,if_neg e4,if_neg e4,List.filter_append,hA,hC]
  ·rw [if_neg (λh2=>hc (hm.1 h2))];unfold vd;rw [if_neg e5,if_neg e5,hB,if_neg hc,<- List.append_assoc]
   congr 2
   by_cases e4:op=14
   ·rw [if_pos e4,if_pos e4]
   ·rw [if_neg e4,if_neg e4,hA];refine List.filter_eq_self.2 λw hw=>?_
    have:w≠c:=λe=>hc (e ▸ (List.mem_filter.1 hw).1)
    simpa using this
theorem vL (h:ws.Nodup)(hl:l.Nodup):(vd op ws l).Nodup:=by
 unfold vd;rw [List.nodup_append];refine⟨?_,?_,λx hx y hy e=>?_⟩
 ·split
  ·exact h
  ·exact h.sublist List.filter_sublist
 ·split
  ·exact List.nodup_nil
  ·exact hl.sublist List.filter_sublist
 ·by_cases e5:op=15
  ·rw [if_pos e5] at hy;cases hy
  ·rw [if_neg e5] at hy;have h1:=(List.mem_filter.1 hy).2;have h2:x∈ws:=by
    by_cases e4:op=14
    ·rwa [if_pos e4] at hx
    ·rw [if_neg e4] at hx;exact (List.mem_filter.1 hx).1
   rw [<- e] at h1;simp [h2] at h1
end
theorem FF {s c:List UInt8}(h:MR s)(hn:(aC s).Nodup)(hc:NW c)(hl:s.length<=2147483647):∃ r,dW (s,32::(c++[32]),[(32:UInt8)])=some r/\MR r/\(aC r=(aC s).filter λw=>!decide (w=c))/\r.length<=s.length:=by
 have l6:=hc.len;have parts:∀ a b:List UInt8,s=a++(32::(c++[32]))++b->aC s=aC a++c::aC b:=λa b e=>by rw [e,show a++(32::(c++[32]))++b=a++32::(c++32::b) by simp,xJ xK xK hc.ne hc.sp]
 have noB:∀ a b:List UInt8,s=a++(32::(c++[32]))++b->c∉aC a/\c∉aC b:=λa b e=>by have h1:=parts a b e;rw [h1,List.nodup_append] at hn;obtain⟨_,h2,h3⟩:=hn;rw [List.nodup_cons] at h2;exact⟨λh=>h3 c h c (by simp) rfl,h2.1⟩
 have PO:∀ l:Wd,c∉l->l.filter (λw=>!decide (w=c))=l:=λl hl=>List.filter_eq_self.2 λw hw=>by
  have:w≠c:=λe=>hl (e ▸ hw)
  simpa using this
 rcases JJ s (32::(c++[32])) hl (by simp;omega) (λa b e lH=>by
  obtain⟨x,y,he⟩:=lH;have h2:=(noB a b e).2;rw [he,show x++(32::(c++[32]))++y=x++32::(c++32::y) by simp,xJ xK xK hc.ne hc.sp] at h2;exact h2 (by simp)) with⟨hn,hr⟩ | ⟨a,b,e,hr⟩
 ·exact⟨s,hr,h,(PO _ λhm=>hn ((HZ hc.ne hc.sp h.lb h.front h.back).2 hm)).symm,Nat.le_refl _⟩
 ·obtain⟨h1,h2⟩:=noB a b e;have lH:∀ x∈a++32::b,x∈s:=λx hx=>by
   rw [e];rcases List.mem_append.1 hx with hx | hx
   ·simp [hx]
   ·rcases List.mem_cons.1 hx with rfl | hx
    ·simp
    ·simp [hx]
  have hle:=congrArg List.length e;simp at hle;refine⟨a++32::b,hr,⟨λx hx=>h.nv x (lH x hx),λx hx=>h.lb x (lH x hx),?_,?_⟩,?_,by simp;omega⟩
  ·cases a with
   | nil=>exact⟨b,rfl⟩
   | cons x a =>
    obtain⟨r,hr⟩:=h.front;rw [e] at hr;cases List.cons.inj hr |>.1
    exact⟨a++32::b,rfl⟩
  ·rcases List.eq_nil_or_concat b with rfl | ⟨b',y,rfl⟩
   ·exact⟨a,rfl⟩
   ·rw [List.concat_eq_append] at *;obtain⟨q,hq⟩:=h.back;rw [e,<- List.append_assoc] at hq
    have:=(List.append_inj' hq rfl).2
    cases List.cons.inj this |>.1
    exact⟨a++32::b',by simp⟩
  ·rw [m7 xK,parts a b e,List.filter_append,List.filter_cons,if_neg (by simp),PO _ h1,PO _ h2]
structure xM (op:Int)(ws cs:Wd)(B k:Nat)(cur:List UInt8):Prop where
 cu:MR cur
 wd:aC cur=vd op ws (cs.take k)
 len:cur.length+pH (cs.drop k)<=B
section
variable {op:Int}{ws cs:Wd}{B k:Nat}{cur c:List UInt8}
theorem xM.add (h:xM op ws cs B k cur)(hn:cs.Nodup)(hk:cs[k]?=some c)(hc:NW c)(ho:wv op (aC cur) c=aC cur++[c]):xM op ws cs B (k+1) (cur++(c++[32])):=by
 obtain⟨a1,a2⟩:=h.cu.add hc;have hl:=h.len;rw [drop_cons hk,gY] at hl;have ht:cs.take (k+1)=cs.take k++[c]:=by rw [List.take_add_one,hk];rfl
 have QS:c∉cs.take k:=by
  have:=hn.sublist (List.take_sublist (k+1) cs)
  rw [ht,List.nodup_append] at this;exact λhm=>this.2.2 c hm c (by simp) rfl
 refine⟨a1,?_,?_⟩
 ·rw [a2,ht,H5 QS,<- h.wd,ho]
 ·simp only [List.length_append,List.length_cons,List.length_nil];omega
theorem xM.del (h:xM op ws cs B k cur)(hn:cs.Nodup)(hk:cs[k]?=some c){r:List UInt8}(hr:MR r)(hl:r.length<=cur.length)(ho:aC r=wv op (aC cur) c):xM op ws cs B (k+1) r:=by
 have Mh:=h.len;rw [drop_cons hk,gY] at Mh;have ht:cs.take (k+1)=cs.take k++[c]:=by rw [List.take_add_one,hk];rfl
 have QS:c∉cs.take k:=by
  have:=hn.sublist (List.take_sublist (k+1) cs)
  rw [ht,List.nodup_append] at this;exact λhm=>this.2.2 c hm c (by simp) rfl
 exact⟨hr,by rw [ho,ht,H5 QS,<- h.wd],by omega⟩
end
section
variable {N1 N2:List (Option Nat)}{ia ib:Int}{x:Option Nat}{p:Option (Nat×Nat)}{S:List HN}{cs ws:Wd}{cur:List UInt8}
theorem zF (nq:∀ c∈cs,NW c)(hn:cs.Nodup)(hw:ws.Nodup){B:Nat}(hB:B<=2000000000)(hl:cs.length<=1000000000)(h:xM 14 ws cs B 0 cur) :
  ∃ mP,ab bt (N1,cs,x,cur,p,N2,ia,ib,(),(cs.length:Int),(0:Int),S)=some (N1,cs,x,mP,p,N2,ia,ib,S)/\MR mP/\aC mP=vd 14 ws cs/\mP.length<=B:=by
 obtain⟨b,hb,mP,rfl,h1⟩:=js (body:=bt) (n:=cs.length) (λ(k:Nat) (cur:List UInt8)=>(N1,cs,x,cur,p,N2,ia,ib,(),(cs.length:Int),(k:Int),S)) (λk cur=>xM 14 ws cs B k cur) (λb=>∃ mP,b=(N1,cs,x,mP,p,N2,ia,ib,S)/\xM 14 ws cs B cs.length mP) (λk cur hk hI=>by
  left;obtain⟨c,hc⟩:=ay hk;have hN:=nq c (List.mem_of_getElem? hc);obtain⟨p1,p2,p3⟩:=JO hN;have l6:=hN.len;have RW:=hI.len;have my:(aC cur).Nodup:=by rw [hI.wd];exact vL hw (hn.sublist (List.take_sublist k cs))
  have yB:=tu hI.cu hN (by omega);obtain⟨r,hr,sK,BG,Mn⟩:=FF hI.cu my hN (by omega)
  by_cases e:c∈aC cur
  ·rw [decide_eq_true e] at yB;refine⟨if (14:Int)=14 then cur else r,?_,?_⟩
   ·simp only [bt,aa,ad,Int.toNat_natCast,hc,bind_some,p1,p2,yB,hr,Bool.not_true,cond_true,cond_false];rw [if_pos (by omega),cD (by omega) (by omega)];rfl
   ·by_cases e4:(14:Int)=14
    ·rw [if_pos e4];exact hI.del hn hc hI.cu (Nat.le_refl _) (by rw [wv,if_neg (by omega),if_pos e,if_pos e4])
    ·rw [if_neg e4];refine hI.del hn hc sK Mn ?_;rw [BG,wv,if_pos e,if_neg e4]
     split <;> rfl
  ·rw [decide_eq_false e] at yB;refine⟨if (14:Int)=15 then r else cur++(c++[32]),?_,?_⟩
   ·simp only [bt,aa,ad,Int.toNat_natCast,hc,bind_some,p1,p2,p3,yB,hr,Bool.not_false,cond_true,cond_false];rw [if_pos (by omega),cD (by omega) (by omega)]
    first | rfl | (rw [j_ (show cur.length+(c++[32]).length<=9223372036854775807 by simp;omega)];rfl)
   ·by_cases e5:(14:Int)=15
    ·rw [if_pos e5];exact hI.del hn hc sK Mn (by rw [BG,wv,if_pos e5])
    ·rw [if_neg e5];exact hI.add hn hc hN (by rw [wv,if_neg e5,if_neg e])) (λcur hI=>⟨_,by
  simp only [bt,aa];rw [if_neg (by omega)],cur,rfl,hI⟩) cs.length 0 cur rfl (Nat.zero_le _) h
 refine⟨mP,hb,h1.cu,?_,by have:=h1.len;omega⟩;rw [h1.wd,List.take_length]
theorem yC (nq:∀ c∈cs,NW c)(hn:cs.Nodup)(hw:ws.Nodup){B:Nat}(hB:B<=2000000000)(hl:cs.length<=1000000000)(h:xM 15 ws cs B 0 cur) :
  ∃ mP,ab bp (N1,cs,false,x,cur,p,N2,ia,ib,(),(cs.length:Int),(0:Int),S)=some (N1,cs,false,x,mP,p,N2,ia,ib,S)/\MR mP/\aC mP=vd 15 ws cs/\mP.length<=B:=by
 obtain⟨b,hb,mP,rfl,h1⟩:=js (body:=bp) (n:=cs.length) (λ(k:Nat) (cur:List UInt8)=>(N1,cs,false,x,cur,p,N2,ia,ib,(),(cs.length:Int),(k:Int),S)) (λk cur=>xM 15 ws cs B k cur) (λb=>∃ mP,b=(N1,cs,false,x,mP,p,N2,ia,ib,S)/\xM 15 ws cs B cs.length mP) (λk cur hk hI=>by
  left;obtain⟨c,hc⟩:=ay hk;have hN:=nq c (List.mem_of_getElem? hc);obtain⟨p1,p2,p3⟩:=JO hN;have l6:=hN.len;have RW:=hI.len;have my:(aC cur).Nodup:=by rw [hI.wd];exact vL hw (hn.sublist (List.take_sublist k cs))
  have yB:=tu hI.cu hN (by omega);obtain⟨r,hr,sK,BG,Mn⟩:=FF hI.cu my hN (by omega)
  by_cases e:c∈aC cur
  ·rw [decide_eq_true e] at yB;refine⟨if (15:Int)=14 then cur else r,?_,?_⟩
   ·simp only [bp,aa,ad,Int.toNat_natCast,hc,bind_some,p1,p2,yB,hr,Bool.not_true,cond_true,cond_false];rw [if_pos (by omega),cD (by omega) (by omega)];rfl
   ·by_cases e4:(15:Int)=14
    ·rw [if_pos e4];exact hI.del hn hc hI.cu (Nat.le_refl _) (by rw [wv,if_neg (by omega),if_pos e,if_pos e4])
    ·rw [if_neg e4];refine hI.del hn hc sK Mn ?_;rw [BG,wv,if_pos e,if_neg e4]
     split <;> rfl
  ·rw [decide_eq_false e] at yB;refine⟨if (15:Int)=15 then r else cur++(c++[32]),?_,?_⟩
   ·simp only [bp,aa,ad,Int.toNat_natCast,hc,bind_some,p1,p2,p3,yB,hr,Bool.not_false,cond_true,cond_false];rw [if_pos (by omega),cD (by omega) (by omega)]
    first | rfl | (rw [j_ (show cur.length+(c++[32]).length<=9223372036854775807 by simp;omega)];rfl)
   ·by_cases e5:(15:Int)=15
    ·rw [if_pos e5];exact hI.del hn hc sK Mn (by rw [BG,wv,if_pos e5])
    ·rw [if_neg e5];exact hI.add hn hc hN (by rw [wv,if_neg e5,if_neg e])) (λcur hI=>⟨_,by
  simp only [bp,aa];rw [if_neg (by omega)],cur,rfl,hI⟩) cs.length 0 cur rfl (Nat.zero_le _) h
 refine⟨mP,hb,h1.cu,?_,by have:=h1.len;omega⟩;rw [h1.wd,List.take_length]
theorem yD (nq:∀ c∈cs,NW c)(hn:cs.Nodup)(hw:ws.Nodup){B:Nat}(hB:B<=2000000000)(hl:cs.length<=1000000000)(h:xM 16 ws cs B 0 cur) :
  ∃ mP,ab bq (N1,cs,x,cur,p,N2,ia,ib,(),(cs.length:Int),(0:Int),S)=some (N1,cs,x,mP,p,N2,ia,ib,S)/\MR mP/\aC mP=vd 16 ws cs/\mP.length<=B:=by
 obtain⟨b,hb,mP,rfl,h1⟩:=js (body:=bq) (n:=cs.length) (λ(k:Nat) (cur:List UInt8)=>(N1,cs,x,cur,p,N2,ia,ib,(),(cs.length:Int),(k:Int),S)) (λk cur=>xM 16 ws cs B k cur) (λb=>∃ mP,b=(N1,cs,x,mP,p,N2,ia,ib,S)/\xM 16 ws cs B cs.length mP) (λk cur hk hI=>by
  left;obtain⟨c,hc⟩:=ay hk;have hN:=nq c (List.mem_of_getElem? hc);obtain⟨p1,p2,p3⟩:=JO hN;have l6:=hN.len;have RW:=hI.len;have my:(aC cur).Nodup:=by rw [hI.wd];exact vL hw (hn.sublist (List.take_sublist k cs))
  have yB:=tu hI.cu hN (by omega);obtain⟨r,hr,sK,BG,Mn⟩:=FF hI.cu my hN (by omega)
  by_cases e:c∈aC cur
  ·rw [decide_eq_true e] at yB;refine⟨if (16:Int)=14 then cur else r,?_,?_⟩
   ·simp only [bq,aa,ad,Int.toNat_natCast,hc,bind_some,p1,p2,yB,hr,Bool.not_true,cond_true,cond_false];rw [if_pos (by omega),cD (by omega) (by omega)];rfl
   ·by_cases e4:(16:Int)=14
    ·rw [if_pos e4];exact hI.del hn hc hI.cu (Nat.le_refl _) (by rw [wv,if_neg (by omega),if_pos e,if_pos e4])
    ·rw [if_neg e4];refine hI.del hn hc sK Mn ?_;rw [BG,wv,if_pos e,if_neg e4]
     split <;> rfl
  ·rw [decide_eq_false e] at yB;refine⟨if (16:Int)=15 then r else cur++(c++[32]),?_,?_⟩
   ·simp only [bq,aa,ad,Int.toNat_natCast,hc,bind_some,p1,p2,p3,yB,hr,Bool.not_false,cond_true,cond_false];rw [if_pos (by omega),cD (by omega) (by omega)]
    first | rfl | (rw [j_ (show cur.length+(c++[32]).length<=9223372036854775807 by simp;omega)];rfl)
   ·by_cases e5:(16:Int)=15
    ·rw [if_pos e5];exact hI.del hn hc sK Mn (by rw [BG,wv,if_pos e5])
    ·rw [if_neg e5];exact hI.add hn hc hN (by rw [wv,if_neg e5,if_neg e])) (λcur hI=>⟨_,by
  simp only [bq,aa];rw [if_neg (by omega)],cur,rfl,hI⟩) cs.length 0 cur rfl (Nat.zero_le _) h
 refine⟨mP,hb,h1.cu,?_,by have:=h1.len;omega⟩;rw [h1.wd,List.take_length]
end
theorem VO {G:Fo}{M:Nat->HN}{c:Nat}{zs:List cr}(hc:c<G.m):(G.st M).set c ((G.a7 M c).wa zs)=G.st (dq M c ((M c).wa zs)):=by
 unfold Fo.st;rw [cz hc];refine gQ λi hi=>?_
 by_cases e:i=c
 ·subst e;rw [ao];simp only [Fo.a7,ao,HN.wa]
 ·rw [bJ e];simp only [Fo.a7,bJ e]
theorem TL {G:Fo}{M:Nat->HN}{c:Nat}(hc:c<G.m):(G.st M)[c]?=some (G.a7 M c):=by unfold Fo.st;exact dp hc
theorem ve {X B:Type}{body:X->Option (ai X B)}{G:Fo}{M:Nat->HN}(st:Nat->List HN->X)(fin:List HN->B){l:List Nat}(my:l.Nodup)(hm:∀ c∈l,c<G.m)(R:HN->List cr->Prop)(h:∀ k c S x,l[k]?=some c->c∈l->S[c]?=some x->x.ty=(M c).ty->x.attrs=(M c).attrs->∃ zs,body (st k S)=some (.nx (st (k+1) (S.set c (x.wa zs))))/\R (M c) zs)(he:∀ S,body (st l.length S)=some (.out (fin S))) :
  ∃ M',ab body (st 0 (G.st M))=some (fin (G.st M'))/\(∀ c∈l,∃ zs,M' c=(M c).wa zs/\R (M c) zs)/\∀ c,c∉l->M' c=M c:=by
 obtain⟨b,hb,M',rfl,h1,h2⟩:=js (body:=body) (n:=l.length) st (λk S=>∃ M',S=G.st M'/\(∀ c∈l.take k,∃ zs,M' c=(M c).wa zs/\R (M c) zs)/\∀ c,c∉l.take k->M' c=M c) (λb=>∃ M',b=fin (G.st M')/\(∀ c∈l,∃ zs,M' c=(M c).wa zs/\R (M c) zs)/\∀ c,c∉l->M' c=M c) (λk S hk hI=>by
  obtain⟨M',rfl,h1,h2⟩:=hI;obtain⟨c,hc⟩:=ay hk;have qq:=List.mem_of_getElem? hc;have ht:l.take (k+1)=l.take k++[c]:=by rw [List.take_add_one,hc];rfl
  have QS:c∉l.take k:=by
   have:=my.sublist (List.take_sublist (k+1) l)
   rw [ht,List.nodup_append] at this;exact λhm=>this.2.2 c hm c (by simp) rfl
  obtain⟨zs,h3,h4⟩:=h k c (G.st M') (G.a7 M' c) hc qq (TL (hm c qq)) (by rw [<- h2 c QS];rfl) (by rw [<- h2 c QS];rfl);left;refine⟨_,h3,dq M' c ((M' c).wa zs),VO (hm c qq),λd hd=>?_,λd hd=>?_⟩
  ·by_cases e:d=c
   ·subst e;refine⟨zs,by rw [ao,h2 d QS],h4⟩
   ·rw [bJ e];rw [ht] at hd;exact h1 d ((List.mem_append.1 hd).elim id λh=>absurd (List.mem_singleton.1 h) e)
  ·rw [ht] at hd;have e:d≠c:=λe=>hd (by simp [e])
   rw [bJ e];exact h2 d λh=>hd (by simp [h])) (λS hI=>by
  obtain⟨M',rfl,h1,h2⟩:=hI;rw [List.take_length] at h1 h2;exact⟨_,he _,M',rfl,h1,h2⟩) l.length 0 (G.st M) rfl (Nat.zero_le _) ⟨M,rfl,by simp,λ_ _=>rfl⟩
 exact⟨M',hb,h1,h2⟩
structure AP (op:Int)(k v:List UInt8)(cs:Wd)(ys zs:List Attr):Prop where
 set:op=12->zs=wA k v ys
 rm:op=13->UK zs/\∀ k',vl zs k'=if k'=k then none else vl ys k'
 cls:14<=op->UK zs/\∃ t,aC t=vd op (aC (cl ys)) cs/\NV t/\(∀ x∈t,x.toNat≠12)/\t.length<=(cl ys).length+2+pH cs/\∀ k',vl zs k'=if k'=cA then (if t=[] then none else some t) else vl ys k'
section
variable {S:List HN}{G:Fo}{M:Nat->HN}{l:List Nat}{k v:List UInt8}{cs:Wd}
theorem JP (my:l.Nodup)(hm:∀ c∈l,c<G.m)(ha:∀ c∈l,(M c).attrs.length<=1000000)(hl:l.length<=1000000)(k v:List UInt8) :
  ∃ M',fP (l.map some,k,v,G.st M)=some ((),G.st M')/\(∀ c∈l,∃ zs,M' c=(M c).wa zs/\AP 12 k v cs (aH (M c).attrs) (aH zs))/\∀ c,c∉l->M' c=M c:=by
 obtain⟨M',h1,h2,h3⟩:=ve (body:=b_) (G:=G) (M:=M) (λ(i:Nat) (S:List HN)=>(l.map some,k,v,l.map some,(l.length:Int),(i:Int),S)) (λS=>(l.map some,S)) my hm (λh zs=>AP 12 k v cs (aH h.attrs) (aH zs)) (λi c S x hi qq hx _ Gv=>by
  have K6:=(List.getElem?_eq_some_iff.1 hi).1;have PQ:x.attrs.length<=1000000:=by rw [Gv];exact ha c qq
  have hs:(l.map some)[i]?=some (some c):=by rw [List.getElem?_map,hi];rfl
  rw [<- Gv];rcases PK hx k PQ with⟨j,a,h1,h2⟩ | ⟨h1,h2⟩
  ·refine⟨x.attrs.set j ⟨a.ns,a.key,v⟩,?_,λ_=>h1.set v,λh=>absurd h (by decide),λh=>absurd h (by decide)⟩;simp only [b_,aa,ad,hs,bind_some,h2,Option.isNone_some,cond_false,hx,h1.get];rw [if_pos (by omega),cD (by omega) (by omega)];rfl
  ·refine⟨x.attrs++[⟨[],k,v⟩],?_,λ_=>?_,λh=>absurd h (by decide),λh=>absurd h (by decide)⟩
   ·simp only [b_,aa,ad,hs,bind_some,h2,Option.isNone_none,cond_true,hx];rw [if_pos (by omega),cD (by omega) (by omega),a6 (by simp;omega),bind_some,if_pos trivial];rfl
   ·rw [JL (vK.1 (PJ h1))];simp [aH,pX]) (λS=>by
  simp only [b_,aa];rw [if_neg (by omega)])
 refine⟨M',?_,h2,h3⟩;simp only [fP,List.length_map];rw [show ab b_ (l.map some,k,v,l.map some,(l.length:Int),(0:Int),G.st M)=_ from h1];rfl
theorem MS (my:l.Nodup)(hm:∀ c∈l,c<G.m)(ha:∀ c∈l,(M c).attrs.length<=1000000/\UK (aH (M c).attrs))(hl:l.length<=1000000)(k:List UInt8) :
  ∃ M',eT (l.map some,k,G.st M)=some ((),G.st M')/\(∀ c∈l,∃ zs,M' c=(M c).wa zs/\AP 13 k v cs (aH (M c).attrs) (aH zs))/\∀ c,c∉l->M' c=M c:=by
 obtain⟨M',h1,h2,h3⟩:=ve (body:=cg) (G:=G) (M:=M) (λ(i:Nat) (S:List HN)=>(l.map some,k,l.map some,(l.length:Int),(i:Int),S)) (λS=>(l.map some,S)) my hm (λh zs=>AP 13 k v cs (aH h.attrs) (aH zs)) (λi c S x hi qq hx _ Gv=>by
  have K6:=(List.getElem?_eq_some_iff.1 hi).1;obtain⟨Sm,QT⟩:=ha c qq;rw [<- Gv] at Sm QT ⊢;have hs:(l.map some)[i]?=some (some c):=by rw [List.getElem?_map,hi];rfl
  obtain⟨zs,h1,h2⟩:=Eg hx k (by omega) QT;refine⟨zs,?_,λh=>absurd h (by decide),λ_=>⟨(h2.map _).nodup_iff.1 (H4 QT),λk'=>by rw [K1 (H4 QT) h2,Cs]⟩,λh=>absurd h (by decide)⟩;simp only [cg,aa,ad,hs,bind_some,h1];rw [if_pos (by omega),cD (by omega) (by omega)]
  rfl) (λS=>by
  simp only [cg,aa];rw [if_neg (by omega)])
 refine⟨M',?_,h2,h3⟩;simp only [eT,List.length_map];rw [show ab cg (l.map some,k,l.map some,(l.length:Int),(0:Int),G.st M)=_ from h1];rfl
structure AT (cs:Wd):Prop where
 nw:∀ c∈cs,NW c
 nd:cs.Nodup
 tt:pH cs<=1048576
structure K7 (h:HN):Prop where
 ty:h.ty=3
 at_:h.attrs.length<=1000000
 uk:UK (aH h.attrs)
 sc:SC (cl (aH h.attrs))
 cl_:(cl (aH h.attrs)).length<=1000000000
theorem FG {c j:Nat}{h:HN}{a:cr}{op:Int}(hg:S[c]?=some h)(hx:PI h.attrs cA j a)(hl:h.attrs.length<=1000001){ys:List Attr}(hy:UK ys)(QN:aH h.attrs=ys∨vl ys cA=none/\aH h.attrs=wA cA [] ys){cur:List UInt8}(hc:MR cur)(hw:aC cur=vd op (aC (cl ys)) cs)(hB:cur.length<=(cl ys).length+2+pH cs)(hb:cur.length<=2000000000) :
  ∃ zs,dK (some c,some (c,j),cur,S)=some (S.set c (h.wa zs))/\UK (aH zs)/\∃ t,aC t=vd op (aC (cl ys)) cs/\NV t/\(∀ x∈t,x.toNat≠12)/\t.length<=(cl ys).length+2+pH cs/\∀ k',vl (aH zs) k'=if k'=cA then (if t=[] then none else some t) else vl ys k':=by
 obtain⟨t,a',b,ht,hs,hta,htb⟩:=KZ cur (by omega) hc.nv;have hu:UK (aH h.attrs):=by
  rcases QN with e | ⟨_,e⟩
  ·rw [e];exact hy
  ·rw [e];exact H3 hy
 obtain⟨zs,h1,h2,h3⟩:=Sj hg hx hl hu ht;have hlen:=congrArg List.length hs;simp at hlen;refine⟨zs,h1,h2,t,by rw [<- Cr hs hta htb];exact hw,NV.mid (by rw [<- hs];exact hc.nv),λc qq h=>?_,by omega,λk'=>?_⟩
 ·have:=hc.lb c (by rw [hs];simp [qq]) (by simp [eB,h])
  rw [this] at h;exact absurd h (by decide)
 ·rw [h3]
  by_cases e:k'=cA
  ·rw [if_pos e,if_pos e]
  ·rw [if_neg e,if_neg e];rcases QN with e2 | ⟨_,e2⟩
   ·rw [e2]
   ·rw [e2,yy,if_neg e]
theorem FH (h:AT cs)(h0:cs≠[]):∃ t0,jn (cs,[(32:UInt8)])=some (jL cs)/\cR (jL cs)=some t0/\t0≠[]/\dN t0=some cs:=by
 have hjw:=xL (l:=cs) λc hc=>⟨(h.nw c hc).ne,(h.nw c hc).sp⟩
 have GA:=yA cs;have ht:=h.tt;obtain⟨t0,a0,b0,ht0,E3,XI,UW⟩:=KZ (jL cs) (by omega) (FD h.nw);have Xb:aC t0=cs:=by rw [<- Cr E3 XI UW];exact hjw
 have hlen:=congrArg List.length E3;simp at hlen;refine⟨t0,join_eq cs ht,ht0,λe=>by rw [e,oS] at Xb;exact h0 Xb.symm,?_⟩;simp only [dN];rw [MN t0 (by omega) (NV.mid (by rw [<- E3];exact FD h.nw)),bind_some,Xb]
theorem Cv (my:l.Nodup)(hm:∀ c∈l,c<G.m)(ha:∀ c∈l,K7 (M c))(hl:l.length<=1000000)(h:AT cs)(h0:cs≠[]) :
  ∃ M',eU (l.map some,cs,G.st M)=some (l.map some,G.st M')/\(∀ c∈l,∃ zs,M' c=(M c).wa zs/\AP 14 k v cs (aH (M c).attrs) (aH zs))/\∀ c,c∉l->M' c=M c:=by
 obtain⟨t0,q1,q2,q3,q4⟩:=FH h h0;have Sn:=h.tt;have l6:=oZ cs;obtain⟨M',h1,h2,h3⟩:=ve (body:=cj) (G:=G) (M:=M) (λ(i:Nat) (S:List HN)=>(l.map some,cs,l.map some,(l.length:Int),(i:Int),S)) (λS=>(l.map some,S)) my hm (λh zs=>AP 14 k v cs (aH h.attrs) (aH zs)) (λi c S x hi qq hx Yg Gv=>by
  have K6:=(List.getElem?_eq_some_iff.1 hi).1;obtain⟨a1,a2,a3,a4,a5⟩:=ha c qq;rw [<- Gv] at a2 a3 a4 a5 ⊢;have hs:(l.map some)[i]?=some (some c):=by rw [List.getElem?_map,hi];rfl
  obtain⟨xb,j,a,g1,g2,g3⟩:=JM hx (Yg.trans a1) a2 (by omega);obtain⟨c1,c2⟩:=JN a4.nv a4.ff;have PQ:xb.length<=1000001:=by
   rw [<- sd];rcases g3 with e | ⟨_,e⟩
   ·rw [e,sd];omega
   ·rw [e];have:=vc cA [] (aH x.attrs);rw [sd] at this;omega
  have PR:=(List.getElem?_eq_some_iff.1 hx).1;obtain⟨mP,w1,w2,w3,w4⟩:=zF (N1:=l.map some) (N2:=l.map some) (ia:=(l.length:Int)) (ib:=(i:Int)) (x:=some c) (p:=some (c,j)) (S:=S.set c (x.wa xb)) (cs:=cs) (ws:=aC (cl (aH x.attrs))) h.nw h.nd a4.nd (B:=(cl (aH x.attrs)).length+2+pH cs) (by omega) (by omega) ⟨c1,by rw [List.take_zero,FE,c2],by rw [List.drop_zero];simp⟩;obtain⟨zs,z1,z2,z3⟩:=FG (cs:=cs) (op:=14) (S:=S.set c (x.wa xb)) (c:=c) (h:=x.wa xb) (j:=j) (a:=a) (List.getElem?_set_self PR) g2 PQ a3 g3 w2 w3 w4 (by omega);refine⟨zs,?_,λh=>absurd h (by decide),λh=>absurd h (by decide),λ_=>⟨z2,z3⟩⟩;simp only [cj,aa,ad,hs,bind_some,g1,cond_false];rw [if_pos (by omega),w1,bind_some];simp only [z1,bind_some,List.set_set];rw [cD (by omega) (by omega)]
  rfl) (λS=>by
  simp only [cj,aa];rw [if_neg (by omega)])
 refine⟨M',?_,h2,h3⟩;have hd:decide (t0=[])=false:=decide_eq_false q3;have h1:ab cj (l.map some,cs,l.map some,(l.length:Int),(0:Int),G.st M)=_:=h1;simp only [eU,q1,q2,q4,bind_some,List.length_map,tr,hd,cond_false,cond_true,Bool.not_false,h1]
theorem AU (my:l.Nodup)(hm:∀ c∈l,c<G.m)(ha:∀ c∈l,K7 (M c))(hl:l.length<=1000000)(h:AT cs)(h0:cs≠[]) :
  ∃ M',eI (l.map some,cs,G.st M)=some ((),G.st M')/\(∀ c∈l,∃ zs,M' c=(M c).wa zs/\AP 15 k v cs (aH (M c).attrs) (aH zs))/\∀ c,c∉l->M' c=M c:=by
 obtain⟨t0,q1,q2,q3,q4⟩:=FH h h0;have Sn:=h.tt;have l6:=oZ cs;obtain⟨M',h1,h2,h3⟩:=ve (body:=bF) (G:=G) (M:=M) (λ(i:Nat) (S:List HN)=>(l.map some,cs,false,l.map some,(l.length:Int),(i:Int),S)) (λS=>(l.map some,S)) my hm (λh zs=>AP 15 k v cs (aH h.attrs) (aH zs)) (λi c S x hi qq hx Yg Gv=>by
  have K6:=(List.getElem?_eq_some_iff.1 hi).1;obtain⟨a1,a2,a3,a4,a5⟩:=ha c qq;rw [<- Gv] at a2 a3 a4 a5 ⊢;have hs:(l.map some)[i]?=some (some c):=by rw [List.getElem?_map,hi];rfl
  obtain⟨xb,j,a,g1,g2,g3⟩:=JM hx (Yg.trans a1) a2 (by omega);obtain⟨c1,c2⟩:=JN a4.nv a4.ff;have PQ:xb.length<=1000001:=by
   rw [<- sd];rcases g3 with e | ⟨_,e⟩
   ·rw [e,sd];omega
   ·rw [e];have:=vc cA [] (aH x.attrs);rw [sd] at this;omega
  have PR:=(List.getElem?_eq_some_iff.1 hx).1;obtain⟨mP,w1,w2,w3,w4⟩:=yC (N1:=l.map some) (N2:=l.map some) (ia:=(l.length:Int)) (ib:=(i:Int)) (x:=some c) (p:=some (c,j)) (S:=S.set c (x.wa xb)) (cs:=cs) (ws:=aC (cl (aH x.attrs))) h.nw h.nd a4.nd (B:=(cl (aH x.attrs)).length+2+pH cs) (by omega) (by omega) ⟨c1,by rw [List.take_zero,FE,c2],by rw [List.drop_zero];simp⟩;obtain⟨zs,z1,z2,z3⟩:=FG (cs:=cs) (op:=15) (S:=S.set c (x.wa xb)) (c:=c) (h:=x.wa xb) (j:=j) (a:=a) (List.getElem?_set_self PR) g2 PQ a3 g3 w2 w3 w4 (by omega);refine⟨zs,?_,λh=>absurd h (by decide),λh=>absurd h (by decide),λ_=>⟨z2,z3⟩⟩;simp only [bF,aa,ad,hs,bind_some,g1,cond_false];rw [if_pos (by omega),w1,bind_some];simp only [z1,bind_some,List.set_set];rw [cD (by omega) (by omega)]
  rfl) (λS=>by
  simp only [bF,aa];rw [if_neg (by omega)])
 refine⟨M',?_,h2,h3⟩;have hd:decide (t0=[])=false:=decide_eq_false q3;have h1:ab bF (l.map some,cs,false,l.map some,(l.length:Int),(0:Int),G.st M)=_:=h1;simp only [eI,q1,q2,q4,bind_some,List.length_map,tr,hd,cond_false,cond_true,Bool.not_false,h1]
theorem AV (my:l.Nodup)(hm:∀ c∈l,c<G.m)(ha:∀ c∈l,K7 (M c))(hl:l.length<=1000000)(h:AT cs)(h0:cs≠[]) :
  ∃ M',eJ (l.map some,cs,G.st M)=some (l.map some,G.st M')/\(∀ c∈l,∃ zs,M' c=(M c).wa zs/\AP 16 k v cs (aH (M c).attrs) (aH zs))/\∀ c,c∉l->M' c=M c:=by
 obtain⟨t0,q1,q2,q3,q4⟩:=FH h h0;have Sn:=h.tt;have l6:=oZ cs;obtain⟨M',h1,h2,h3⟩:=ve (body:=b8) (G:=G) (M:=M) (λ(i:Nat) (S:List HN)=>(l.map some,cs,l.map some,(l.length:Int),(i:Int),S)) (λS=>(l.map some,S)) my hm (λh zs=>AP 16 k v cs (aH h.attrs) (aH zs)) (λi c S x hi qq hx Yg Gv=>by
  have K6:=(List.getElem?_eq_some_iff.1 hi).1;obtain⟨a1,a2,a3,a4,a5⟩:=ha c qq;rw [<- Gv] at a2 a3 a4 a5 ⊢;have hs:(l.map some)[i]?=some (some c):=by rw [List.getElem?_map,hi];rfl
  obtain⟨xb,j,a,g1,g2,g3⟩:=JM hx (Yg.trans a1) a2 (by omega);obtain⟨c1,c2⟩:=JN a4.nv a4.ff;have PQ:xb.length<=1000001:=by
   rw [<- sd];rcases g3 with e | ⟨_,e⟩
   ·rw [e,sd];omega
   ·rw [e];have:=vc cA [] (aH x.attrs);rw [sd] at this;omega
  have PR:=(List.getElem?_eq_some_iff.1 hx).1;obtain⟨mP,w1,w2,w3,w4⟩:=yD (N1:=l.map some) (N2:=l.map some) (ia:=(l.length:Int)) (ib:=(i:Int)) (x:=some c) (p:=some (c,j)) (S:=S.set c (x.wa xb)) (cs:=cs) (ws:=aC (cl (aH x.attrs))) h.nw h.nd a4.nd (B:=(cl (aH x.attrs)).length+2+pH cs) (by omega) (by omega) ⟨c1,by rw [List.take_zero,FE,c2],by rw [List.drop_zero];simp⟩;obtain⟨zs,z1,z2,z3⟩:=FG (cs:=cs) (op:=16) (S:=S.set c (x.wa xb)) (c:=c) (h:=x.wa xb) (j:=j) (a:=a) (List.getElem?_set_self PR) g2 PQ a3 g3 w2 w3 w4 (by omega);refine⟨zs,?_,λh=>absurd h (by decide),λh=>absurd h (by decide),λ_=>⟨z2,z3⟩⟩;simp only [b8,aa,ad,hs,bind_some,g1,cond_false];rw [if_pos (by omega),w1,bind_some];simp only [z1,bind_some,List.set_set];rw [cD (by omega) (by omega)]
  rfl) (λS=>by
  simp only [b8,aa];rw [if_neg (by omega)])
 refine⟨M',?_,h2,h3⟩;have hd:decide (t0=[])=false:=decide_eq_false q3;have h1:ab b8 (l.map some,cs,l.map some,(l.length:Int),(0:Int),G.st M)=_:=h1;simp only [eJ,q1,q2,q4,bind_some,List.length_map,tr,hd,cond_false,cond_true,Bool.not_false,h1]
end
section
variable {S:List HN}{G:Fo}{M:Nat->HN}{l:List Nat}{k v:List UInt8}{cs:Wd}{op:Int}{on wi:List Int}
theorem H6 (hm:∀ c∈l,c<G.m/\(M c).ty=3)(hl:l.length<=1000000):kX (l.map some,G.st M)=some true:=by
 simp only [kX];obtain⟨b,hb,rfl⟩:=js (body:=ic) (n:=l.length) (λ(i:Nat) (S:List HN)=>(l.map some,(l.length:Int),(i:Int),S)) (λ_ S=>S=G.st M) (λb=>b = .inl (G.st M)) (λi S hi hS=>by
  obtain rfl:=hS;obtain⟨c,hc⟩:=ay hi;obtain⟨h1,h2⟩:=hm c (List.mem_of_getElem? hc);have hs:(l.map some)[i]?=some (some c):=by rw [List.getElem?_map,hc];rfl
  have Sc:(G.a7 M c).ty=3:=h2;left;refine⟨_,?_,rfl⟩;simp only [ic,aa,ad,hs,bind_some,TL h1,Sc,ne_eq];rw [if_pos (by omega),if_neg (by decide),cD (by omega) (by omega)]
  rfl) (λS hS=>⟨_,by
  simp only [ic,aa];rw [if_neg (by omega)],by rw [hS]⟩) l.length 0 (G.st M) rfl (Nat.zero_le _) rfl
 have hb:ab ic (l.map some,(l.length:Int),(0:Int),G.st M)=_:=hb;rw [List.length_map,hb];rfl
theorem PT (h:op<12∨16<op):e_ (l.map some,(op,on,wi,k,v,cs),S)=some (false,S):=by simp only [e_,aa];rw [if_neg (by omega),if_neg (by omega),if_neg (by omega),if_neg (by omega),if_neg (by omega)]
theorem PU (h1:12<=op)(h2:op<=16)(my:l.Nodup)(hm:∀ c∈l,c<G.m)(ha:∀ c∈l,(M c).ty=3/\(M c).attrs.length<=1000000/\UK (aH (M c).attrs))(hl:l.length<=1000000)(hc:14<=op->(∀ c∈l,K7 (M c))/\AT cs/\cs≠[]) :
  ∃ M',e_ (l.map some,(op,on,wi,k,v,cs),G.st M)=some (true,G.st M')/\(∀ c∈l,∃ zs,M' c=(M c).wa zs/\AP op k v cs (aH (M c).attrs) (aH zs))/\∀ c,c∉l->M' c=M c:=by
 have hel:=H6 (G:=G) (M:=M) (l:=l) (λc h=>⟨hm c h,(ha c h).1⟩) hl;have ho:op=12∨op=13∨op=14∨op=15∨op=16:=by omega
 rcases ho with rfl | rfl | rfl | rfl | rfl
 ·obtain⟨M',q1,q2⟩:=JP (cs:=cs) my hm (λc h=>(ha c h).2.1) hl k v;refine⟨M',?_,q2⟩;simp only [e_,aa,q1,bind_some];rw [if_pos trivial]
 ·obtain⟨M',q1,q2⟩:=MS (cs:=cs) (v:=v) my hm (λc h=>(ha c h).2) hl k;refine⟨M',?_,q2⟩;simp only [e_,aa,q1,bind_some];rw [if_neg (by decide),if_pos trivial]
 ·obtain⟨c1,c2,c3⟩:=hc (by decide);obtain⟨M',q1,q2⟩:=Cv (k:=k) (v:=v) my hm c1 hl c2 c3;refine⟨M',?_,q2⟩;simp only [e_,aa,hel,q1,bind_some,cond_true];rw [if_neg (by decide),if_neg (by decide),if_pos trivial]
 ·obtain⟨c1,c2,c3⟩:=hc (by decide);obtain⟨M',q1,q2⟩:=AU (k:=k) (v:=v) my hm c1 hl c2 c3;refine⟨M',?_,q2⟩;simp only [e_,aa,q1,bind_some];rw [if_neg (by decide),if_neg (by decide),if_neg (by decide),if_pos trivial]
 ·obtain⟨c1,c2,c3⟩:=hc (by decide);obtain⟨M',q1,q2⟩:=AV (k:=k) (v:=v) my hm c1 hl c2 c3;refine⟨M',?_,q2⟩;simp only [e_,aa,hel,q1,bind_some,cond_true];rw [if_neg (by decide),if_neg (by decide),if_neg (by decide),if_neg (by decide),if_pos trivial]
end
section
variable {F G H:Fo}{P:Nat->Int×Node}{Z:Nat->Bool}{p c:Nat}{A B:List Nat}{S:List KN}
theorem put_eq (rv:cP (some c,S)=some (G.aZ P Z))(h:Sp F G p c A B)(hl:(F.kids p).length<=1000000):iv (some p,(A.length:Int),some c,S)=some (F.aZ P (dq Z p false)):=by
 have hm:F.m=G.m:=by rw [h.g];rfl
 have gk:G.kids p=A++B:=by rw [h.g];simp [Fo.eG]
 have gp:(G.aZ P Z)[p]?=some (G.jw P Z p):=Fo.mx (hm ▸ h.hp);have gc:(G.aZ P Z)[c]?=some (G.jw P Z c):=Fo.mx (hm ▸ h.hc);have kp:(G.jw P Z p).kids=(A++B).map some:=by show (G.kids p).map some=_;rw [gk]
 rw [h.k] at hl;simp only [List.length_append,List.length_cons] at hl;have gs:∀ e:KN,((G.aZ P Z).set p e)[c]?=some (G.jw P Z c):=λe=>by rw [List.getElem?_set_ne h.pc];exact gc
 have hlen:(((A++B).map some).length:Int)=((A.length+B.length:Nat):Int):=by simp
 have s1:gn ((A++B).map some) 0 (A.length:Int)=some (A.map some):=by rw [xG (by simp)];simp
 have s2:gn ((A++B).map some) (A.length:Int) ((A.length+B.length:Nat):Int)=some (B.map some):=by
  rw [oR _ (by omega) (by simp)]
  congr 1
  rw [List.take_of_length_le (by simp),<- List.map_drop]
  congr 1
  rw [List.drop_left' rfl]
 have d1:List.drop (Int.toNat 0) (List.take (Int.toNat (A.length:Int)) ((A++B).map some))=A.map some:=by simp
 have d2:List.drop (Int.toNat (A.length:Int)) (List.take (Int.toNat ((A.length+B.length:Nat):Int)) ((A++B).map some))=B.map some:=by
  rw [Int.toNat_natCast,Int.toNat_natCast,List.take_of_length_le (by simp),<- List.map_drop]
  congr 1
  rw [List.drop_left' rfl]
 simp only [iv,rv,bind_some,gp,kp,hlen,s1,s2,d1,d2];rw [a6 (by simp;omega)];simp only [bind_some,List.nil_append];rw [a6 (by simp;omega)];simp only [bind_some];rw [a6 (by simp;omega)];simp only [bind_some,gs]
 congr 1
 unfold Fo.aZ;rw [cz (hm ▸ h.hp),cz (hm ▸ h.hc),hm];refine gQ λi hi=>?_
 rw [h.g]
 by_cases e1:i=c
 ·subst e1;simp [dq,Fo.jw,Fo.eG,Ne.symm h.pc,h.u]
 ·by_cases e2:i=p
  ·subst e2;simp [dq,e1,Fo.jw,Fo.eG,KN.wk,h.k]
  ·simp [dq,e1,e2,Fo.jw,Fo.eG]
end
inductive jZ (F:Fo)(a:Nat):Nat->Prop
 | self:jZ F a a
 | up {p b:Nat} (h:F.up b=some p) (t:jZ F a p):jZ F a b
def Rk (F:Fo):Prop:=∃ r:Nat->Nat,∀ c p,F.up c=some p->r p<r c
theorem yE {F:Fo}{P:Nat->Int×Node}{Z:Nat->Bool}(hF:F.ok)(hr:Rk F){a b:Nat}(hb:b<F.m):∃ r,fU (some a,some b,F.aZ P Z)=some r/\(r=true↔jZ F a b):=by
 obtain⟨r,hr⟩:=hr;have key:∀ d b:Nat,r b<=d->b<F.m->∃ y,ab cC (some a,some b,F.aZ P Z)=some y/\((y = .inr (true,F.aZ P Z)/\jZ F a b)∨(y = .inl (F.aZ P Z)/\¬ jZ F a b)):=by
  intro d
  induction d with
  | zero =>
   intro b hd hb
   by_cases e:a=b
   ·subst e;refine⟨_,ae ?_, .inl ⟨rfl, .self⟩⟩;simp only [cC,Option.isNone_some,Bool.not_false,cond_true,decide_true]
   ·have hg:(F.aZ P Z)[b]?=some (F.jw P Z b):=Fo.mx hb;have hu:F.up b=none:=by
     cases h:F.up b with
     | none=>rfl
     | some p=>have:=hr b p h;omega
    have JB:(F.jw P Z b).up=none:=hu;have step:cC (some a,some b,F.aZ P Z)=some (.nx (some a,none,F.aZ P Z)):=by simp only [cC,Option.isNone_some,Bool.not_false,cond_true,aa,bind_some,hg,JB];rw [if_neg (by intro h;exact e (Option.some.inj h).symm)]
    rw [aj step];refine⟨_,ae ?_, .inr ⟨rfl,λh=>?_⟩⟩
    ·simp only [cC,Option.isNone_none,Bool.not_true,cond_false]
    ·cases h with
     | self=>exact e rfl
     | up h _=>rw [hu] at h;cases h
  | succ d ih =>
   intro b hd hb
   by_cases e:a=b
   ·subst e;refine⟨_,ae ?_, .inl ⟨rfl, .self⟩⟩;simp only [cC,Option.isNone_some,Bool.not_false,cond_true,decide_true]
   ·have hg:(F.aZ P Z)[b]?=some (F.jw P Z b):=Fo.mx hb;have JB:(F.jw P Z b).up=F.up b:=rfl;have step:cC (some a,some b,F.aZ P Z)=some (.nx (some a,F.up b,F.aZ P Z)):=by simp only [cC,Option.isNone_some,Bool.not_false,cond_true,aa,bind_some,hg,JB];rw [if_neg (by intro h;exact e (Option.some.inj h).symm)]
    rw [aj step];cases hu:F.up b with
    | none =>
     refine⟨_,ae ?_, .inr ⟨rfl,λh=>?_⟩⟩
     ·simp only [cC,Option.isNone_none,Bool.not_true,cond_false]
     ·cases h with
      | self=>exact e rfl
      | up h _=>rw [hu] at h;cases h
    | some p =>
     have h1:=hr b p hu;obtain⟨y,hy,hh⟩:=ih p (by omega) (hF.up hu).1;refine⟨y,hy,?_⟩;rcases hh with⟨h2,h3⟩ | ⟨h2,h3⟩
     ·exact .inl ⟨h2, .up hu h3⟩
     ·refine .inr ⟨h2,λh=>?_⟩;cases h with
      | self=>exact e rfl
      | up h t =>
       rw [hu] at h;cases h;exact h3 t
 obtain⟨y,hy,hh⟩:=key (r b) b (Nat.le_refl _) hb;simp only [fU,hy,bind_some];rcases hh with⟨h2,h3⟩ | ⟨h2,h3⟩
 ·rw [h2];exact⟨true,rfl,by simp [h3]⟩
 ·rw [h2];exact⟨false,rfl,by simp [h3]⟩
theorem ni {X B:Type}{body:X->Option (ai X B)}{st:Nat->X}{n:Nat}{good bad:B}{p:Nat->Prop}(h:∀ k,k<n->body (st k)=some (.out bad)∨(body (st k)=some (.nx (st (k+1)))/\p k))(he:body (st n)=some (.out good)) :
  ∀ k,k<=n->∃ y,ab body (st k)=some y/\(y=bad∨(y=good/\∀ j,k<=j->j<n->p j)):=by
 have key:∀ d k,n - k=d->k<=n->∃ y,ab body (st k)=some y/\(y=bad∨(y=good/\∀ j,k<=j->j<n->p j)):=by
  intro d
  induction d with
  | zero =>
   intro k hd hk;obtain rfl:k=n:=by omega
   exact⟨_,ae he, .inr ⟨rfl,λj h1 h2=>by omega⟩⟩
  | succ d ih =>
   intro k hd hk;rcases h k (by omega) with h1 | ⟨h1,h2⟩
   ·exact⟨_,ae h1, .inl rfl⟩
   ·obtain⟨y,g1,g2⟩:=ih (k+1) (by omega) (by omega);refine⟨y,by rw [aj h1];exact g1,g2.imp id λ⟨e,g3⟩=>⟨e,λj j1 j2=>?_⟩⟩
    by_cases e2:j=k
    ·subst e2;exact h2
    ·exact g3 j (by omega) j2
 exact λk hk=>key _ k rfl hk
theorem cm {l:List Nat}{i c:Nat}(h:l[i]?=some c):(l.map some)[i]?=some (some c):=by rw [List.getElem?_map,h];rfl
section
variable {F:Fo}{P:Nat->Int×Node}{Z:Nat->Bool}{ws on:List Nat}
theorem So (hF:F.ok)(hr:Rk F)(hw:∀ c∈ws,c<F.m)(hlen:ws.length<=1000000)(on:List Nat){i a:Nat}(hi:ws[i]?=some a) :
  ∃ y,ab iZ (ws.map some,on.map some,(i:Int),(0:Int),F.aZ P Z)=some y/\(y = .inr (false,F.aZ P Z)∨(y = .inl (ws.map some,on.map some,(i:Int),F.aZ P Z)/\∀ k,0<=k->k<ws.length->∀ c,ws[k]?=some c->k≠i->¬ jZ F a c)):=by
 refine ni (body:=iZ) (st:=λk=>(ws.map some,on.map some,(i:Int),(k:Int),F.aZ P Z)) (n:=ws.length) (p:=λk=>∀ c,ws[k]?=some c->k≠i->¬ jZ F a c) (λk hk=>?_) ?_ 0 (Nat.zero_le _)
 ·obtain⟨c,hc⟩:=ay hk;have IF:=hw a (List.mem_of_getElem? hi);have uL:=hw c (List.mem_of_getElem? hc);obtain⟨b,CM,Bd⟩:=yE (P:=P) (Z:=Z) hF hr (a:=a) uL;simp only [iZ,aa,ad,cm hi,cm hc,bind_some,CM];rw [if_pos (by simp;omega)]
  by_cases e:k=i
  ·rw [if_neg (by simp [e]),cD (by omega) (by omega)];exact .inr ⟨rfl,λ_ _ h=>absurd e h⟩
  ·rw [if_pos (by omega)];cases hb:b with
   | true=>exact .inl rfl
   | false =>
    simp only [cond_false];rw [cD (by omega) (by omega)];refine .inr ⟨rfl,λc' uL _ h=>?_⟩;rw [hc] at uL;cases uL;rw [Bd.2 h] at hb;cases hb
 ·simp only [iZ,aa];rw [if_neg (by simp)]
theorem Sq (hF:F.ok)(hr:Rk F)(hw:∀ c∈ws,c<F.m)(ho:∀ c∈on,c<F.m)(hlen:on.length<=1000000){i a:Nat}(hi:ws[i]?=some a) :
  ∃ y,ab i_ (ws.map some,on.map some,(i:Int),(0:Int),F.aZ P Z)=some y/\(y = .inr (false,F.aZ P Z)∨(y = .inl (ws.map some,on.map some,(i:Int),F.aZ P Z)/\∀ k,0<=k->k<on.length->∀ c,on[k]?=some c->¬ jZ F a c)):=by
 refine ni (body:=i_) (st:=λk=>(ws.map some,on.map some,(i:Int),(k:Int),F.aZ P Z)) (n:=on.length) (p:=λk=>∀ c,on[k]?=some c->¬ jZ F a c) (λk hk=>?_) ?_ 0 (Nat.zero_le _)
 ·obtain⟨c,hc⟩:=ay hk;have IF:=hw a (List.mem_of_getElem? hi);have uL:=ho c (List.mem_of_getElem? hc);obtain⟨b,CM,Bd⟩:=yE (P:=P) (Z:=Z) hF hr (a:=a) uL;simp only [i_,aa,ad,cm hi,cm hc,bind_some,CM];rw [if_pos (by simp;omega)];cases hb:b with
  | true=>exact .inl rfl
  | false =>
   simp only [cond_false];rw [cD (by omega) (by omega)];refine .inr ⟨rfl,λc' uL h=>?_⟩;rw [hc] at uL;cases uL;rw [Bd.2 h] at hb;cases hb
 ·simp only [i_,aa];rw [if_neg (by simp)]
theorem yF (hF:F.ok)(hr:Rk F)(hw:∀ c∈ws,c<F.m)(ho:∀ c∈on,c<F.m)(Nt:ws.length<=1000000)(Mh:on.length<=1000000) :
  ∃ b,cE (ws.map some,on.map some,F.aZ P Z)=some b/\(b=true->(∀ i k a c:Nat,ws[i]?=some a->ws[k]?=some c->k≠i->¬ jZ F a c)/\∀ a∈ws,∀ c∈on,¬ jZ F a c):=by
 obtain⟨y,h1,h2⟩:=ni (body:=ko) (st:=λk=>(ws.map some,on.map some,(k:Int),F.aZ P Z)) (n:=ws.length) (good := .inl (F.aZ P Z)) (bad := .inr (false,F.aZ P Z))
  (p:=λi=>∀ a,ws[i]?=some a->(∀ k,0<=k->k<ws.length->∀ c,ws[k]?=some c->k≠i->¬ jZ F a c)/\∀ k,0<=k->k<on.length->∀ c,on[k]?=some c->¬ jZ F a c) (λi hi=>by
   obtain⟨a,ha⟩:=ay hi;obtain⟨y,g1,g2⟩:=So (P:=P) (Z:=Z) hF hr hw Nt on ha;obtain⟨z,k1,k2⟩:=Sq (P:=P) (Z:=Z) hF hr hw ho Mh ha;simp only [ko,aa];rw [if_pos (by simp;omega),g1,bind_some];rcases g2 with rfl | ⟨rfl,g3⟩
   ·exact .inl rfl
   ·simp only [bu];rw [k1,bind_some];rcases k2 with rfl | ⟨rfl,k3⟩
    ·exact .inl rfl
    ·simp only [bu];rw [cD (by omega) (by omega)];refine .inr ⟨rfl,λa' IF=>?_⟩;rw [ha] at IF;cases IF;exact⟨g3,k3⟩) (by
   simp only [ko,aa];rw [if_neg (by simp)]) 0 (Nat.zero_le _)
 have CQ:ab ko (ws.map some,on.map some,(0:Int),F.aZ P Z)=some y:=h1;simp only [cE,CQ,bind_some];rcases h2 with rfl | ⟨rfl,h3⟩
 ·exact⟨false,rfl,λh=>by cases h⟩
 ·refine⟨true,rfl,λ_=>⟨λi k a c ha hc hk=>?_,λa ha c hc=>?_⟩⟩
  ·exact (h3 i (Nat.zero_le _) (List.getElem?_eq_some_iff.1 ha).1 a ha).1 k (Nat.zero_le _) (List.getElem?_eq_some_iff.1 hc).1 c hc hk
  ·obtain⟨i,hi⟩:=List.mem_iff_getElem?.1 ha;obtain⟨k,hk⟩:=List.mem_iff_getElem?.1 hc;exact (h3 i (Nat.zero_le _) (List.getElem?_eq_some_iff.1 hi).1 a hi).2 k (Nat.zero_le _) (List.getElem?_eq_some_iff.1 hk).1 c hk
end
section
variable {F:Fo}{P:Nat->Int×Node}{Z:Nat->Bool}{on:List Nat}
theorem Cw (ho:∀ c∈on,c<F.m)(hl:on.length<=1000000):∃ b,iK (on.map some,F.aZ P Z)=some b/\(b=true->∀ c∈on,∃ p,F.up c=some p):=by
 obtain⟨y,h1,h2⟩:=ni (body:=kq) (st:=λk=>(on.map some,(k:Int),F.aZ P Z)) (n:=on.length) (good := .inl (F.aZ P Z)) (bad := .inr (false,F.aZ P Z)) (p:=λi=>∀ a,on[i]?=some a->∃ p,F.up a=some p) (λi hi=>by
   obtain⟨a,ha⟩:=ay hi;have hg:=Fo.mx (F:=F) (P:=P) (Z:=Z) (ho a (List.mem_of_getElem? ha));simp only [kq,aa,ad,cm ha,bind_some,hg];rw [if_pos (by simp;omega)];have hu:(F.jw P Z a).up=F.up a:=rfl;rw [hu];cases MT:F.up a with
   | none=>exact .inl rfl
   | some p =>
    simp only [Option.isNone_some,cond_false];rw [cD (by omega) (by omega)];refine .inr ⟨rfl,λa' IF=>?_⟩;rw [ha] at IF;cases IF;exact⟨p,MT⟩) (by
   simp only [kq,aa];rw [if_neg (by simp)]) 0 (Nat.zero_le _)
 have CQ:ab kq (on.map some,(0:Int),F.aZ P Z)=some y:=h1;simp only [iK,CQ,bind_some];rcases h2 with rfl | ⟨rfl,h3⟩
 ·exact⟨false,rfl,λh=>by cases h⟩
 ·refine⟨true,rfl,λ_ a ha=>?_⟩;obtain⟨i,hi⟩:=List.mem_iff_getElem?.1 ha;exact h3 i (Nat.zero_le _) (List.getElem?_eq_some_iff.1 hi).1 a hi
theorem FI (ho:∀ c∈on,c<F.m)(hl:on.length<=1000000):∃ b,jl (on.map some,F.aZ P Z)=some b/\(b=true->∀ c∈on,(P c).2.kind=3):=by
 obtain⟨y,h1,h2⟩:=ni (body:=mi) (st:=λk=>(on.map some,(k:Int),F.aZ P Z)) (n:=on.length) (good := .inl (F.aZ P Z)) (bad := .inr (false,F.aZ P Z)) (p:=λi=>∀ a,on[i]?=some a->(P a).2.kind=3) (λi hi=>by
   obtain⟨a,ha⟩:=ay hi;have hg:=Fo.mx (F:=F) (P:=P) (Z:=Z) (ho a (List.mem_of_getElem? ha));simp only [mi,aa,ad,cm ha,bind_some,hg];rw [if_pos (by simp;omega)];have hu:(F.jw P Z a).n=(P a).2:=rfl;rw [hu]
   by_cases e:(P a).2.kind=3
   ·rw [if_neg (by simp [e]),cD (by omega) (by omega)];refine .inr ⟨rfl,λa' IF=>?_⟩;rw [ha] at IF;cases IF;exact e
   ·rw [if_pos e];exact .inl rfl) (by
   simp only [mi,aa];rw [if_neg (by simp)]) 0 (Nat.zero_le _)
 have CQ:ab mi (on.map some,(0:Int),F.aZ P Z)=some y:=h1;simp only [jl,CQ,bind_some];rcases h2 with rfl | ⟨rfl,h3⟩
 ·exact⟨false,rfl,λh=>by cases h⟩
 ·refine⟨true,rfl,λ_ a ha=>?_⟩;obtain⟨i,hi⟩:=List.mem_iff_getElem?.1 ha;exact h3 i (Nat.zero_le _) (List.getElem?_eq_some_iff.1 hi).1 a hi
end
theorem K8:∀ s:List UInt8,pH (Dn s)=s.length+1
 | []=>rfl
 | c::s=>by
  have ih:=K8 s;rw [Dn];split
  ·rw [gY,ih];simp;omega
  ·split
   ·rename_i p ps h;rw [h,gY] at ih;rw [gY,List.length_cons,List.length_cons];omega
   ·rename_i h;exact absurd h (Ae 0 s)
theorem Bj {l m:Wd}(h:l.Sublist m):pH l<=pH m:=by
 induction h with
 | slnil=>exact Nat.le_refl _
 | cons a _ ih=>rw [gY];omega
 | cons_cons a _ ih=>rw [gY,gY];omega
theorem zG (s:List UInt8):pH (aC s)<=s.length+1:=by
 have:=Bj (l:=aC s) (m:=Dn s) List.filter_sublist
 rw [K8] at this;exact this
theorem Sr (l m:Wd):pH (l++m)=pH l+pH m:=by simp [pH]
theorem Cy:∀ r:Wd,(r.flatMap λb=>(32:UInt8)::b).length=pH r
 | []=>rfl
 | b::r=>by rw [List.flatMap_cons,List.length_append,Cy r,gY];simp
theorem JQ {op:Int}{ws cs:Wd}:pH (vd op ws cs)<=pH ws+pH cs:=by
 unfold vd;rw [Sr];have h1:pH (if op=14 then ws else ws.filter λw=>!decide (w∈cs))<=pH ws:=by
  split
  ·exact Nat.le_refl _
  ·exact Bj List.filter_sublist
 have h2:pH (if op=15 then [] else cs.filter λw=>!decide (w∈ws))<=pH cs:=by
  split
  ·exact Nat.zero_le _
  ·exact Bj List.filter_sublist
 omega
theorem Eh {p:List UInt8->Bool}{l:Wd}{i:Nat}{c:List UInt8}(h:l[i]?=some c):((l.take (i+1)).filter p).flatMap (λb=>(32:UInt8)::b)=((l.take i).filter p).flatMap (λb=>(32:UInt8)::b)++if p c then 32::c else []:=by
 rw [List.take_add_one,h,List.filter_append,List.flatMap_append]
 congr 1
 cases hp:p c <;> simp [hp]
theorem Cz {p:List UInt8->Bool}{l:Wd}(i:Nat):(((l.take i).filter p).flatMap λb=>(32:UInt8)::b).length<=pH l:=by rw [Cy];exact Bj (List.filter_sublist.trans (List.take_sublist i l))
theorem JR (op:Int)(val:List UInt8)(cs:Wd)(hv:val.length<=1000000000)(hc:pH cs<=1048576):km (op,val,cs)=some (jL (vd op (aC val) cs)):=by
 have htw:=zG val;have VH:=oZ (aC val);have l6:=oZ cs;simp only [km,yx val (by omega),bind_some];generalize aC val=ws at *;obtain⟨b,hb,rfl⟩:=js (body:=iX) (n:=ws.length) (λ(i:Nat) (out:List UInt8)=>(op,cs,ws,out,(i:Int))) (λi out=>out=((ws.take i).filter λw=>decide (op=14) || !decide (w∈cs)).flatMap λb=>(32:UInt8)::b) (λb=>b=(op,cs,ws,(ws.filter λw=>decide (op=14) || !decide (w∈cs)).flatMap λb=>(32:UInt8)::b)) (λi out hi hI=>by
  obtain⟨c,hc⟩:=ay hi;have Xe:out.length<=pH ws:=by rw [hI];exact Cz i
  have aa2:=yz (List.mem_of_getElem? hc);left;refine⟨out++if (decide (op=14) || !decide (c∈cs)) then 32::c else [],?_,by rw [Eh hc,<- hI]⟩;have e1:mr [(32:UInt8)] c=some (32::c):=j_ (by simp;omega);have e2:mr out (32::c)=some (out++32::c):=j_ (by simp;omega);simp only [iX,aa,ad,Int.toNat_natCast,hc,bind_some,vJ cs c (by omega),e1,e2,cD (n:=(i:Int)+1) (by omega) (by omega)];rw [if_pos (by omega)]
  by_cases h1:op=14
  ·simp only [h1,if_true,decide_true,Bool.true_or];rfl
  ·by_cases h2:c∈cs
   ·simp only [h1,h2,if_false,decide_true,decide_false,Bool.false_or,Bool.not_true,cond_false];simp
   ·simp only [h1,h2,if_false,decide_false,Bool.false_or,Bool.not_false,cond_true,if_true]
    rfl) (λout hI=>⟨_,by
  simp only [iX,aa];rw [if_neg (by omega)],by rw [hI,List.take_length]⟩) ws.length 0 [] rfl (Nat.zero_le _) (by simp)
 rw [show ab iX (op,cs,ws,[],(0:Int))=_ from hb,bind_some];generalize hA:(ws.filter λw=>decide (op=14) || !decide (w∈cs)).flatMap (λb=>(32:UInt8)::b)=A;have hAl:A.length<=pH ws:=by
  have:=Cz (p:=λw=>decide (op=14) || !decide (w∈cs)) (l:=ws) ws.length
  rw [List.take_length,hA] at this;exact this
 obtain⟨b,hb,rfl⟩:=js (body:=iY) (n:=cs.length) (λ(i:Nat) (out:List UInt8)=>(op,cs,ws,out,(i:Int))) (λi out=>out=A++((cs.take i).filter λw=>!decide (op=15) && !decide (w∈ws)).flatMap λb=>(32:UInt8)::b) (λb=>b=A++(cs.filter λw=>!decide (op=15) && !decide (w∈ws)).flatMap λb=>(32:UInt8)::b) (λi out hi hI=>by
  obtain⟨c,hc⟩:=ay hi;have Xe:out.length<=pH ws+pH cs:=by
   have:=Cz (p:=λw=>!decide (op=15) && !decide (w∈ws)) (l:=cs) i
   rw [hI,List.length_append];omega
  have aa2:=yz (List.mem_of_getElem? hc);left;refine⟨out++if (!decide (op=15) && !decide (c∈ws)) then 32::c else [],?_,by rw [Eh hc,<- List.append_assoc,<- hI]⟩;have e1:mr [(32:UInt8)] c=some (32::c):=j_ (by simp;omega);have e2:mr out (32::c)=some (out++32::c):=j_ (by simp;omega);simp only [iY,aa,ad,Int.toNat_natCast,hc,bind_some,vJ ws c (by omega),e1,e2,cD (n:=(i:Int)+1) (by omega) (by omega),ne_eq];rw [if_pos (by omega)]
  by_cases h1:op=15
  ·simp only [h1,not_true_eq_false,if_false,decide_true,Bool.not_true,Bool.false_and];simp
  ·by_cases h2:c∈ws
   ·simp only [h1,h2,not_false_eq_true,if_true,decide_true,decide_false,Bool.not_false,Bool.true_and,Bool.not_true,cond_false];simp
   ·simp only [h1,h2,not_false_eq_true,if_true,decide_false,Bool.not_false,Bool.true_and,cond_true]
    rfl) (λout hI=>⟨_,by
  simp only [iY,aa];rw [if_neg (by omega)],by rw [hI,List.take_length]⟩) cs.length 0 A rfl (Nat.zero_le _) (by simp)
 simp only;rw [show ab iY (op,cs,ws,A,(0:Int))=_ from hb,bind_some];have J4:A++(cs.filter λw=>!decide (op=15) && !decide (w∈ws)).flatMap (λb=>(32:UInt8)::b)=(vd op ws cs).flatMap λb=>(32:UInt8)::b:=by
  rw [<- hA,<- List.flatMap_append]
  congr 1
  unfold vd
  congr 1
  ·by_cases h1:op=14
   ·simp [h1]
   ·simp [h1]
  ·by_cases h1:op=15
   ·simp [h1]
   ·simp [h1]
 rw [J4];have Bc:((vd op ws cs).flatMap λb=>(32:UInt8)::b).length<=2000000000:=by
  rw [Cy]
  have:=JQ (op:=op) (ws:=ws) (cs:=cs)
  omega
 cases hs:vd op ws cs with
 | nil=>rfl
 | cons a r =>
  rw [hs,List.flatMap_cons] at Bc;simp only [List.flatMap_cons,tr,aa,List.cons_append];rw [if_neg (by simp)];have iC:=oR (32::(a++r.flatMap λb=>(32:UInt8)::b)) (lo:=1) (hi:=(32::(a++r.flatMap λb=>(32:UInt8)::b)).length) (by simp) (Nat.le_refl _);rw [List.take_length] at iC;rw [show gn (32::(a++r.flatMap λb=>(32:UInt8)::b)) (1:Int) _=_ from iC,bind_some];rfl
abbrev K9:=Int×List Int×List Int×List UInt8×List UInt8×Wd
section
variable {N:List (Option Nat)}{S:List KN}{op:Int}{on wi:List Int}{k v:List UInt8}{cs:Wd}
theorem VP {i:Nat}{w:List UInt8}(hw:cs[i]?=some w)(hl:cs.length<=1000000000):∃ y,ab dE (N,(op,on,wi,k,v,cs),(i:Int),(0:Int),S)=some y/\(y = .inr (false,S)∨y = .inl (N,(op,on,wi,k,v,cs),(i:Int),S)/\w∉cs.take i):=by
 have K6:=(List.getElem?_eq_some_iff.1 hw).1;obtain⟨b,hb,h⟩:=js (body:=dE) (n:=i) (λ(j:Nat) (_:Unit)=>(N,(op,on,wi,k,v,cs),(i:Int),(j:Int),S)) (λj _=>w∉cs.take j) (λy=>y = .inr (false,S)∨y = .inl (N,(op,on,wi,k,v,cs),(i:Int),S)/\w∉cs.take i) (λj _ hj hI=>by
  obtain⟨c,hc⟩:=ay (l:=cs) (k:=j) (by omega)
  by_cases e:c=w
  ·right;refine⟨.inr (false,S),?_, .inl rfl⟩;simp only [dE,aa,ad,hc,hw,bind_some];rw [if_pos (by omega),if_pos e]
  ·left;refine⟨(),?_,?_⟩
   ·simp only [dE,aa,ad,hc,hw,bind_some];rw [if_pos (by omega),if_neg e,cD (by omega) (by omega)];rfl
   ·rw [List.take_add_one,hc,List.mem_append];exact λh=>h.elim hI λh=>e (List.mem_singleton.1 h).symm) (λ_ hI=>⟨_,by
  simp only [dE,aa];rw [if_neg (by omega)], .inr ⟨rfl,hI⟩⟩) i 0 () rfl (Nat.zero_le _) (by simp)
 exact⟨b,hb,h⟩
theorem PV (hl:cs.length<=1000000000)(hc:∀ c∈cs,c.length<=2147483647):∃ y,ab bS (N,(op,on,wi,k,v,cs),(0:Int),S)=some y/\((∃ b,y = .inr (b,S)/\b=false)∨y = .inl (N,(op,on,wi,k,v,cs),S)/\(∀ c∈cs,c≠[]/\∀ x∈c,33<=x.toNat/\x.toNat<=126)/\cs.Nodup):=by
 obtain⟨b,hb,h⟩:=js (body:=bS) (n:=cs.length) (λ(j:Nat) (_:Unit)=>(N,(op,on,wi,k,v,cs),(j:Int),S)) (λj _=>(∀ c∈cs.take j,c≠[]/\∀ x∈c,33<=x.toNat/\x.toNat<=126)/\(cs.take j).Nodup) (λy=>(∃ b,y = .inr (b,S)/\b=false)∨y = .inl (N,(op,on,wi,k,v,cs),S)/\(∀ c∈cs,c≠[]/\∀ x∈c,33<=x.toNat/\x.toNat<=126)/\cs.Nodup) (λj _ hj hI=>by
  obtain⟨c,Wv⟩:=ay hj;obtain⟨b,hb,Bd⟩:=FB c (hc c (List.mem_of_getElem? Wv));cases b with
  | false =>
   right;refine⟨.inr (false,S),?_, .inl ⟨false,rfl,rfl⟩⟩;simp only [bS,aa,ad,Wv,bind_some,hb,Bool.not_false,cond_true];rw [if_pos (by omega)]
  | true =>
   obtain⟨y,hy,h⟩:=VP (N:=N) (S:=S) (op:=op) (on:=on) (wi:=wi) (k:=k) (v:=v) Wv hl;rcases h with rfl | ⟨rfl,h⟩
   ·right;refine⟨.inr (false,S),?_, .inl ⟨false,rfl,rfl⟩⟩;simp only [bS,aa,ad,Wv,bind_some,hb,Bool.not_true,cond_false,hy,RX];rw [if_pos (by omega)]
   ·left;refine⟨(),?_,?_⟩
    ·simp only [bS,aa,ad,Wv,bind_some,hb,Bool.not_true,cond_false,hy,oW];rw [if_pos (by omega),cD (by omega) (by omega)];rfl
    ·have ht:cs.take (j+1)=cs.take j++[c]:=by rw [List.take_add_one,Wv];rfl
     rw [ht];refine⟨λd hd=>(List.mem_append.1 hd).elim (hI.1 d) λh=>by rw [List.mem_singleton.1 h];exact Bd rfl,?_⟩;rw [List.nodup_append];exact⟨hI.2,by simp,λx hx y hy e=>h (by rw [<- List.mem_singleton.1 hy,<- e];exact hx)⟩) (λ_ hI=>⟨_,by
  simp only [bS,aa];rw [if_neg (by omega)], .inr ⟨rfl,by rw [List.take_length] at hI;exact hI⟩⟩) cs.length 0 () rfl (Nat.zero_le _) (by simp)
 exact⟨b,hb,h⟩
end
structure AS (op:Int)(k v:List UInt8)(cs:Wd)(xs zs:List Attr):Prop where
 rg:12<=op/\op<=16
 set:op=12->zs=wA k v xs
 rm:op=13->zs=oA k xs
 cls:14<=op->cs≠[]/\SC (cl xs)/\zs=wA cA (jL (vd op (aC (cl xs)) cs)) xs
theorem Ss {F:Fo}{P:Nat->Int×Node}{Z:Nat->Bool}{c:Nat}{n:Node}(hc:c<F.m):(F.aZ P Z).set c { F.jw P Z c with n:=n }=F.aZ (dq P c ((P c).1,n)) Z:=by
 unfold Fo.aZ;rw [cz hc];refine gQ λi hi=>?_
 by_cases e:i=c
 ·subst e;rw [ao];simp only [Fo.jw,ao]
 ·rw [bJ e];simp only [Fo.jw,bJ e]
def wN (a:Int×Node)(xs:List Attr):Int×Node:=(a.1,⟨a.2.kind,a.2.tag,a.2.text,xs,a.2.size⟩)
section
variable {F:Fo}{P:Nat->Int×Node}{Z:Nat->Bool}{l:List Nat}{op:Int}{on wi:List Int}{k v:List UInt8}{cs:Wd}
theorem K_ (n:Node)(h:n.attrs.length<=1000000):∃ q,jE (n,[(99:UInt8),(108:UInt8),(97:UInt8),(115:UInt8),(115:UInt8)])=some q/\q.1=cl n.attrs:=by refine⟨_,K5 n cA h,?_⟩;unfold cl;cases vl n.attrs cA <;> rfl
theorem PW {M1:Int×Node}(hP:M1.2.attrs.length<=1000000)(l6:(cl M1.2.attrs).length<=1000000000)(Sn:pH cs<=1048576){i c:Nat}{S:List KN}{kn:KN}(hi:l[i]?=some c)(K6:l.length<=1000000)(hS:S[c]?=some kn)(hn:kn.n=M1.2) :
  (∃ xs,aG (l.map some,(op,on,wi,k,v,cs),(i:Int),S)=some (.nx (l.map some,(op,on,wi,k,v,cs),((i+1:Nat):Int),S.set c { kn with n:=⟨M1.2.kind,M1.2.tag,M1.2.text,xs,M1.2.size⟩ }))/\AS op k v cs M1.2.attrs xs)∨aG (l.map some,(op,on,wi,k,v,cs),(i:Int),S)=some (.out (.inr (false,S))):=by
 have hl:=(List.getElem?_eq_some_iff.1 hi).1;have hs:(l.map some)[i]?=some (some c):=by rw [List.getElem?_map,hi];rfl
 have hw:IntKind.wrap .i64 ((i:Int)+1)=((i+1:Nat):Int):=by rw [cD (by omega) (by omega)];rfl
 obtain⟨q,hq,E6⟩:=K_ M1.2 hP;obtain⟨b,hb,Bd⟩:=MQ (cl M1.2.attrs) (by omega)
 by_cases h2:op=12
 ·left;refine⟨wA k v M1.2.attrs,?_,by omega,λ_=>rfl,λh=>by omega,λh=>by omega⟩;simp only [aG,aa,ad,hs,bind_some,List.length_map,hS,hn,Af M1.2.attrs k v hP,hw];rw [if_pos (by omega),if_pos h2]
 by_cases h3:op=13
 ·left;refine⟨oA k M1.2.attrs,?_,by omega,λh=>by omega,λ_=>rfl,λh=>by omega⟩;simp only [aG,aa,ad,hs,bind_some,List.length_map,hS,hn,Ct M1.2.attrs k hP,hw];rw [if_pos (by omega),if_neg h2,if_pos h3]
 by_cases nq:cs=[]
 ·right
  by_cases h4:op=14
  ·simp only [aG,aa,ad,hs,bind_some,List.length_map,hS,hn,hq];rw [if_pos (by omega),if_neg h2,if_neg h3,if_pos h4,if_pos (by rw [nq];rfl)]
  by_cases h5:op=15
  ·simp only [aG,aa,ad,hs,bind_some,List.length_map,hS,hn,hq];rw [if_pos (by omega),if_neg h2,if_neg h3,if_neg h4,if_pos h5,if_pos (by rw [nq];rfl)]
  by_cases h6:op=16
  ·simp only [aG,aa,ad,hs,bind_some,List.length_map,hS,hn,hq];rw [if_pos (by omega),if_neg h2,if_neg h3,if_neg h4,if_neg h5,if_pos h6,if_pos (by rw [nq];rfl)]
  simp only [aG,aa,ad,hs,bind_some,List.length_map];rw [if_pos (by omega),if_neg h2,if_neg h3,if_neg h4,if_neg h5,if_neg h6]
 have Su:¬ ((cs.length:Int)=0):=λh=>nq (List.length_eq_zero_iff.1 (by omega))
 by_cases Sv:op=14∨op=15∨op=16
 ·cases b with
  | false =>
   right;rcases Sv with rfl | rfl | rfl
   all_goals
    simp only [aG,aa,ad,hs,bind_some,List.length_map,hS,hn,hq,E6,hb,Bool.not_false,cond_true];simp [Su];omega
  | true =>
   left;refine⟨wA cA (jL (vd op (aC (cl M1.2.attrs)) cs)) M1.2.attrs,?_,by omega,λh=>by omega,λh=>by omega,λ_=>⟨nq,Bd rfl,rfl⟩⟩;have hwa:=Af M1.2.attrs cA (jL (vd op (aC (cl M1.2.attrs)) cs)) hP;unfold cA at hwa ⊢;have Xd:=JR op (cl M1.2.attrs) cs l6 Sn;simp only [aG,aa,ad,hs,bind_some,List.length_map,hS,hn,hq,E6,hb,Bool.not_true,cond_false,Xd,hwa,hw];rw [if_pos (by omega),if_neg h2,if_neg h3];rcases Sv with h | h | h
   ·rw [if_pos h,if_neg Su]
   ·rw [if_neg (by omega),if_pos h,if_neg Su]
   ·rw [if_neg (by omega),if_neg (by omega),if_pos h,if_neg Su]
 ·right;simp only [aG,aa,ad,hs,bind_some,List.length_map];rw [if_pos (by omega),if_neg h2,if_neg h3,if_neg (λh=>Sv (.inl h)),if_neg (λh=>Sv (.inr (.inl h))),if_neg (λh=>Sv (.inr (.inr h)))]
theorem MU (my:l.Nodup)(hm:∀ c∈l,c<F.m)(hl:l.length<=1000000)(hP:∀ c∈l,(P c).2.attrs.length<=1000000/\(cl (P c).2.attrs).length<=1000000000)(Sn:pH cs<=1048576) :
  ∃ y,ab aG (l.map some,(op,on,wi,k,v,cs),(0:Int),F.aZ P Z)=some y/\((∃ S,y = .inr (false,S))∨∃ P',y = .inl (F.aZ P' Z)/\(∀ c∈l,∃ xs,P' c=wN (P c) xs/\AS op k v cs (P c).2.attrs xs)/\∀ c,c∉l->P' c=P c):=by
 obtain⟨b,hb,h⟩:=js (body:=aG) (n:=l.length) (λ(j:Nat) (S:List KN)=>(l.map some,(op,on,wi,k,v,cs),(j:Int),S)) (λj S=>∃ P',S=F.aZ P' Z/\(∀ c∈l.take j,∃ xs,P' c=wN (P c) xs/\AS op k v cs (P c).2.attrs xs)/\∀ c,c∉l.take j->P' c=P c) (λy=>(∃ S,y = .inr (false,S))∨∃ P',y = .inl (F.aZ P' Z)/\(∀ c∈l,∃ xs,P' c=wN (P c) xs/\AS op k v cs (P c).2.attrs xs)/\∀ c,c∉l->P' c=P c) (λj S hj hI=>by
  obtain⟨P',rfl,h1,h2⟩:=hI;obtain⟨c,hc⟩:=ay hj;have qq:=List.mem_of_getElem? hc;have ht:l.take (j+1)=l.take j++[c]:=by rw [List.take_add_one,hc];rfl
  have QS:c∉l.take j:=by
   have:=my.sublist (List.take_sublist (j+1) l)
   rw [ht,List.nodup_append] at this;exact λhm=>this.2.2 c hm c (by simp) rfl
  rcases PW (M1:=P c) (op:=op) (on:=on) (wi:=wi) (k:=k) (v:=v) (hP c qq).1 (hP c qq).2 Sn hc hl (Fo.mx (F:=F) (P:=P') (Z:=Z) (hm c qq)) (by show (P' c).2=_;rw [h2 c QS]) with⟨xs,h3,h4⟩ | h3
  ·left;refine⟨_,h3,dq P' c (wN (P c) xs),?_,λd hd=>?_,λd hd=>?_⟩
   ·rw [Ss (hm c qq),h2 c QS];rfl
   ·by_cases e:d=c
    ·subst e;exact⟨xs,ao,h4⟩
    ·rw [bJ e];rw [ht] at hd;exact h1 d ((List.mem_append.1 hd).elim id λh=>absurd (List.mem_singleton.1 h) e)
   ·rw [ht] at hd;have e:d≠c:=λe=>hd (by simp [e])
    rw [bJ e];exact h2 d λh=>hd (by simp [h])
  ·right;exact⟨_,h3, .inl ⟨_,rfl⟩⟩) (λS hI=>by
  obtain⟨P',rfl,h1,h2⟩:=hI;rw [List.take_length] at h1 h2;refine⟨.inl (F.aZ P' Z),?_, .inr ⟨P',rfl,h1,h2⟩⟩;simp only [aG,aa,List.length_map];rw [if_neg (by omega)]) l.length 0 (F.aZ P Z) rfl (Nat.zero_le _) ⟨P,rfl,by simp,λ_ _=>rfl⟩
 exact⟨b,hb,h⟩
theorem AW (my:l.Nodup)(eH:l≠[])(hm:∀ c∈l,c<F.m)(hl:l.length<=1000000)(hP:∀ c∈l,(P c).2.attrs.length<=1000000/\(cl (P c).2.attrs).length<=1000000000)(Sn:pH cs<=1048576)(hk:k.length<=2147483647) :
  ∃ b S',j9 ((op,on,wi,k,v,cs),l.map some,F.aZ P Z)=some (b,S')/\(b=true->(12<=op/\op<=16)/\(14<=op->AT cs/\cs≠[])/\∃ P',S'=F.aZ P' Z/\(∀ c∈l,∃ xs,P' c=wN (P c) xs/\AS op k v cs (P c).2.attrs xs)/\∀ c,c∉l->P' c=P c):=by
 have l6:=oZ cs;have qq:∀ c∈cs,c.length<=1048576:=λc hc=>by have:=yz hc;omega
 obtain⟨y,hy,hY⟩:=PV (N:=l.map some) (S:=F.aZ P Z) (op:=op) (on:=on) (wi:=wi) (k:=k) (v:=v) (cs:=cs) (by omega) (λc hc=>by have:=qq c hc;omega);have main:∃ b S',Option.bind (ab bS (l.map some,(op,on,wi,k,v,cs),(0:Int),F.aZ P Z)) (λy=>bu (λy=>Option.bind (ab aG (y.1,(y.2.1.1,y.2.1.2.1,y.2.1.2.2.1,y.2.1.2.2.2.1,y.2.1.2.2.2.2.1,y.2.1.2.2.2.2.2),(0:Int),y.2.2)) λy=>bu (λy=>some (true,y)) (λy=>some (y.1,y.2)) y) (λy=>some (y.1,y.2)) y)=some (b,S')/\(b=true->(12<=op/\op<=16)/\(14<=op->AT cs/\cs≠[])/\∃ P',S'=F.aZ P' Z/\(∀ c∈l,∃ xs,P' c=wN (P c) xs/\AS op k v cs (P c).2.attrs xs)/\∀ c,c∉l->P' c=P c):=by
  rw [hy,bind_some];rcases hY with⟨b,rfl,rfl⟩ | ⟨rfl,h1,h2⟩
  ·exact⟨_,_,rfl,λh=>by cases h⟩
  ·obtain⟨z,hz,hZ⟩:=MU (op:=op) (on:=on) (wi:=wi) (k:=k) (v:=v) (Z:=Z) my hm hl hP Sn;simp only [oW,hz,bind_some];rcases hZ with⟨S,rfl⟩ | ⟨P',rfl,h3,h4⟩
   ·exact⟨_,_,rfl,λh=>by cases h⟩
   ·refine⟨_,_,rfl,λ_=>?_⟩;obtain⟨c,hc⟩:=List.exists_mem_of_ne_nil l eH;obtain⟨xs,_,hA⟩:=h3 c hc;exact⟨hA.rg,λh=>⟨⟨λd hd=>Yf (h1 d hd) (qq d hd),h2,Sn⟩,(hA.cls h).1⟩,P',rfl,h3,h4⟩
 obtain⟨nn,Zi⟩:=Bi k hk;simp only [j9,aa,Zi,bind_some]
 by_cases e2:op=12
 ·rw [if_pos e2];cases nn with
  | false=>exact⟨_,_,rfl,λh=>by cases h⟩
  | true=>exact main
 ·rw [if_neg e2]
  by_cases e3:op=13
  ·rw [if_pos e3];cases nn with
   | false=>exact⟨_,_,rfl,λh=>by cases h⟩
   | true=>exact main
  ·rw [if_neg e3];exact main
end
def Fo.off (F:Fo)(l:List Nat):Fo:=⟨F.m,λi=>if i∈l then none else F.up i,λi=>(F.kids i).filter λj=>decide (j∉l)⟩
def Fo.br (F:Fo)(p:Nat)(A l B:List Nat):Fo:=⟨F.m,λi=>if i∈l then some p else F.up i,λi=>if i=p then A++l++B else F.kids i⟩
section
variable {F G H:Fo}{P:Nat->Int×Node}{p c:Nat}{A B l m:List Nat}{S:List KN}
theorem Fo.ext (h:F.m=G.m)(h1:∀ i,F.up i=G.up i)(h2:∀ i,F.kids i=G.kids i):F=G:=by obtain⟨a,b,c⟩:=F;obtain⟨a',b',c'⟩:=G;simp only at h h1 h2;obtain rfl:=h;obtain rfl:b=b':=funext h1;obtain rfl:c=c':=funext h2;rfl
theorem tv:F.off []=F:=Fo.ext rfl (λi=>by simp [Fo.off]) (λi=>by simp [Fo.off])
theorem tz:(F.off l).off m=F.off (l++m):=Fo.ext rfl (λi=>by
  simp only [Fo.off,List.mem_append]
  by_cases h:i∈m <;> by_cases h':i∈l <;> simp [h,h']) (λi=>by
  simp only [Fo.off,List.filter_filter]
  congr 1
  funext j
  by_cases h:j∈m <;> by_cases h':j∈l <;> simp [h,h'])
theorem jz (h:F.ok):(F.off l).ok:=by
 refine⟨λ{p c} hc=>?_,λ{c p} hu=>?_,λp=>?_,λc=>?_⟩
 ·simp only [Fo.off,List.mem_filter,decide_eq_true_eq] at hc ⊢;rw [if_neg hc.2];exact h.iG hc.1
 ·simp only [Fo.off] at hu ⊢
  by_cases hc:c∈l
  ·rw [if_pos hc] at hu;cases hu
  ·rw [if_neg hc] at hu
   have:=h.up hu
   exact⟨this.1,by simp [this.2,hc]⟩
 ·exact (h.nd p).filter _
 ·simp only [Fo.off]
  by_cases hc:c∈l
  ·rw [if_pos hc];intro e;cases e
  ·rw [if_neg hc];exact h.Wu c
theorem yG (i:Nat):((F.off l).kids i).length<=(F.kids i).length:=List.length_filter_le _ _
theorem yH (h:F.ok)(hu:F.up c=none):F.off [c]=F:=Fo.ext rfl (λi=>by
  simp only [Fo.off,List.mem_singleton]
  by_cases e:i=c
  ·rw [if_pos e,e,hu]
  ·rw [if_neg e]) (λi=>by
  simp only [Fo.off,List.mem_singleton];refine List.filter_eq_self.2 λj hj=>?_
  have:j≠c:=λe=>by
   subst e
   have:=(h.iG hj).1
   rw [hu] at this;cases this
  simpa using this)
theorem PX (h:Sp F G p c A B):G=F.off [c]:=by
 rw [h.g];refine Fo.ext rfl (λi=>?_) (λi=>?_)
 ·simp [Fo.off,Fo.eG]
 ·simp only [Fo.off,Fo.eG,List.mem_singleton]
  by_cases e:i=p
  ·subst e;rw [if_pos rfl,h.k,List.filter_append,List.filter_cons_of_neg (by simp)];rw [List.filter_eq_self.2 (λj hj=>by
    have:j≠c:=λe=>h.cA (e ▸ hj)
    simpa using this),List.filter_eq_self.2 (λj hj=>by
    have:j≠c:=λe=>h.cB (e ▸ hj)
    simpa using this)]
  ·rw [if_neg e];refine (List.filter_eq_self.2 λj hj=>?_).symm
   have:j≠c:=λe2=>by subst e2;have h2:=(h.okF.iG hj).1;rw [h.u] at h2;exact e (Option.some.inj h2).symm
   simpa using this
theorem La (hF:F.ok)(hu:F.up c=some p):∃ A B,Sp F (F.off [c]) p c A B:=by have h1:=hF.up hu;obtain⟨A,B,hk⟩:=List.append_of_mem h1.2;have h:Sp F (F.eG p (A++B) c none) p c A B:=⟨hF,h1.1,(hF.iG h1.2).2,hu,hk,rfl⟩;have e:=PX h;rw [e] at h;exact⟨A,B,h⟩
theorem vM {Z:Nat->Bool}(hF:F.ok)(hc:c<F.m)(hl:∀ i,(F.kids i).length<=1000000):∃ Z',cP (some c,F.aZ P Z)=some ((F.off [c]).aZ P Z'):=by
 cases hu:F.up c with
 | none=>exact⟨Z,by rw [yw hc hu,yH hF hu]⟩
 | some p =>
  obtain⟨A,B,h⟩:=La hF hu;exact⟨_,PE h (hl p)⟩
theorem lX (hk:F.kids p=A++B):F.br p A [] B=F:=Fo.ext rfl (λi=>by simp [Fo.br]) (λi=>by
 simp only [Fo.br,List.append_nil]
 by_cases e:i=p
 ·rw [if_pos e,e,hk]
 ·rw [if_neg e])
theorem vN (hG:(F.br p A l B).ok)(hp:p<F.m)(hc:c<F.m)(hu:F.up c=none)(tn:p≠c)(l6:c∉l):Sp (F.br p A (l++[c]) B) (F.br p A l B) p c (A++l) B:=by
 have h:=Sp.ins (A:=A++l) (B:=B) hG hp hc (show (if c∈l then some p else F.up c)=none by rw [if_neg l6,hu]) tn (show (if p=p then A++l++B else F.kids p)=_ by rw [if_pos rfl]);have e:(F.br p A l B).eG p (A++l++c::B) c (some p)=F.br p A (l++[c]) B:=Fo.ext rfl (λi=>by
  simp only [Fo.eG,Fo.br,List.mem_append,List.mem_singleton]
  by_cases e:i=c <;> by_cases e2:i∈l <;> simp [e,e2]) (λi=>by
  simp only [Fo.eG,Fo.br]
  by_cases e:i=p <;> simp [e])
 rw [e] at h;exact h
theorem o6 (hF:F.ok)(hp:p<F.m)(hk:F.kids p=A++B):∀ l:List Nat,(∀ c∈l,c<F.m/\F.up c=none/\p≠c)->l.Nodup->(F.br p A l B).ok:=by
 intro l
 induction hn:l.length generalizing l with
 | zero =>
  intro _ _;obtain rfl:=List.length_eq_zero_iff.1 hn;rw [lX hk];exact hF
 | succ n ih =>
  intro h1 h2;obtain⟨l',c,rfl⟩:∃ l' c,l=l'++[c]:=by
   have eH:l≠[]:=λe=>by subst e;simp at hn
   exact⟨l.dropLast,l.getLast eH,(List.dropLast_concat_getLast eH).symm⟩
  have IH:l'.length=n:=by simp at hn;omega
  rw [List.nodup_append] at h2;obtain⟨tF,o8,KA⟩:=h1 c (by simp);exact (vN (ih l' IH (λd hd=>h1 d (by simp [hd])) h2.1) hp tF o8 KA (λl6=>h2.2.2 c l6 c (by simp) rfl)).okF
end
theorem F2.TM {α β:Type}{R:α->β->Prop}:∀ {l:List α} {m:List β} {a:α},F2 R l m->a∈l->∃ b∈m,R a b
 | _,_,_, .cons h t,ha=>by
  rcases List.mem_cons.1 ha with rfl | ha
  ·exact⟨_,by simp,h⟩
  ·obtain⟨b,hb,hr⟩:=F2.TM t ha;exact⟨b,by simp [hb],hr⟩
theorem F2.refl {α:Type}{R:α->α->Prop}:∀ {l:List α},(∀ a∈l,R a a)->F2 R l l
 | [],_ => .nil
 | a::l,h => .cons (h a (by simp)) (F2.refl λb hb=>h b (by simp [hb]))
def Ag (F:Fo)(R:Nat->Nat->Prop)(K:Nat->List Nat)(lo hi:Nat):Nat->Nat->Nat->Prop
 | 0,_,_=>False
 | n+1,c,x=>(lo<=c/\c<hi)/\R c x/\F2 (Ag F R K lo hi n) (F.kids c) (K x)
theorem Ag.mono {F G:Fo}{R S:Nat->Nat->Prop}{K K':Nat->List Nat}{lo hi TE j5:Nat}{Q:Nat->Prop}(Bb:TE<=lo)(CZ:hi<=j5)(hk:∀ i,lo<=i->i<hi->G.kids i=F.kids i)(hr:∀ i y,lo<=i->i<hi->Q y->R i y->S i y)(hK:∀ y,Q y->K' y=K y)(hQ:∀ y,Q y->∀ z∈K y,Q z):∀ {n c x:Nat},Q x->Ag F R K lo hi n c x->Ag G S K' TE j5 n c x
 | 0,_,_,_,h=>h
 | n+1,c,x,hx,⟨⟨h1,h2⟩,h3,h4⟩=>by refine⟨⟨by omega,by omega⟩,hr c x h1 h2 hx h3,?_⟩;rw [hk c h1 h2,hK x hx];exact h4.imp λa b _ hb h=>Ag.mono Bb CZ hk hr hK hQ (hQ x hx b hb) h
theorem JS {F:Fo}{L:Nat->HN}{K:Nat->List Nat}{B:Nat->HN}{lo hi:Nat}:∀ {n c x:Nat},Cp F L K B lo hi n c x->Ag F (λc x=>Sb (L c) (B x)) K lo hi n c x
 | 0,_,_,h=>h
 | n+1,c,x,⟨h1,h3,h4⟩=>⟨h1,h3,h4.imp λa b _ _ h=>JS h⟩
structure Gx (F:Fo)(P:Nat->Int×Node)(G:Fo)(P':Nat->Int×Node):Prop where
 ok:G.ok
 m:F.m<=G.m
 fe:∀ i,i<F.m->G.up i=F.up i/\G.kids i=F.kids i/\P' i=P i
 inc:∀ i,F.m<=i->∀ y∈G.kids i,i<y
 neg:∀ i,F.m<=i->i<G.m->(P' i).1 = -1
theorem Gx.trans {F G H:Fo}{P P' QU:Nat->Int×Node}(h:Gx F P G P')(h':Gx G P' H QU):Gx F P H QU:=by
 refine⟨h'.ok,Nat.le_trans h.m h'.m,λi hi=>?_,λi h1 y hy=>?_,λi h1 h2=>?_⟩
 ·obtain⟨a,b,c⟩:=h.fe i hi;obtain⟨a',b',c'⟩:=h'.fe i (Nat.lt_of_lt_of_le hi h.m);exact⟨a'.trans a,b'.trans b,c'.trans c⟩
 ·by_cases e:i<G.m
  ·rw [(h'.fe i e).2.1] at hy;exact h.inc i h1 y hy
  ·exact h'.inc i (by omega) y hy
 ·by_cases e:i<G.m
  ·rw [(h'.fe i e).2.2];exact h.neg i h1 e
  ·exact h'.neg i (by omega) h2
theorem Fo.Sw {F:Fo}{P:Nat->Int×Node}{Z:Nat->Bool}{b:Int×Node}:F.aZ P Z++[⟨b.1,b.2,none,[],false⟩]=F.add.aZ (dq P F.m b) (dq Z F.m false):=by
 unfold Fo.aZ;rw [Cm];refine gQ λj hj=>?_
 by_cases e:j=F.m
 ·subst e;rw [ao];simp [Fo.jw,Fo.add,ao]
 ·rw [bJ e];simp [Fo.jw,Fo.add,e,bJ e]
theorem PY {G:Fo}{P:Nat->Int×Node}{Z:Nat->Bool}{c k:Nat}(hc:c<G.m)(hk:k<G.m)(KW:c≠k)(hz:Z c=false) :
  ((G.aZ P Z).set k ⟨(P k).1,(P k).2,some c,(G.kids k).map some,Z k⟩).set c ⟨(P c).1,(P c).2,G.up c,(G.kids c).map some++[some k],false⟩=(G.eG c (G.kids c++[k]) k (some c)).aZ P Z:=by
 unfold Fo.aZ;rw [cz hk,cz hc];refine gQ λi hi=>?_
 by_cases e1:i=c
 ·subst e1;simp [dq,Fo.jw,Fo.eG,KW,hz]
 ·by_cases e2:i=k
  ·subst e2;simp [dq,e1,Fo.jw,Fo.eG]
  ·simp [dq,e1,e2,Fo.jw,Fo.eG]
section
variable {K:Nat->List Nat}{B:Nat->Node}{Q:Nat->Prop}{m0:Nat}
abbrev QV (P:Nat->Int×Node)(B:Nat->Node)(c y:Nat):Prop:=P c=(-1,B y)
theorem vO {G G':Fo}{R:Nat->Nat->Prop}{K:Nat->List Nat}{lo hi:Nat}(h:∀ i,lo<=i->i<hi->G'.kids i=G.kids i):∀ {n c x:Nat},Ag G R K lo hi n c x->cd G'.kids n c=cd G.kids n c
 | 0,_,_,_=>rfl
 | n+1,c,x,⟨⟨h1,h2⟩,_,h4⟩=>by
  have key:∀ {l m:List Nat},F2 (Ag G R K lo hi n) l m->l.flatMap (cd G'.kids n)=l.flatMap (cd G.kids n):=by
   intro l m hl
   induction hl with
   | nil=>rfl
   | cons h1 t ih=>rw [List.flatMap_cons,List.flatMap_cons,ih,vO h h1]
  simp only [cd,h c h1 h2,key h4]
theorem H7 {G G':Fo}{R:Nat->Nat->Prop}{K:Nat->List Nat}{lo hi n:Nat}(h:∀ i,lo<=i->i<hi->G'.kids i=G.kids i){l m:List Nat}(hl:F2 (Ag G R K lo hi n) l m):l.flatMap (cd G'.kids n)=l.flatMap (cd G.kids n):=by
 induction hl with
 | nil=>rfl
 | cons h1 t ih=>rw [List.flatMap_cons,List.flatMap_cons,ih,vO h h1]
structure CoI (K:Nat->List Nat)(B:Nat->Node)(F:Fo)(P:Nat->Int×Node)(Z:Nat->Bool)(a:Int)(ob:Bool)(n x j:Nat)(G:Fo)(P':Nat->Int×Node)(Z':Nat->Bool)(a':Int)(xf:Bool):Prop where
 ext:Gx F P G P'
 zo:∀ i,i<F.m->Z' i=Z i
 zn:∀ i,F.m<=i->i<G.m->Z' i=false
 m:(G.m:Int)=F.m+(a' - a)
 up:G.up F.m=none
 len:(G.kids F.m).length=j
 rN:P' F.m=(-1,B x)
 lo:a+1<=a'
 hi:a'<=a+1+(((K x).take j).map (lW K n)).sum
 mono:ob=true->xf=true
 lim:(600<a->ob=true)->600<a'->xf=true
 cp:xf=false->F2 (Ag G (QV P' B) K (F.m+1) G.m n) (G.kids F.m) ((K x).take j)/\a'=a+1+(((K x).take j).map (lW K n)).sum/\(G.kids F.m).flatMap (cd G.kids n)=List.range' (F.m+1) (((K x).take j).map (lW K n)).sum
def Cod (K:Nat->List Nat)(B:Nat->Node)(F:Fo)(P:Nat->Int×Node)(Z:Nat->Bool)(a:Int)(ob:Bool)(ks:List (Option Nat))(n x:Nat)(o:Option (Option Nat×(PUnit×Int×Bool)×List (Option Nat)×List KN)):Prop :=
 ∃ G P' Z' a' xf,o=some (some F.m,((),a',xf),ks,G.aZ P' Z')/\Gx F P G P'/\(∀ i,i<F.m->Z' i=Z i)/\(∀ i,F.m<=i->i<G.m->Z' i=false)/\G.up F.m=none/\(G.m:Int)=F.m+(a' - a)/\a+1<=a'/\a'<=a+lW K n x/\(ob=true->xf=true)/\((600<a->ob=true)->600<a'->xf=true) /\
  (xf=false->Ag G (QV P' B) K F.m G.m n F.m x/\a'=a+lW K n x/\cd G.kids n F.m=List.range' F.m (lW K n x))
theorem VQ {K:Nat->List Nat}{n x j:Nat}:(((K x).take j).map (lW K n)).sum<=((K x).map (lW K n)).sum:=by
 conv=>rhs;rw [<- List.take_append_drop j (K x)]
 rw [List.map_append,List.sum_append];omega
theorem H8 {n x:Nat}{ks:List (Option Nat)}(hx:Q x)(hQ:∀ y,Q y->∀ z∈K y,Q z)(QJ:∀ y,Q y->y<m0)(Zp:∀ y,Q y->(K y).length<=1000000)
  (ih:∀ y∈K x,∀ (F:Fo) (P:Nat->Int×Node) (Z:Nat->Bool) (a:Int) (ob:Bool),F.ok->m0<=F.m->(∀ y,Q y->F.kids y=K y/\(P y).2=B y)->0<=a->a+lW K n y<=1000000000->Cod K B F P Z a ob ks n y (aw n (((),a,ob),some y,ks,F.aZ P Z)))
  {F:Fo} {P:Nat->Int×Node} {Z:Nat->Bool} {a:Int} {ob:Bool} (hm:m0<=F.m) (hs:∀ y,Q y->F.kids y=K y/\(P y).2=B y) (ha:0<=a) (Wj:a+1+((K x).map (lW K n)).sum<=1000000000) :
  ∀ (d j:Nat) (G:Fo) (P':Nat->Int×Node) (Z':Nat->Bool) (a':Int) (xf:Bool),(K x).length - j=d->j<=(K x).length->CoI K B F P Z a ob n x j G P' Z' a' xf ->
   ∃ H QU Ww Zq Sx,ab (dd (aw n)) (((),a',xf),some x,some F.m,(j:Int),G.aZ P' Z',ks)=some (((),Zq,Sx),some F.m,H.aZ QU Ww,ks)/\CoI K B F P Z a ob n x (K x).length H QU Ww Zq Sx:=by
 have ue:=QJ x hx;have vH:=Zp x hx;intro d
 induction d with
 | zero =>
  intro j G P' Z' a' xf hd hj hI;obtain rfl:j=(K x).length:=by omega
  have hxG:x<G.m:=by have:=hI.ext.m;omega
  have hg:=Fo.mx (F:=G) (P:=P') (Z:=Z') hxG;have hk:(G.jw P' Z' x).kids=(K x).map some:=by show (G.kids x).map some=_;rw [(hI.ext.fe x (by omega)).2.1,(hs x hx).1]
  refine⟨G,P',Z',a',xf,ae ?_,hI⟩;simp only [dd,bind_some,hg,hk,aa,List.length_map];rw [if_neg (by omega)]
 | succ d ihd =>
  intro j G P' Z' a' xf hd hj hI;obtain⟨y,hy⟩:=ay (l:=K x) (k:=j) (by omega);have MJ:=List.mem_of_getElem? hy;have AQ:=VQ (K:=K) (n:=n) (x:=x) (j:=j+1);have e1:(K x).take (j+1)=(K x).take j++[y]:=by rw [List.take_add_one,hy];rfl
  rw [e1,List.map_append,List.sum_append] at AQ;simp only [List.map_cons,List.map_nil,List.sum_cons,List.sum_nil] at AQ;have CZ:=hI.hi;have Bb:=hI.lo;have Wx:=hI.m;have adU:=hI.ext.m;obtain⟨G1,P1,Z1,a1,yT,q1,q2,qz,qn,q3,q4,q5,q6,q7,q8,q9⟩:=ih y MJ G P' Z' a' xf hI.ext.ok (by omega) (λz hz=>by obtain⟨b1,b2,b3⟩:=hI.ext.fe z (by have:=QJ z hz;omega);rw [b2,b3];exact hs z hz) (by omega) (by omega)
  have hxG:x<G.m:=by omega
  have hg:=Fo.mx (F:=G) (P:=P') (Z:=Z') hxG;have hk:(G.jw P' Z' x).kids=(K x).map some:=by show (G.kids x).map some=_;rw [(hI.ext.fe x (by omega)).2.1,(hs x hx).1]
  have Wy:((K x).map some)[j]?=some (some y):=by rw [List.getElem?_map,hy];rfl
  have hc:F.m<G.m:=by omega
  have KW:F.m≠G.m:=by omega
  have g1:=Fo.mx (F:=G1) (P:=P1) (Z:=Z1) (i:=G.m) (by omega);have DO:Z1 F.m=false:=(qz F.m hc).trans (hI.zn F.m (Nat.le_refl _) hc);have g2:((G1.aZ P1 Z1).set G.m ⟨(P1 G.m).1,(P1 G.m).2,some F.m,(G1.kids G.m).map some,Z1 G.m⟩)[F.m]?=some (G1.jw P1 Z1 F.m):=by rw [List.getElem?_set_ne (Ne.symm KW)];exact Fo.mx (by omega)
  have Sy:G1.kids F.m=G.kids F.m:=(q2.fe F.m hc).2.1;have tM:=PY (G:=G1) (P:=P1) (Z:=Z1) (c:=F.m) (k:=G.m) (by omega) (by omega) KW DO;have hlen:=hI.len;have step:dd (aw n) (((),a',xf),some x,some F.m,(j:Int),G.aZ P' Z',ks)=some (.nx (((),a1,yT),some x,some F.m,((j+1:Nat):Int),(G1.eG F.m (G1.kids F.m++[G.m]) G.m (some F.m)).aZ P1 Z1,ks)):=by simp only [dd,bind_some,hg,hk,aa,List.length_map,ad,Int.toNat_natCast,Wy,q1,g1];rw [if_pos (by omega)];have e2:({ pl:=(G1.jw P1 Z1 G.m).pl,n:=(G1.jw P1 Z1 G.m).n,up:=some F.m,kids:=(G1.jw P1 Z1 G.m).kids,z:=(G1.jw P1 Z1 G.m).z }:KN)=⟨(P1 G.m).1,(P1 G.m).2,some F.m,(G1.kids G.m).map some,Z1 G.m⟩:=rfl;have ez:(G1.jw P1 Z1 F.m).z=false:=DO;simp only [e2,g2,bind_some,ez,cond_false];have ud:(G1.jw P1 Z1 F.m).kids=(G1.kids F.m).map some:=rfl;rw [ud,a6 (by rw [Sy];simp;omega),bind_some];simp only [if_true];have e3:KN.wk (G1.jw P1 Z1 F.m) ((G1.kids F.m).map some++[some G.m])=⟨(P1 F.m).1,(P1 F.m).2,G1.up F.m,(G1.kids F.m).map some++[some G.m],false⟩:=rfl;rw [e3,tM,cD (by omega) (by omega)];rfl
  rw [aj step];have lC:=Sp.ins (A:=G1.kids F.m) (B:=[]) q2.ok (p:=F.m) (c:=G.m) (by omega) (by omega) q3 KW (by simp);have lI:=lC.okF;refine ihd (j+1) _ P1 Z1 a1 yT (by omega) (by omega) ⟨⟨lI,by show F.m<=G1.m;omega,λi hi=>?_,λi h1 z hz=>?_,λi h1 h2=>?_⟩,λi hi=>(qz i (by omega)).trans (hI.zo i hi),λi h1 (h2:i<G1.m)=>?_,?_,?_,?_,?_,?_,?_,?_,?_,λh=>?_⟩
  ·have b1:i≠F.m:=by omega
   have b2:i≠G.m:=by omega
   obtain⟨c1,c2,c3⟩:=q2.fe i (by omega);obtain⟨d1,d2,d3⟩:=hI.ext.fe i hi;simp only [Fo.eG,if_neg b1,if_neg b2];exact⟨c1.trans d1,c2.trans d2,c3.trans d3⟩
  ·simp only [Fo.eG] at hz
   by_cases e:i=F.m
   ·rw [if_pos e] at hz;rcases List.mem_append.1 hz with hz | hz
    ·rw [Sy] at hz
     have:=hI.ext.inc F.m (Nat.le_refl _) z hz
     omega
    ·have:=List.mem_singleton.1 hz
     omega
   ·rw [if_neg e] at hz
    by_cases e2:i<G.m
    ·rw [(q2.fe i e2).2.1] at hz;exact hI.ext.inc i h1 z hz
    ·exact q2.inc i (by omega) z hz
  ·by_cases e2:i<G.m
   ·rw [(q2.fe i e2).2.2];exact hI.ext.neg i h1 e2
   ·exact q2.neg i (by omega) h2
  ·by_cases e:i<G.m
   ·exact (qz i e).trans (hI.zn i h1 e)
   ·exact qn i (by omega) h2
  ·show (G1.m:Int)=_;omega
  ·simp only [Fo.eG,if_neg KW];rw [(q2.fe F.m hc).1];exact hI.up
  ·simp only [Fo.eG,if_true,Sy,List.length_append,List.length_singleton,hlen]
  ·rw [(q2.fe F.m hc).2.2];exact hI.rN
  ·omega
  ·rw [e1,List.map_append,List.sum_append];simp only [List.map_cons,List.map_nil,List.sum_cons,List.sum_nil];omega
  ·exact λh=>q7 (hI.mono h)
  ·exact λh h2=>q8 (hI.lim h) h2
  ·have aa7:xf=false:=by
    cases xf with
    | false=>rfl
    | true=>rw [q7 rfl] at h;cases h
   obtain⟨k1,k2,k5⟩:=hI.cp aa7;obtain⟨k3,k4,k6⟩:=q9 h;have n1:∀ i,F.m+1<=i->i<G1.m->(G1.eG F.m (G1.kids F.m++[G.m]) G.m (some F.m)).kids i=G1.kids i:=λi h1 _=>by
    have b1:i≠F.m:=by omega
    simp only [Fo.eG,if_neg b1]
   have n2:∀ i,F.m+1<=i->i<G.m->(G1.eG F.m (G1.kids F.m++[G.m]) G.m (some F.m)).kids i=G.kids i:=λi h1 h2=>by rw [n1 i h1 (by omega)];exact (q2.fe i h2).2.1
   simp only [Fo.eG,if_true,Sy];refine⟨?_,?_,?_⟩
   ·rw [e1];refine (k1.imp λc z _ _ hcz=>Ag.mono (Q:=λ_=>True) (Nat.le_refl _) (by show G.m<=G1.m;omega) (λi h1 h2=>?_) (λi z h1 h2 _ hr=>?_) (λ_ _=>rfl) (λ_ _ _ _=>trivial) trivial hcz).append (.cons (Ag.mono (Q:=λ_=>True) (by omega) (Nat.le_refl _) (λi h1 h2=>?_) (λi z h1 h2 _ hr=>hr) (λ_ _=>rfl) (λ_ _ _ _=>trivial) trivial k3) .nil)
    ·have b1:i≠F.m:=by omega
     simp only [if_neg b1];exact (q2.fe i h2).2.1
    ·show P1 i=_;rw [(q2.fe i h2).2.2];exact hr
    ·have b1:i≠F.m:=by omega
     simp only [if_neg b1]
   ·rw [e1,List.map_append,List.sum_append];simp only [List.map_cons,List.map_nil,List.sum_cons,List.sum_nil];omega
   ·rw [e1,List.map_append,List.sum_append,List.flatMap_append];simp only [List.map_cons,List.map_nil,List.sum_cons,List.sum_nil,List.flatMap_cons,List.flatMap_nil,List.append_nil];have m1:=H7 n2 k1;have m2:=vO (λi (h1:G.m<=i) h2=>n1 i (by omega) h2) k3;simp only [Fo.eG,Sy] at m1 m2;rw [m1,m2,k5,k6,Nat.add_zero,List.range'_append_1.symm]
    congr 2
    omega
theorem zH {ks:List (Option Nat)}(hQ:∀ y,Q y->∀ z∈K y,Q z)(QJ:∀ y,Q y->y<m0)(Zp:∀ y,Q y->(K y).length<=1000000)(hB:∀ y,Q y->(B y).attrs.length<=1000000) :
  ∀ (n x:Nat) (F:Fo) (P:Nat->Int×Node) (Z:Nat->Bool) (a:Int) (ob:Bool),Q x->Ht K n x->F.ok->m0<=F.m->(∀ y,Q y->F.kids y=K y/\(P y).2=B y)->0<=a->a+lW K n x<=1000000000->Cod K B F P Z a ob ks n x (aw n (((),a,ob),some x,ks,F.aZ P Z))
 | 0,_,_,_,_,_,_,_,h,_,_,_,_,_=>h.elim
 | n+1,x,F,P,Z,a,ob,hx,hh,hF,hm,hs,ha,Wj=>by
  have ue:=QJ x hx;have hg:=Fo.mx (F:=F) (P:=P) (Z:=Z) (i:=x) (by omega);have hn:(F.jw P Z x).n=B x:=(hs x hx).2;have hlen:(F.aZ P Z).length=F.m:=tm;have FJ:=Fo.Sw (F:=F) (P:=P) (Z:=Z) (b:=(-1,B x));have hzo:∀ i,i<F.m->(dq Z F.m false) i=Z i:=λi hi=>bJ (by omega)
  have hzn:∀ i,F.m<=i->i<F.add.m->(dq Z F.m false) i=false:=λi h1 (h2:i<F.m+1)=>by
   have e:i=F.m:=by omega
   rw [e,ao]
  simp only [lW] at Wj;have hEx:Gx F P F.add (dq P F.m (-1,B x)):=by
   refine⟨hF.add,by show F.m<=F.m+1;omega,λi hi=>?_,λi h1 y hy=>?_,λi h1 (h2:i<F.m+1)=>?_⟩
   ·have e:i≠F.m:=by omega
    simp only [Fo.add,if_neg e,bJ e];exact⟨trivial,trivial,trivial⟩
   ·simp only [Fo.add] at hy
    by_cases e:i=F.m
    ·rw [if_pos e] at hy;cases hy
    ·rw [if_neg e] at hy
     have:=hF.up (hF.iG hy).1
     omega
   ·have e:i=F.m:=by omega
    rw [e,ao]
  show Cod K B F P Z a ob ks (n+1) x (lS (aw n) (((),a,ob),some x,ks,F.aZ P Z));simp only [lS,aa];rw [cD (n:=a+1) (by omega) (by omega)]
  by_cases h6:600<a+1
  ·rw [if_pos h6];simp only [bind_some,hg,hn,hlen];rw [FJ];refine⟨F.add,dq P F.m (-1,B x),dq Z F.m false,a+1,true,rfl,hEx,hzo,hzn,by simp [Fo.add],by show ((F.m+1:Nat):Int)=_;omega,by omega,by simp only [lW];omega,λ_=>rfl,λ_ _=>rfl,λh=>by cases h⟩
  ·rw [if_neg h6];have Sz:(F.aZ P Z++[⟨-1,B x,none,[],false⟩])[x]?=some (F.jw P Z x):=by rw [List.getElem?_append_left (by omega),hg]
   have Zr:(F.aZ P Z++[⟨-1,B x,none,[],false⟩])[F.m]?=some ⟨-1,B x,none,[],false⟩:=by rw [List.getElem?_append_right (by omega),hlen];simp
   have Yh:(F.add.aZ (dq P F.m (-1,B x)) (dq Z F.m false)).set F.m ({ pl := -1,n:={ kind:=(B x).kind,tag:=(B x).tag,text:=(B x).text,attrs:=(B x).attrs,size:=(B x).size },up:=none,kids:=[],z:=false }:KN)=F.add.aZ (dq P F.m (-1,B x)) (dq Z F.m false):=by show (F.add.aZ (dq P F.m (-1,B x)) (dq Z F.m false)).set F.m (⟨-1,B x,none,[],false⟩:KN)=_;rw [<- FJ,List.set_append_right _ _ (by omega),hlen];simp
   have hI:CoI K B F P Z a ob n x 0 F.add (dq P F.m (-1,B x)) (dq Z F.m false) (a+1) ob:=by refine⟨hEx,hzo,hzn,by show ((F.m+1:Nat):Int)=_;omega,by simp [Fo.add],by simp [Fo.add],ao,by omega,by simp,id,λh h2=>?_,λh=>⟨by simp only [Fo.add,if_true,List.take_zero];exact .nil,by simp,by simp [Fo.add]⟩⟩;omega
   obtain⟨H,QU,Ww,Zq,Sx,l1,l2⟩:=H8 (ks:=ks) hx hQ QJ Zp (λy hy F' P' Z' a' xf b1 b2 b3 b4 b5=>zH hQ QJ Zp hB n y F' P' Z' a' xf (hQ x hx y hy) (hh y hy) b1 b2 b3 b4 b5) hm hs ha (by omega) _ 0 _ _ _ _ _ rfl (Nat.zero_le _) hI;simp only [bind_some,hg,hn,hlen,Sz];rw [a6 (by have:=hB x hx;simp;omega)];simp only [bind_some,Zr,List.nil_append];rw [FJ,Yh];have l1':ab (dd (aw n)) (((),a+1,ob),some x,some F.m,(0:Int),F.add.aZ (dq P F.m (-1,B x)) (dq Z F.m false),ks)=_:=l1;rw [l1',bind_some];have CZ:=l2.hi;rw [List.take_length] at CZ;refine⟨H,QU,Ww,Zq,Sx,rfl,l2.ext,l2.zo,l2.zn,l2.up,l2.m,by have:=l2.lo;omega,by simp only [lW];omega,l2.mono,l2.lim,λh=>?_⟩;obtain⟨k1,k2,k5⟩:=l2.cp h;rw [List.take_length] at k1 k2 k5
   have:=l2.m
   have:=l2.lo
   refine⟨⟨⟨Nat.le_refl _,by omega⟩,l2.rN,k1.imp λc z _ _ hcz=>Ag.mono (Q:=λ_=>True) (by omega) (Nat.le_refl _) (λ_ _ _=>rfl) (λ_ _ _ _ _ h=>h) (λ_ _=>rfl) (λ_ _ _ _=>trivial) trivial hcz⟩,by simp only [lW];omega,by simp only [cd,lW,k5];rw [Nat.add_comm 1,List.range'_succ]⟩
end
section
variable {F G:Fo}{L M:Nat->HN}{K:Nat->List Nat}{B:Nat->HN}{lo hi TE j5:Nat}
structure ClI (K:Nat->List Nat)(B:Nat->HN)(F:Fo)(L:Nat->HN)(n x j:Nat)(G:Fo)(M:Nat->HN):Prop where
 ext:Ext F L G M
 m:G.m=F.m+1+(((K x).take j).map (lW K n)).sum
 up:G.up F.m=none
 rN:Sb (M F.m) (B x)
 cp:F2 (Cp G M K B (F.m+1) G.m n) (G.kids F.m) ((K x).take j)
 pre:(G.kids F.m).flatMap (cd G.kids n)=List.range' (F.m+1) (((K x).take j).map (lW K n)).sum
theorem JT {m0:Nat}(hK:∀ i,i<m0->∀ y∈K i,y<m0){n x:Nat}(hx:x<m0)(my:(K x).Nodup)
  (ih:∀ y∈K x,∀ (F:Fo) (L:Nat->HN),F.ok->m0<=F.m->(∀ i,i<m0->F.kids i=K i/\L i=B i)->∃ G M,ak n (some y,F.st L)=some (some F.m,G.st M)/\Ext F L G M/\G.up F.m=none/\G.m=F.m+lW K n y/\Cp G M K B F.m G.m n F.m y/\cd G.kids n F.m=List.range' F.m (lW K n y))
  {F:Fo} {L:Nat->HN} (hF:F.ok) (hm:m0<=F.m) (hs:∀ i,i<m0->F.kids i=K i/\L i=B i) :
  ∀ (d j:Nat) (G:Fo) (M:Nat->HN),(K x).length - j=d->j<=(K x).length->ClI K B F L n x j G M->∃ H N,ab (eu (ak n)) (some F.m,(K x)[j]?,G.st M)=some (some F.m,H.st N)/\ClI K B F L n x (K x).length H N:=by
 intro d
 induction d with
 | zero =>
  intro j G M hd hj hI
  have:j=(K x).length:=by omega
  subst this;refine⟨G,M,ae ?_,hI⟩;simp [eu]
 | succ d ihd =>
  intro j G M hd hj hI;obtain⟨y,hy⟩:=ay (l:=K x) (k:=j) (by omega);have MJ:=List.mem_of_getElem? hy;have Rq:=hK x hx y MJ;have PZ:∀ i,i<m0->G.kids i=K i/\M i=B i:=λi hi=>by obtain⟨a,b,c⟩:=hI.ext.fe i (by omega);obtain⟨d,e⟩:=hs i hi;exact⟨b.trans d,c.trans e⟩
  obtain⟨G1,M1,e1,e2,e3,e4,e5,e6⟩:=ih y MJ G M hI.ext.ok (Nat.le_trans hm hI.ext.m) PZ;have Wx:=hI.m;have tF:F.m<G.m:=by omega
  have adW:0<lW K n y:=by
   cases n with
   | zero=>exact absurd e5 (by simp [Cp])
   | succ n=>simp only [lW];omega
  obtain⟨q1,q2⟩:=JE (L:=M1) (c:=F.m) (k:=G.m) e2.ok (by omega) (by omega) e3 (by omega);have Sy:G1.kids F.m=G.kids F.m:=(e2.fe F.m tF).2.1;rw [Sy] at q1 q2;have hfx:F.up y=some x/\y<F.m:=hF.iG (by rw [(hs x hx).1];exact MJ);have II:((G1.eG F.m (G.kids F.m++[G.m]) G.m (some F.m)).a7 M1 y).aX=(K x)[j+1]?:=by
   have a1:y≠G.m:=by omega
   have a2:x≠F.m:=by omega
   have a3:G1.up y=some x:=by rw [(e2.fe y (by omega)).1,(hI.ext.fe y (by omega)).1];exact hfx.1
   have a4:G1.kids x=K x:=by rw [(e2.fe x (by omega)).2.1];exact (PZ x hx).1
   simp only [Fo.a7,Fo.eG,if_neg a1,a3,Option.bind_some,if_neg a2,a4];exact pE my hy
  have step:eu (ak n) (some F.m,(K x)[j]?,G.st M)=some (.nx (some F.m,(K x)[j+1]?,(G1.eG F.m (G.kids F.m++[G.m]) G.m (some F.m)).st M1)):=by simp only [eu,hy,Option.isNone_some,Bool.not_false,cond_true,e1,bind_some,q1];rw [Fo.get (F:=G1.eG F.m (G.kids F.m++[G.m]) G.m (some F.m)) (by show y<G1.m;omega),bind_some,II]
  rw [aj step];refine ihd (j+1) _ _ (by omega) (by omega) ⟨⟨q2,by show F.m<=G1.m;omega,λi hi=>?_,λi h1 (h2:i<G1.m)=>?_,λi h1 z hz=>?_⟩,?_,?_,?_,?_,?_⟩
  ·have a1:i≠F.m:=by omega
   have a2:i≠G.m:=by omega
   obtain⟨b1,b2,b3⟩:=e2.fe i (by omega);obtain⟨c1,c2,c3⟩:=hI.ext.fe i hi;simp only [Fo.eG,if_neg a1,if_neg a2];exact⟨b1.trans c1,b2.trans c2,b3.trans c3⟩
  ·by_cases e:i<G.m
   ·rw [(e2.fe i e).2.2];exact hI.ext.rN i h1 e
   ·exact e2.rN i (by omega) h2
  ·simp only [Fo.eG] at hz
   by_cases e:i=F.m
   ·rw [if_pos e] at hz;rcases List.mem_append.1 hz with hz | hz
    ·have:=hI.ext.inc F.m (Nat.le_refl _) z hz
     omega
    ·have:=List.mem_singleton.1 hz
     omega
   ·rw [if_neg e] at hz
    by_cases e3:i<G.m
    ·rw [(e2.fe i e3).2.1] at hz;exact hI.ext.inc i h1 z hz
    ·exact e2.inc i (by omega) z hz
  ·show G1.m=_;rw [List.take_add_one,hy,e4,Wx];simp;omega
  ·have a1:F.m≠G.m:=by omega
   simp only [Fo.eG,if_neg a1];rw [(e2.fe F.m tF).1];exact hI.up
  ·rw [(e2.fe F.m tF).2.2];exact hI.rN
  ·simp only [Fo.eG,if_true];rw [List.take_add_one,hy];have f1:F2 (Cp (G1.eG F.m (G.kids F.m++[G.m]) G.m (some F.m)) M1 K B (F.m+1) G1.m n) (G.kids F.m) ((K x).take j):=hI.cp.imp λa b _ _ h=>h.mono (Nat.le_refl _) (by omega) λi h1 h2=>by
    have a1:i≠F.m:=by omega
    obtain⟨b1,b2,b3⟩:=e2.fe i h2;simp only [Fo.eG,if_neg a1];exact⟨b2,b3⟩
   have f2:Cp (G1.eG F.m (G.kids F.m++[G.m]) G.m (some F.m)) M1 K B (F.m+1) G1.m n G.m y:=e5.mono (by omega) (Nat.le_refl _) λi h1 h2=>by
    have a1:i≠F.m:=by omega
    simp [Fo.eG,a1]
   exact f1.append (.cons f2 .nil)
  ·rw [List.take_add_one,hy,List.map_append,List.sum_append];have n1:∀ i,F.m+1<=i->(G1.eG F.m (G.kids F.m++[G.m]) G.m (some F.m)).kids i=G1.kids i:=λi h1=>by
    have b1:i≠F.m:=by omega
    simp only [Fo.eG,if_neg b1]
   have m1:=H7 (G:=G) (G':=G1.eG F.m (G.kids F.m++[G.m]) G.m (some F.m)) (λi (h1:F.m+1<=i) (h2:i<G.m)=>by rw [n1 i h1];exact (e2.fe i h2).2.1) (hI.cp.imp λ_ _ _ _ h=>JS h);have m2:=vO (G:=G1) (G':=G1.eG F.m (G.kids F.m++[G.m]) G.m (some F.m)) (λi (h1:G.m<=i) (h2:i<G1.m)=>n1 i (by omega)) (JS e5);have hk:(G1.eG F.m (G.kids F.m++[G.m]) G.m (some F.m)).kids F.m=G.kids F.m++[G.m]:=by simp [Fo.eG]
   rw [hk,List.flatMap_append,m1];simp only [Option.toList_some,List.map_cons,List.map_nil,List.sum_cons,List.sum_nil,List.flatMap_cons,List.flatMap_nil,List.append_nil];rw [m2,hI.pre,e6,Nat.add_zero,List.range'_append_1.symm]
   congr 2 <;> omega
theorem yI {m0:Nat}(hK:∀ i,i<m0->∀ y∈K i,y<m0)(my:∀ i,i<m0->(K i).Nodup)(mC:∀ i,i<m0->(B i).attrs.length<=1000000):∀ (n x:Nat) (F:Fo) (L:Nat->HN),F.ok->m0<=F.m->(∀ i,i<m0->F.kids i=K i/\L i=B i)->x<m0->Ht K n x ->
  ∃ G M,ak n (some x,F.st L)=some (some F.m,G.st M)/\Ext F L G M/\G.up F.m=none/\G.m=F.m+lW K n x/\Cp G M K B F.m G.m n F.m x/\cd G.kids n F.m=List.range' F.m (lW K n x)
 | 0,_,_,_,_,_,_,_,h=>h.elim
 | n+1,x,F,L,hF,hm,hs,hx,hh=>by
  obtain⟨hk,hl⟩:=hs x hx;have ue:x<F.m:=by omega
  have hlen:(F.st L).length=F.m:=tm;have Sz:=Fo.get (F:=F) (L:=L) ue
  let b:HN:=⟨none,none,none,none,none,(L x).ty,(L x).atom,(L x).data,[],(L x).attrs⟩
  have FJ:F.st L++[⟨none,none,none,none,none,(L x).ty,(L x).atom,(L x).data,[],(L x).attrs⟩]=F.add.st (dq L F.m b):=Fo.VB hF (b:=b);have hI:ClI K B F L n x 0 F.add (dq L F.m b):=by
   refine⟨⟨hF.add,by show F.m<=F.m+1;omega,λi hi=>?_,λi h1 (h2:i<F.m+1)=>?_,λi h1 y hy=>?_⟩,by show F.m+1=_;simp,by simp [Fo.add],?_,by simp only [Fo.add,if_true,List.take_zero];exact .nil,by simp [Fo.add]⟩
   ·have e:i≠F.m:=by omega
    simp only [Fo.add,if_neg e,bJ e];exact⟨trivial,trivial,trivial⟩
   ·have e:i=F.m:=by omega
    rw [e,ao];show (L x).attrs.length<=1000000;rw [hl];exact mC x hx
   ·simp only [Fo.add] at hy
    by_cases e:i=F.m
    ·rw [if_pos e] at hy;cases hy
    ·rw [if_neg e] at hy
     have:=hF.up (hF.iG hy).1
     omega
   ·rw [ao,<- hl];exact⟨rfl,rfl,rfl,rfl,rfl⟩
  obtain⟨H,N,l1,l2⟩:=JT hK hx (my x hx) (λy hy F' L' a1 a2 a3=>yI hK my mC n y F' L' a1 a2 a3 (hK x hx y hy) (hh y hy)) hF hm hs _ 0 _ _ rfl (Nat.zero_le _) hI;have VC:(F.add.a7 (dq L F.m b) x).fst=(K x)[0]?:=by rw [Fo.Fw hF ue];simp only [Fo.a7,hk,List.head?_eq_getElem?]
  refine⟨H,N,?_,l2.ext,l2.up,?_,⟨by have:=l2.m;omega,l2.rN,?_⟩,?_⟩
  ·show mv (ak n) (some x,F.st L)=_;have aa_:((F.a7 L x).attrs.length:Int)<=1048576:=by
    have:=mC x hx
    rw [<- hl] at this;show ((L x).attrs.length:Int)<=_;omega
   have tF:((F.a7 L x).attrs.length:Int)<=((F.a7 L x).attrs.length:Int)/\0<=((F.a7 L x).attrs.length:Int)/\((F.a7 L x).attrs.length:Int)<=1048576:=⟨Int.le_refl _,by omega,aa_⟩;simp only [mv,bind_some,Sz,decide_eq_true tF,cond_true,hlen];have g1:∀ e:HN,(F.st L++[e])[F.m]?=some e:=λe=>by rw [List.getElem?_append_right (by omega),hlen];simp
   have g2:∀ e:HN,(F.st L++[e])[x]?=some (F.a7 L x):=λe=>by rw [List.getElem?_append_left (by omega),Sz]
   have g3:∀ e e':HN,(F.st L++[e]).set F.m e'=F.st L++[e']:=λe e'=>by rw [List.set_append_right _ _ (by omega),hlen];simp
   simp only [g1,g2,g3,bind_some,HN.wa,List.length_replicate,Int.toNat_natCast,Nat.min_self,List.take_length];have g4:List.drop (F.a7 L x).attrs.length (List.replicate (F.a7 L x).attrs.length (⟨[],[],[]⟩:cr))=[]:=List.drop_of_length_le (by simp);rw [g4,List.append_nil];have Yi:F.st L++[⟨none,none,none,none,none,(F.a7 L x).ty,(F.a7 L x).atom,(F.a7 L x).data,[],(F.a7 L x).attrs⟩]=F.add.st (dq L F.m b):=FJ;have Yj:(F.a7 L x).fst=(K x)[0]?:=by rw [<- Fo.Fw hF (b:=b) ue];exact VC
   rw [Yi,Yj,l1];rfl
  ·have:=l2.m
   rw [this,List.take_length];simp only [lW];omega
  ·have:=l2.cp
   rw [List.take_length] at this;exact this.imp λa b _ _ h=>h.mono (by omega) (Nat.le_refl _) λi _ _=>⟨rfl,rfl⟩
  ·have:=l2.pre
   rw [List.take_length] at this;simp only [cd,lW,this];rw [Nat.add_comm 1,List.range'_succ]
end
structure qB (Q:Int×Node->HN->Prop)(D:Nat->Prop)(φ:Nat->Nat)(F:Fo)(P:Nat->Int×Node)(G:Fo)(M:Nat->HN):Prop where
 okF:F.ok
 xg:G.ok
 dm:∀ i,D i->i<F.m
 gm:∀ i,D i->φ i<G.m
 inj:∀ i j,D i->D j->φ i=φ j->i=j
 dk:∀ i,D i->∀ c∈F.kids i,D c
 du:∀ i,D i->∀ p,F.up i=some p->D p
 kids:∀ i,D i->G.kids (φ i)=(F.kids i).map φ
 up:∀ i,D i->G.up (φ i)=(F.up i).map φ
 rN:∀ i,D i->Q (P i) (M (φ i))
section
variable {Q:Int×Node->HN->Prop}{D:Nat->Prop}{φ:Nat->Nat}{F G:Fo}{P:Nat->Int×Node}{M:Nat->HN}{p:Nat}{A B l:List Nat}
theorem qB.mem (h:qB Q D φ F P G M){i:Nat}(hi:D i)(hl:∀ c∈l,D c):φ i∈l.map φ↔i∈l:=by
 constructor
 ·intro hm;obtain⟨j,hj,e⟩:=List.mem_map.1 hm;rw [<- h.inj j i (hl j hj) hi e];exact hj
 ·exact λhm=>List.mem_map.2 ⟨i,hm,rfl⟩
theorem qB.nodup (h:qB Q D φ F P G M):∀ {l:List Nat},(∀ c∈l,D c)->l.Nodup->(l.map φ).Nodup
 | [],_,_=>List.nodup_nil
 | a::l,hl,hn=>by obtain⟨h1,h2⟩:=List.nodup_cons.1 hn;rw [List.map_cons,List.nodup_cons];exact⟨λhm=>h1 ((h.mem (hl a (by simp)) λc hc=>hl c (by simp [hc])).1 hm),h.nodup (λc hc=>hl c (by simp [hc])) h2⟩
theorem qB.off (h:qB Q D φ F P G M)(hl:∀ c∈l,D c):qB Q D φ (F.off l) P (G.off (l.map φ)) M:=by
 refine⟨jz h.okF,jz h.xg,h.dm,h.gm,h.inj,λi hi c hc=>h.dk i hi c (List.mem_filter.1 hc).1,λi hi p hp=>?_,λi hi=>?_,λi hi=>?_,h.rN⟩
 ·simp only [Fo.off] at hp
  by_cases e:i∈l
  ·rw [if_pos e] at hp;cases hp
  ·rw [if_neg e] at hp;exact h.du i hi p hp
 ·simp only [Fo.off,h.kids i hi,List.filter_map]
  congr 1
  refine List.filter_congr λj hj=>?_
  simp only [Function.comp,h.mem (h.dk i hi j hj) hl]
 ·simp only [Fo.off,h.mem hi hl,h.up i hi]
  by_cases e:i∈l
  ·rw [if_pos e,if_pos e];rfl
  ·rw [if_neg e,if_neg e]
theorem qB.br (h:qB Q D φ F P G M)(hp:D p)(hk:F.kids p=A++B)(hl:∀ c∈l,D c/\F.up c=none/\p≠c)(hn:l.Nodup):qB Q D φ (F.br p A l B) P (G.br (φ p) (A.map φ) (l.map φ) (B.map φ)) M:=by
 have NF:∀ c∈l,D c:=λc hc=>(hl c hc).1
 have Zs:G.kids (φ p)=A.map φ++B.map φ:=by rw [h.kids p hp,hk,List.map_append]
 refine⟨o6 h.okF (h.dm p hp) hk l (λc hc=>⟨h.dm c (NF c hc),(hl c hc).2⟩) hn,o6 h.xg (h.gm p hp) Zs (l.map φ) (λd hd=>?_) (h.nodup NF hn),h.dm,h.gm,h.inj,λi hi c hc=>?_,λi hi q hq=>?_,λi hi=>?_,λi hi=>?_,h.rN⟩
 ·obtain⟨c,hc,rfl⟩:=List.mem_map.1 hd;obtain⟨h1,h2,h3⟩:=hl c hc;exact⟨h.gm c h1,by rw [h.up c h1,h2];rfl,λe=>h3 (h.inj p c hp h1 e)⟩
 ·simp only [Fo.br] at hc
  by_cases e:i=p
  ·rw [if_pos e] at hc;have hd:=h.dk p hp;rw [hk] at hd;rcases List.mem_append.1 hc with hc | hc
   ·rcases List.mem_append.1 hc with hc | hc
    ·exact hd c (by simp [hc])
    ·exact NF c hc
   ·exact hd c (by simp [hc])
  ·rw [if_neg e] at hc;exact h.dk i hi c hc
 ·simp only [Fo.br] at hq
  by_cases e:i∈l
  ·rw [if_pos e] at hq;cases hq;exact hp
  ·rw [if_neg e] at hq;exact h.du i hi q hq
 ·simp only [Fo.br]
  by_cases e:i=p
  ·rw [if_pos e,if_pos (by rw [e]),List.map_append,List.map_append]
  ·rw [if_neg e,if_neg (λe2=>e (h.inj i p hi hp e2)),h.kids i hi]
 ·simp only [Fo.br,h.mem hi NF,h.up i hi]
  by_cases e:i∈l
  ·rw [if_pos e,if_pos e];rfl
  ·rw [if_neg e,if_neg e]
end
def MV (K K':Nat->List Nat)(R:Nat->Nat->Prop):Nat->Nat->Nat->Prop
 | 0,_,_=>False
 | n+1,c,d=>R c d/\F2 (MV K K' R n) (K c) (K' d)
theorem F2.comp {α β γ:Type}{R:α->β->Prop}{S:γ->β->Prop}{T:α->γ->Prop}:∀ {l:List α} {m:List β} {k:List γ},(∀ a∈l,∀ b∈m,∀ c∈k,R a b->S c b->T a c)->F2 R l m->F2 S k m->F2 T l k
 | _,_,_,_, .nil, .nil => .nil
 | _,_,_,hi, .cons h t, .cons h' t' => .cons (hi _ (by simp) _ (by simp) _ (by simp) h h') (F2.comp (λa ha b hb c hc=>hi a (by simp [ha]) b (by simp [hb]) c (by simp [hc])) t t')
theorem F2.of_map {α β γ:Type}{R:α->γ->Prop}{f:β->γ}:∀ {l:List α} {m:List β},F2 R l (m.map f)->F2 (λa b=>R a (f b)) l m
 | _,[], .nil => .nil
 | _,_::_, .cons h t => .cons h (F2.of_map t)
theorem JU {F G:Fo}{M:Nat->HN}{R R2:Nat->Nat->Prop}{K K':Nat->List Nat}{B:Nat->HN}{φ:Nat->Nat}{lo hi TE j5:Nat}{T:Nat->Prop}(hK:∀ y,T y->K' (φ y)=(K y).map φ/\∀ z∈K y,T z)(hR:∀ c y d,T y->R c y->Sb (M d) (B (φ y))->R2 c d) :
  ∀ {n a x d:Nat},T x->Ag F R K lo hi n a x->Cp G M K' B TE j5 n d (φ x)->MV F.kids G.kids R2 n a d
 | 0,_,_,_,_,h,_=>h
 | n+1,a,x,d,hx,⟨_,h2,h3⟩,⟨_,k2,k3⟩=>by obtain⟨e1,e2⟩:=hK x hx;rw [e1] at k3;exact⟨hR a x d hx h2 k2,F2.comp (λa' _ b hb c _ h h'=>JU hK hR (e2 b hb) h h') h3 k3.of_map⟩
theorem Ah {A B:List Nat}{a s:Nat}(h:A++B=List.range' a s):A=List.range' a A.length/\B=List.range' (a+A.length) (s - A.length)/\A.length<=s:=by
 have hl:A.length+B.length=s:=by
  have:=congrArg List.length h
  simpa using this
 have e:List.range' a s=List.range' a A.length++List.range' (a+A.length) (s - A.length):=by
  rw [List.range'_append_1]
  congr 1
  omega
 rw [e] at h;obtain⟨h1,h2⟩:=List.append_inj h (by simp);exact⟨h1,h2,by omega⟩
section
variable {K K':Nat->List Nat}{R:Nat->Nat->Prop}{a0 b0:Nat}
def VR (K K':Nat->List Nat)(R:Nat->Nat->Prop)(a0 b0 p s:Nat):Prop :=
 ∀ q,p<=q->q<p+s->K' (b0+q)=(K (a0+q)).map (λi=>b0+(i - a0))/\R (a0+q) (b0+q)/\∀ y∈K (a0+q),a0+q<y/\y<a0+(p+s)
theorem VR.app {p s s':Nat}(h:VR K K' R a0 b0 p s)(h':VR K K' R a0 b0 (p+s) s'):VR K K' R a0 b0 p (s+s'):=λq h1 h2=>by
 by_cases e:q<p+s
 ·obtain⟨a,b,c⟩:=h q h1 e;exact⟨a,b,λy hy=>by have:=c y hy;omega⟩
 ·obtain⟨a,b,c⟩:=h' q (by omega) (by omega);exact⟨a,b,λy hy=>by have:=c y hy;omega⟩
theorem H9 {n:Nat}(ih:∀ {c d p s s':Nat},MV K K' R n c d->cd K n c=List.range' (a0+p) s->cd K' n d=List.range' (b0+p) s'->s=s'/\c=a0+p/\d=b0+p/\0<s/\VR K K' R a0 b0 p s) :
  ∀ {l m:List Nat} {p s s':Nat},F2 (MV K K' R n) l m->l.flatMap (cd K n)=List.range' (a0+p) s->m.flatMap (cd K' n)=List.range' (b0+p) s'->s=s'/\m=l.map (λi=>b0+(i - a0))/\(∀ y∈l,a0+p<=y/\y<a0+(p+s))/\VR K K' R a0 b0 p s
 | _,_,p,s,s', .nil,h1,h2=>by
  have e1:s=0:=by have:=congrArg List.length h1;simpa using this.symm
  have e2:s'=0:=by have:=congrArg List.length h2;simpa using this.symm
  subst e1;subst e2;exact⟨rfl,rfl,by simp,λq h1 h2=>by omega⟩
 | _,_,p,s,s', .cons (a:=c) (b:=d) (l:=l) (m:=m) h t,h1,h2=>by
  rw [List.flatMap_cons] at h1 h2;obtain⟨g1,g2,g3⟩:=Ah h1;obtain⟨g4,g5,g6⟩:=Ah h2;obtain⟨e1,e2,e3,e4,e5⟩:=ih h g1 g4;rw [<- e1] at g5 g6;obtain⟨k1,k2,k3,k4⟩:=H9 ih (p:=p+(cd K n c).length) t (by rw [g2,Nat.add_assoc]) (by rw [g5,Nat.add_assoc]);refine⟨by omega,?_,λy hy=>?_,?_⟩
  ·rw [List.map_cons,<- k2,e2,e3]
   congr 1
   omega
  ·rcases List.mem_cons.1 hy with rfl | hy
   ·omega
   ·have:=k3 y hy
    omega
  ·have:=e5.app k4
   rwa [show (cd K n c).length+(s - (cd K n c).length)=s by omega] at this
theorem zI:∀ {n c d p s s':Nat},MV K K' R n c d->cd K n c=List.range' (a0+p) s->cd K' n d=List.range' (b0+p) s'->s=s'/\c=a0+p/\d=b0+p/\0<s/\VR K K' R a0 b0 p s
 | 0,_,_,_,_,_,h,_,_=>h.elim
 | n+1,c,d,p,s,s',⟨hr,hf⟩,h1,h2=>by
  simp only [cd] at h1 h2;cases s with
  | zero=>simp at h1
  | succ s =>
   cases s' with
   | zero=>simp at h2
   | succ s' =>
    rw [List.range'_succ,List.cons.injEq] at h1 h2;obtain⟨rfl,h1⟩:=h1;obtain⟨rfl,h2⟩:=h2;obtain⟨e1,e2,e3,e4⟩:=H9 (λh h' h''=>zI h h' h'') (p:=p+1) hf (by rw [h1,Nat.add_assoc]) (by rw [h2,Nat.add_assoc]);refine⟨by omega,rfl,rfl,by omega,?_⟩;intro q g1 g2
    by_cases e:q=p
    ·subst e;exact⟨e2,hr,λy hy=>by have:=e3 y hy;omega⟩
    ·obtain⟨k1,k2,k3⟩:=e4 q (by omega) (by omega);exact⟨k1,k2,λy hy=>by have:=k3 y hy;omega⟩
theorem CA {K:Nat->List Nat}:∀ {n x y:Nat},y∈cd K n x->y=x∨∃ p∈cd K n x,y∈K p
 | 0,_,_,h=>by cases h
 | n+1,x,y,h=>by
  simp only [cd,List.mem_cons,List.mem_flatMap] at h;rcases h with h | ⟨z,hz,h⟩
  ·exact .inl h
  ·right;rcases CA h with rfl | ⟨p,hp,h2⟩
   ·exact⟨x,by simp [cd],hz⟩
   ·exact⟨p,by simp only [cd,List.mem_cons,List.mem_flatMap];exact .inr ⟨z,hz,hp⟩,h2⟩
end
section
variable {Q:Int×Node->HN->Prop}{D:Nat->Prop}{φ:Nat->Nat}{F G G':Fo}{P:Nat->Int×Node}{M M':Nat->HN}
def TO (φ:Nat->Nat)(a s b i:Nat):Nat:=if a<=i/\i<a+s then b+(i - a) else φ i
theorem qB.copy {a s n:Nat}{R:Nat->Nat->Prop}(h:qB Q D φ F P G M)(hF:a+s<=F.m)(hD:∀ i,a<=i->i<a+s->¬ D i)(hu:F.up a=none)(hi:cd F.kids n a=List.range' a s)
  (lI:G'.ok) (hm:G.m<=G'.m) (hold:∀ i,i<G.m->G'.up i=G.up i/\G'.kids i=G.kids i/\M' i=M i) (JB:G'.up G.m=none) (tE:G'.m=G.m+s) (j5:cd G'.kids n G.m=List.range' G.m s) (hs:MV F.kids G'.kids R n a G.m) (hR:∀ c d,a<=c->c<a+s->R c d->Q (P c) (M' d)) :
  qB Q (λi=>D i∨(a<=i/\i<a+s)) (TO φ a s G.m) F P G' M':=by
 obtain⟨_,_,_,j4,Ns⟩:=zI (a0:=a) (b0:=G.m) (p:=0) hs hi j5;have lH:∀ i,a<=i->i<a+s->(TO φ a s G.m) i=G.m+(i - a):=λi h1 h2=>if_pos ⟨h1,h2⟩
 have AX:∀ i,D i->(TO φ a s G.m) i=φ i:=λi hd=>if_neg λ⟨h1,h2⟩=>hD i h1 h2 hd
 have t_:∀ i,a<=i->i<a+s->i=a∨∃ p,F.up i=some p/\i∈F.kids p/\a<=p/\p<a+s:=λi h1 h2=>by
  rcases CA (K:=F.kids) (n:=n) (x:=a) (y:=i) (by rw [hi];simp;omega) with e | ⟨p,hp,hk⟩
  ·exact .inl e
  ·rw [hi] at hp;simp at hp;exact .inr ⟨p,(h.okF.iG hk).1,hk,by omega,by omega⟩
 have Yk:∀ i,a<=i->i<a+s->G'.kids (G.m+(i - a))=(F.kids i).map (λj=>G.m+(j - a))/\R i (G.m+(i - a))/\∀ y∈F.kids i,i<y/\y<a+s:=λi h1 h2=>by obtain⟨k1,k2,k3⟩:=Ns (i - a) (by omega) (by omega);rw [show a+(i - a)=i by omega] at k1 k2 k3;exact⟨k1,k2,λy hy=>by have:=k3 y hy;omega⟩
 refine⟨h.okF,lI,λi hd=>?_,λi hd=>?_,λi j hd he e=>?_,λi hd c hc=>?_,λi hd p hp=>?_,λi hd=>?_,λi hd=>?_,λi hd=>?_⟩
 ·rcases hd with hd | hd
  ·exact h.dm i hd
  ·omega
 ·rcases hd with hd | hd
  ·rw [AX i hd];have:=h.gm i hd;omega
  ·rw [lH i hd.1 hd.2];omega
 ·rcases hd with hd | hd <;> rcases he with he | he
  ·rw [AX i hd,AX j he] at e;exact h.inj i j hd he e
  ·rw [AX i hd,lH j he.1 he.2] at e;have:=h.gm i hd;omega
  ·rw [lH i hd.1 hd.2,AX j he] at e;have:=h.gm j he;omega
  ·rw [lH i hd.1 hd.2,lH j he.1 he.2] at e;omega
 ·rcases hd with hd | hd
  ·exact .inl (h.dk i hd c hc)
  ·have:=(Yk i hd.1 hd.2).2.2 c hc
   exact .inr (by omega)
 ·rcases hd with hd | hd
  ·exact .inl (h.du i hd p hp)
  ·rcases t_ i hd.1 hd.2 with e | ⟨q,hq,_,h1,h2⟩
   ·rw [e,hu] at hp;cases hp
   ·rw [hq] at hp;cases hp;exact .inr ⟨h1,h2⟩
 ·rcases hd with hd | hd
  ·rw [AX i hd,(hold _ (h.gm i hd)).2.1,h.kids i hd];exact List.map_congr_left λc hc=>(AX c (h.dk i hd c hc)).symm
  ·rw [lH i hd.1 hd.2,(Yk i hd.1 hd.2).1];refine List.map_congr_left λc hc=>?_
   have:=(Yk i hd.1 hd.2).2.2 c hc
   exact (lH c (by omega) (by omega)).symm
 ·rcases hd with hd | hd
  ·rw [AX i hd,(hold _ (h.gm i hd)).1,h.up i hd];cases hp:F.up i with
   | none=>rfl
   | some p=>exact congrArg some (AX p (h.du i hd p hp)).symm
  ·rw [lH i hd.1 hd.2];rcases t_ i hd.1 hd.2 with e | ⟨q,hq,hk,h1,h2⟩
   ·subst e;rw [Nat.sub_self,Nat.add_zero,JB,hu];rfl
   ·rw [hq];have Jg:G.m+(i - a)∈G'.kids (G.m+(q - a)):=by rw [(Yk q h1 h2).1];exact List.mem_map.2 ⟨i,hk,rfl⟩
    rw [(lI.iG Jg).1];exact congrArg some (lH q h1 h2).symm
 ·rcases hd with hd | hd
  ·rw [AX i hd,(hold _ (h.gm i hd)).2.2];exact h.rN i hd
  ·rw [lH i hd.1 hd.2];exact hR i _ hd.1 hd.2 (Yk i hd.1 hd.2).2.1
end
def Gy (F:Fo):Nat->Nat->Option Nat
 | 0,z=>some z
 | k+1,z=>(Gy F k z).bind F.up
section
variable {F:Fo}{r:Nat->Nat}
theorem FK:∀ (b a z:Nat),Gy F (a+b) z=(Gy F a z).bind (Gy F b)
 | 0,a,z=>by cases h:Gy F a z <;> simp [Gy,h]
 | b+1,a,z=>by show (Gy F (a+b) z).bind F.up=_;rw [FK b a z];cases h:Gy F a z <;> simp [Gy]
theorem CB (hF:F.ok)(hr:∀ x y,y∈F.kids x->r y<r x):∀ (k z x:Nat),Gy F k z=some x->r z+k<=r x
 | 0,z,x,h=>by cases h;omega
 | k+1,z,x,h=>by
  simp only [Gy] at h;cases hy:Gy F k z with
  | none=>rw [hy] at h;cases h
  | some y =>
   rw [hy] at h;have h1:=CB hF hr k z y hy;have h2:=hr x y (hF.up h).2;omega
theorem FL (hF:F.ok):∀ (n x z:Nat),z∈cd F.kids n x->∃ k,Gy F k z=some x
 | 0,x,z,h=>by simp [cd] at h
 | n+1,x,z,h=>by
  simp only [cd,List.mem_cons,List.mem_flatMap] at h;rcases h with rfl | ⟨y,hy,hz⟩
  ·exact⟨0,rfl⟩
  ·obtain⟨k,hk⟩:=FL hF n y z hz;exact⟨k+1,by simp only [Gy,hk,Option.bind_some];exact (hF.iG hy).1⟩
theorem Ei (hF:F.ok)(hr:∀ x y,y∈F.kids x->r y<r x){x a b z k l:Nat}(ha:F.up a=some x)(hb:F.up b=some x)(h1:Gy F k z=some a)(h2:Gy F l z=some b)(vH:k<=l):a=b:=by
 by_cases e:k=l
 ·subst e;rw [h1] at h2;exact Option.some.inj h2
 ·have h3:=FK (F:=F) (l - k) k z;rw [show k+(l - k)=l by omega,h2,h1,Option.bind_some] at h3;have h4:=FK (F:=F) (l - k - 1) 1 a;rw [show 1+(l - k - 1)=l - k by omega,<- h3] at h4;have h5:Gy F 1 a=some x:=by simp [Gy,ha]
  rw [h5,Option.bind_some] at h4;have h6:=CB hF hr _ _ _ h4.symm;have h7:=hr x b (hF.up hb).2;omega
theorem zJ (hF:F.ok)(hr:∀ x y,y∈F.kids x->r y<r x):∀ (n x:Nat),(cd F.kids n x).Nodup
 | 0,x=>by simp [cd]
 | n+1,x=>by
  simp only [cd];refine List.nodup_cons.2 ⟨λh=>?_,?_⟩
  ·obtain⟨y,hy,hz⟩:=List.mem_flatMap.1 h;obtain⟨k,hk⟩:=FL hF n y x hz;have h1:=CB hF hr k x y hk;have h2:=hr x y hy;omega
  ·unfold List.Nodup;rw [List.pairwise_flatMap];refine⟨λy _=>zJ hF hr n y,(hF.nd x).imp_of_mem λ{a b} ha hb p_ z hz w hw e=>?_⟩;subst e;obtain⟨k,hk⟩:=FL hF n a z hz;obtain⟨l,hl⟩:=FL hF n b z hw;have ua:=(hF.iG ha).1;have ub:=(hF.iG hb).1
   by_cases e:k<=l
   ·exact p_ (Ei hF hr ua ub hk hl e)
   ·exact p_ (Ei hF hr ub ua hl hk (by omega)).symm
theorem CC (hF:F.ok):∀ (n x:Nat),x<F.m->∀ z∈cd F.kids n x,z<F.m
 | 0,x,_,z,h=>by simp [cd] at h
 | n+1,x,hx,z,h=>by
  simp only [cd,List.mem_cons,List.mem_flatMap] at h;rcases h with rfl | ⟨y,hy,hz⟩
  ·exact hx
  ·exact CC hF n y (hF.iG hy).2 z hz
theorem yJ (hF:F.ok)(hr:∀ x y,y∈F.kids x->r y<r x)(n:Nat){x:Nat}(hx:x<F.m):(cd F.kids n x).length<=F.m:=by have h:=(zJ hF hr n x).length_le_of_subset (l₂:=List.range F.m) (λz hz=>List.mem_range.2 (CC hF n x hx z hz));rwa [List.length_range] at h
end
theorem Ej (f:Nat->Nat):∀ m:Nat,∃ N,∀ i,i<m->f i<=N
 | 0=>⟨0,λi hi=>by omega⟩
 | m+1=>by
  obtain⟨N,h⟩:=Ej f m;refine⟨max N (f m),λi hi=>?_⟩
  by_cases e:i=m
  ·subst e;exact Nat.le_max_right _ _
  ·exact Nat.le_trans (h i (by omega)) (Nat.le_max_left _ _)
theorem Rk.down {F:Fo}(hF:F.ok)(h:Rk F):∃ r:Nat->Nat,∀ x y,y∈F.kids x->r y<r x:=by obtain⟨r,hr⟩:=h;obtain⟨N,hN⟩:=Ej r F.m;refine⟨λi=>N - r i,λx y hy=>?_⟩;have h1:=hF.iG hy;have h2:=hr y x h1.1;have h3:=hN y h1.2;simp only;omega
theorem Lc {F:Fo}(hF:F.ok){r:Nat->Nat}(hr:∀ c p,F.up c=some p->r p<r c):∀ (n x:Nat) (l:List Nat),(x::l).Nodup->(∀ z∈x::l,z<F.m)->(∀ z∈l,r z<r x)->F.m<=n+l.length->Ht F.kids n x
 | 0,x,l,h1,h2,_,h4=>by have h:=h1.length_le_of_subset (l₂:=List.range F.m) (λz hz=>List.mem_range.2 (h2 z hz));simp only [List.length_cons,List.length_range] at h;omega
 | n+1,x,l,h1,h2,h3,h4=>λy hy=>by
  obtain⟨hu,hm⟩:=hF.iG hy;have QN:=hr y x hu;refine Lc hF hr n y (x::l) (List.nodup_cons.2 ⟨λhm=>?_,h1⟩) (λz hz=>?_) (λz hz=>?_) (by simp only [List.length_cons];omega)
  ·rcases List.mem_cons.1 hm with e | hm
   ·subst e;omega
   ·have:=h3 y hm;omega
  ·rcases List.mem_cons.1 hz with rfl | hz
   ·exact hm
   ·exact h2 z hz
  ·rcases List.mem_cons.1 hz with rfl | hz
   ·exact QN
   ·have:=h3 z hz;omega
theorem tA {F:Fo}(hF:F.ok)(h:Rk F){n x:Nat}(hx:x<F.m)(hn:F.m<=n):Ht F.kids n x:=by obtain⟨r,hr⟩:=h;exact Lc hF hr n x [] (by simp) (λz hz=>by rw [List.mem_singleton.1 hz];exact hx) (λz hz=>by cases hz) (by simpa using hn)
section
variable {F G:Fo}{P P':Nat->Int×Node}{Z:Nat->Bool}{p:Nat}{A B l:List Nat}
theorem Rk.off (h:Rk F):Rk (F.off l):=by
 obtain⟨r,hr⟩:=h;refine⟨r,λc p hp=>?_⟩;simp only [Fo.off] at hp
 by_cases e:c∈l
 ·rw [if_pos e] at hp;cases hp
 ·rw [if_neg e] at hp;exact hr c p hp
open Classical in
theorem Rk.br (h:Rk F)(hl:∀ c∈l,F.up c=none/\¬ jZ F c p):Rk (F.br p A l B):=by
 obtain⟨r,hr⟩:=h;refine⟨λx=>if ∃ d∈l,jZ F d x then r x+r p+1 else r x,λc q hq=>?_⟩;simp only [Fo.br] at hq;have hp:¬ ∃ d∈l,jZ F d p:=λ⟨d,hd,h⟩=>(hl d hd).2 h
 by_cases e:c∈l
 ·rw [if_pos e] at hq;cases hq;simp only [if_neg hp];rw [if_pos ⟨c,e, .self⟩];omega
 ·rw [if_neg e] at hq;have h1:=hr c q hq;have aba:(∃ d∈l,jZ F d q)↔∃ d∈l,jZ F d c:=by
   constructor
   ·exact λ⟨d,hd,h⟩=>⟨d,hd, .up hq h⟩
   ·intro ⟨d,hd,h⟩;refine⟨d,hd,?_⟩;cases h with
    | self=>exact absurd hd e
    | up h t=>rw [hq] at h;cases h;exact t
  simp only [aba]
  split <;> omega
theorem Rk.ext (h:Rk F)(hF:F.ok)(hx:Gx F P G P'):Rk G:=by
 obtain⟨r,hr⟩:=h;refine⟨λi=>if i<F.m then r i else i,λc q hq=>?_⟩;have hk:=hx.ok.up hq
 by_cases hq':q<F.m
 ·rw [(hx.fe q hq').2.1] at hk;obtain⟨h1,h2⟩:=hF.iG hk.2;simp only [if_pos hq',if_pos h2];exact hr c q h1
 ·have h1:=hx.inc q (by omega) c hk.2;simp only [if_neg hq',if_neg (show ¬ c<F.m by omega)];omega
def Bk (P:Nat->Int×Node)(c:Nat):Bool:=decide ((P c).2.kind=3)
inductive Bl (K:Nat->List Nat)(e:Nat->Bool):Nat->Option Nat->Prop
 | stop {x:Nat} (h:(K x).filter e=[]):Bl K e x (some x)
 | many {x a b:Nat} {l:List Nat} (h:(K x).filter e=a::b::l):Bl K e x none
 | down {x y:Nat} {r:Option Nat} (h:(K x).filter e=[y]) (t:Bl K e y r):Bl K e x r
theorem Bl.fn {K:Nat->List Nat}{e:Nat->Bool}{x:Nat}{r s:Option Nat}(h:Bl K e x r)(h':Bl K e x s):r=s:=by
 induction h with
 | stop h =>
  cases h' with
  | stop=>rfl
  | many h2=>rw [h] at h2;cases h2
  | down h2=>rw [h] at h2;cases h2
 | many h =>
  cases h' with
  | stop h2=>rw [h] at h2;cases h2
  | many=>rfl
  | down h2=>rw [h] at h2;cases h2
 | down h _ ih =>
  cases h' with
  | stop h2=>rw [h] at h2;cases h2
  | many h2=>rw [h] at h2;cases h2
  | down h2 t=>rw [h] at h2;cases h2;exact ih t
def Yl (k:Nat)(S:List KN):List Nat->(Option Nat×Option Nat×List KN) ⊕ (Option Nat×List KN)
 | [] => .inl (some k,none,S)
 | [y] => .inl (some k,some y,S)
 | _ => .inr (none,S)
theorem P3 (hF:F.ok){k:Nat}(hk:k<F.m)(hl:(F.kids k).length<=1000000):∀ (d j:Nat) (nx:Option Nat),(F.kids k).length - j=d->j<=(F.kids k).length->((F.kids k).take j).filter (Bk P)=nx.toList ->
  ab dG (some k,nx,(j:Int),F.aZ P Z)=some (Yl k (F.aZ P Z) ((F.kids k).filter (Bk P))):=by
 have hg:(F.aZ P Z)[k]?=some (F.jw P Z k):=Fo.mx hk;have ud:(F.jw P Z k).kids=(F.kids k).map some:=rfl;intro d
 induction d with
 | zero =>
  intro j nx hd hj hf;obtain rfl:j=(F.kids k).length:=by omega
  rw [List.take_length] at hf;refine ae ?_;simp only [dG,bind_some,hg,ud,aa,List.length_map];rw [if_neg (by omega),hf];cases nx <;> rfl
 | succ d ih =>
  intro j nx hd hj hf;obtain⟨y,hy⟩:=ay (l:=F.kids k) (k:=j) (by omega);have MJ:=List.mem_of_getElem? hy;have hgy:(F.aZ P Z)[y]?=some (F.jw P Z y):=Fo.mx (hF.iG MJ).2;have hyk:((F.kids k).map some)[j]?=some (some y):=by rw [List.getElem?_map,hy];rfl
  have hyn:(F.jw P Z y).n=(P y).2:=rfl;have e1:(F.kids k).take (j+1)=(F.kids k).take j++[y]:=by rw [List.take_add_one,hy];rfl
  have RS:((F.kids k).take (j+1)).filter (Bk P)=nx.toList++[y].filter (Bk P):=by rw [e1,List.filter_append,hf]
  by_cases he:(P y).2.kind=3
  ·have heb:Bk P y=true:=by simp [Bk,he]
   rw [List.filter_cons_of_pos heb,List.filter_nil] at RS;cases nx with
   | none =>
    have step:dG (some k,none,(j:Int),F.aZ P Z)=some (.nx (some k,some y,((j+1:Nat):Int),F.aZ P Z)):=by simp only [dG,bind_some,hg,ud,aa,List.length_map,ad,hyk,hgy,hyn];rw [if_pos (by omega),if_pos he,if_pos he,cD (by omega) (by omega)];rfl
    rw [aj step];exact ih (j+1) (some y) (by omega) (by omega) RS
   | some z =>
    have e2:(F.kids k).filter (Bk P)=z::y::((F.kids k).drop (j+1)).filter (Bk P):=by
     conv=>lhs;rw [<- List.take_append_drop (j+1) (F.kids k)]
     rw [List.filter_append,RS];rfl
    refine ae ?_;simp only [dG,bind_some,hg,ud,aa,List.length_map,ad,hyk,hgy,hyn];rw [if_pos (by omega),if_pos he,e2];rfl
  ·have heb:¬ Bk P y=true:=by simp [Bk,he]
   rw [List.filter_cons_of_neg heb,List.filter_nil,List.append_nil] at RS;have step:dG (some k,nx,(j:Int),F.aZ P Z)=some (.nx (some k,nx,((j+1:Nat):Int),F.aZ P Z)):=by simp only [dG,bind_some,hg,ud,aa,List.length_map,ad,hyk,hgy,hyn];rw [if_pos (by omega),if_neg he,if_neg he,cD (by omega) (by omega)];rfl
   rw [aj step];exact ih (j+1) nx (by omega) (by omega) RS
theorem Ai (hF:F.ok)(hl:∀ i,(F.kids i).length<=1000000):∀ (n k:Nat),k<F.m->Ht F.kids n k->∃ r,ab iw (some k,F.aZ P Z)=some (r,F.aZ P Z)/\Bl F.kids (Bk P) k r
 | 0,_,_,h=>h.elim
 | n+1,k,hk,hh=>by
  have hs:=P3 (P:=P) (Z:=Z) hF hk (hl k) _ 0 none rfl (Nat.zero_le _) rfl;have xm:ab dG (some k,none,(0:Int),F.aZ P Z)=_:=hs;cases hf:(F.kids k).filter (Bk P) with
  | nil =>
   rw [hf] at xm;refine⟨some k,ae ?_, .stop hf⟩;simp only [iw,xm,bind_some];rfl
  | cons a l =>
   cases l with
   | nil =>
    rw [hf] at xm;have ha:a∈F.kids k:=by
     have:a∈(F.kids k).filter (Bk P):=by rw [hf];simp
     exact (List.mem_filter.1 this).1
    obtain⟨r,h1,h2⟩:=Ai hF hl n a (hF.iG ha).2 (hh a ha);refine⟨r,?_, .down hf h2⟩;have step:iw (some k,F.aZ P Z)=some (.nx (some a,F.aZ P Z)):=by simp only [iw,xm,bind_some];rfl
    rw [aj step];exact h1
   | cons b l =>
    rw [hf] at xm;refine⟨none,ae ?_, .many hf⟩;simp only [iw,xm,bind_some];rfl
theorem zK (hF:F.ok)(hr:Rk F)(hl:∀ i,(F.kids i).length<=1000000){k:Nat}(hk:k<F.m):∃ r,mI (some k,F.aZ P Z)=some r/\Bl F.kids (Bk P) k r:=by obtain⟨r,h1,h2⟩:=Ai (P:=P) (Z:=Z) hF hl F.m k hk (tA hF hr hk (Nat.le_refl _));exact⟨r,by simp only [mI,h1,bind_some],h2⟩
theorem F2.FM {α β:Type}{R:α->β->Prop}{e:α->Bool}{e':β->Bool}(hR:∀ a b,R a b->e a=e' b):∀ {l:List α} {m:List β},F2 R l m->F2 R (l.filter e) (m.filter e')
 | _,_, .nil => .nil
 | _,_, .cons (a:=a) (b:=b) h t=>by
  rw [List.filter_cons,List.filter_cons,<- hR a b h];cases e a with
  | true=>exact .cons h (t.FM hR)
  | false=>exact t.FM hR
theorem Bl.shp {K K':Nat->List Nat}{R:Nat->Nat->Prop}{e e':Nat->Bool}(hR:∀ c d,R c d->e c=e' d):∀ {n c d:Nat} {r s:Option Nat},MV K K' R n c d->Bl K e c r->Bl K' e' d s->(r.isNone↔s.isNone)
 | 0,_,_,_,_,h,_,_=>h.elim
 | n+1,c,d,r,s,⟨_,hf⟩,h,h'=>by
  have B3:F2 (MV K K' R n) ((K c).filter e) ((K' d).filter e'):=hf.FM λa b h=>by
   cases n with
   | zero=>exact h.elim
   | succ n=>exact hR _ _ h.1
  cases h with
  | stop h1 =>
   rw [h1] at B3;cases hk:(K' d).filter e' with
   | nil =>
    cases h' with
    | stop=>simp
    | many h2=>rw [hk] at h2;cases h2
    | down h2=>rw [hk] at h2;cases h2
   | cons=>rw [hk] at B3;cases B3
  | many h1 =>
   rw [h1] at B3;cases h' with
   | stop h2=>rw [h2] at B3;cases B3
   | many h2=>simp
   | down h2=>rw [h2] at B3;cases B3 with | cons _ t=>cases t
  | down h1 t =>
   rw [h1] at B3;cases h' with
   | stop h2=>rw [h2] at B3;cases B3
   | many h2=>rw [h2] at B3;cases B3 with | cons _ t=>cases t
   | down h2 t' =>
    rw [h2] at B3;cases B3 with | cons h _=>exact Bl.shp hR h t t'
end
def qC (F:Fo)(to:Nat)(l:List Nat):Fo:=(F.off l).br to (F.kids to) l []
structure Cpd (F:Fo)(P:Nat->Int×Node)(w:Nat)(F1:Fo)(P1:Nat->Int×Node):Prop where
 ext:Gx F P F1 P1
 up:F1.up F.m=none
 n:Ag F1 (QV P1 λy=>(P y).2) F.kids F.m F1.m lY F.m w/\cd F1.kids lY F.m=List.range' F.m (F1.m - F.m)
def Wr (w:Nat)(l:List Nat)(F:Fo)(P:Nat->Int×Node)(F':Fo)(P':Nat->Int×Node):Prop :=
 ∃ (F1:Fo) (first:Nat) (rest:List Nat) (p:Nat) (A B:List Nat) (to:Nat),Cpd F P w F1 P'/\l=first::rest/\F1.up first=some p/\F1.kids p=A++first::B/\Bl (F1.br p A [F.m] (first::B)).kids (Bk P') F.m (some to)/\F'=qC (F1.br p A [F.m] (first::B)) to l
section
variable {F F1 G:Fo}{P P1:Nat->Int×Node}{Z:Nat->Bool}{w to c:Nat}{A B l m:List Nat}{S:List KN}
theorem fZ (hF:F.ok)(i:Nat):(F.kids i).length<=F.m:=by have h:=(hF.nd i).length_le_of_subset (l₂:=List.range F.m) (λz hz=>List.mem_range.2 (hF.iG hz).2);rwa [List.length_range] at h
theorem Ld:qC F to []=F:=by unfold qC;rw [tv,lX (by simp)]
theorem P4 (hF:F.ok)(Gu:to<F.m)(h1:∀ d∈l++[c],d<F.m/\to≠d/\d∉F.kids to)(h2:(l++[c]).Nodup):Sp (qC F to (l++[c])) ((qC F to l).off [c]) to c (F.kids to++l) []:=by
 have hk:(F.off (l++[c])).kids to=F.kids to++[]:=by
  simp only [Fo.off,List.append_nil];refine List.filter_eq_self.2 λj hj=>?_
  have:j∉l++[c]:=λhm=>(h1 j hm).2.2 hj
  simpa using this
 have l6:c∉l:=λh=>by rw [List.nodup_append] at h2;exact h2.2.2 c h c (by simp) rfl
 have e:(qC F to l).off [c]=(F.off (l++[c])).br to (F.kids to) l []:=by
  have Sy:c∉F.kids to:=(h1 c (by simp)).2.2;refine Fo.ext rfl (λi=>?_) (λi=>?_)
  ·simp only [qC,Fo.off,Fo.br,List.mem_singleton,List.mem_append]
   by_cases e1:i=c
   ·subst e1;simp [l6]
   ·by_cases e2:i∈l <;> simp [e1,e2]
  ·simp only [qC,Fo.off,Fo.br,List.mem_append,List.mem_singleton,List.append_nil]
   by_cases e1:i=to
   ·rw [if_pos e1,if_pos e1];refine List.filter_eq_self.2 λj hj=>?_
    have:j≠c:=λe=>by
     subst e;rcases List.mem_append.1 hj with hj | hj
     ·exact Sy hj
     ·exact l6 hj
    simpa using this
   ·rw [if_neg e1,if_neg e1,List.filter_filter]
    congr 1
    funext j
    by_cases h:j∈l <;> by_cases h':j=c <;> simp [h,h']
 rw [e];have hn:l.Nodup:=(List.nodup_append.1 h2).1;have lI:((F.off (l++[c])).br to (F.kids to) l []).ok:=o6 (jz hF) Gu hk l (λd hd=>⟨(h1 d (by simp [hd])).1,by simp [Fo.off,hd],(h1 d (by simp [hd])).2.1⟩) hn;exact vN lI Gu (h1 c (by simp)).1 (by simp [Fo.off]) (h1 c (by simp)).2.1 l6
theorem JV (hF:F.ok)(Gu:to<F.m)(h1:∀ d∈l,d<F.m/\to≠d/\d∉F.kids to)(h2:l.Nodup):(qC F to l).ok:=by
 have hk:(F.off l).kids to=F.kids to++[]:=by
  simp only [Fo.off,List.append_nil];refine List.filter_eq_self.2 λj hj=>?_
  have:j∉l:=λhm=>(h1 j hm).2.2 hj
  simpa using this
 exact o6 (jz hF) Gu hk l (λd hd=>⟨(h1 d hd).1,by simp [Fo.off,hd],(h1 d hd).2.1⟩) h2
theorem MW (hF:F.ok)(hm:F.m<=1000000)(Gu:to<F.m)(h1:∀ d∈l,d<F.m/\to≠d/\d∉F.kids to)(h2:l.Nodup)(f:PUnit×Int×Bool)(wo:Option Nat)(gs:List (List (Option Nat)))(i:Int)(ks:List (Option Nat)) :
  ∀ (d j:Nat) (Z:Nat->Bool),l.length - j=d->j<=l.length->∃ Z',ab dR (f,wo,gs,i,l.map some,some to,(j:Int),(qC F to (l.take j)).aZ P Z,ks)=some (f,wo,gs,i,(qC F to l).aZ P Z',ks):=by
 have Gw:l.length<=F.m:=by have h:=h2.length_le_of_subset (l₂:=List.range F.m) (λz hz=>List.mem_range.2 (h1 z hz).1);rwa [List.length_range] at h
 obtain⟨f1,fa,fb⟩:=f;intro d
 induction d with
 | zero =>
  intro j Z hd hj;obtain rfl:j=l.length:=by omega
  rw [List.take_length];refine⟨Z,ae ?_⟩;simp only [dR,aa,List.length_map];rw [if_neg (by omega)]
 | succ d ih =>
  intro j Z hd hj;obtain⟨c,hc⟩:=ay (l:=l) (k:=j) (by omega);have e1:l.take (j+1)=l.take j++[c]:=by rw [List.take_add_one,hc];rfl
  have iC:∀ d∈l.take j++[c],d∈l:=λd hd=>by rw [<- e1] at hd;exact List.mem_of_mem_take hd
  have my:(l.take j++[c]).Nodup:=by rw [<- e1];exact h2.sublist (List.take_sublist _ _)
  have lC:=P4 hF Gu (λd hd=>h1 d (iC d hd)) my;have P5:(qC F to (l.take j)).ok:=JV hF Gu (λd hd=>h1 d (iC d (by simp [hd]))) (List.nodup_append.1 my).1;have qq:c<F.m:=(h1 c (iC c (by simp))).1;obtain⟨Z',rv⟩:=vM (F:=qC F to (l.take j)) (P:=P) (Z:=Z) P5 qq λi=>Nat.le_trans (fZ P5 i) hm
  have l8:=put_eq rv lC (Nat.le_trans (fZ lC.okF to) hm);have hg:((qC F to (l.take j)).aZ P Z)[to]?=some ((qC F to (l.take j)).jw P Z to):=Fo.mx Gu;have hkt:((qC F to (l.take j)).jw P Z to).kids=(F.kids to++l.take j).map some:=by show ((qC F to (l.take j)).kids to).map some=_;simp [qC,Fo.br]
  have dB:((((F.kids to++l.take j).map some).length:Nat):Int)=((F.kids to++l.take j).length:Int):=by simp
  have hcg:(l.map some)[j]?=some (some c):=by rw [List.getElem?_map,hc];rfl
  have step:dR ((f1,fa,fb),wo,gs,i,l.map some,some to,(j:Int),(qC F to (l.take j)).aZ P Z,ks)=some (.nx ((f1,fa,fb),wo,gs,i,l.map some,some to,((j+1:Nat):Int),(qC F to (l.take (j+1))).aZ P (dq Z' to false),ks)):=by simp only [dR,aa,bind_some,hg,hkt,ad,hcg,Int.toNat_natCast,dB,l8];rw [if_pos (by simp;omega),e1,cD (by omega) (by omega)];rfl
  rw [aj step];exact ih (j+1) _ (by omega) (by omega)
theorem Le (hF:F.ok)(hx:Gx F P F1 P1){a b:Nat}(hb:b<F.m)(h:jZ F1 a b):a<F.m/\jZ F a b:=by
 induction h with
 | self=>exact⟨hb, .self⟩
 | @up p b h t ih =>
  rw [(hx.fe b hb).1] at h;obtain⟨h1,h2⟩:=ih (hF.up h).1;exact⟨h1, .up h h2⟩
theorem MX (hF:F.ok)(hr:Rk F)(hl:∀ c∈l,c<F.m)(hlen:l.length<=1000000)(f:PUnit×Int×Bool)(wo:Option Nat)(gs:List (List (Option Nat)))(i:Int)(ks:List (Option Nat)){a x:Nat}(ha:l[a]?=some x) :
  ∃ y,ab eh (f,wo,gs,i,l.map some,(a:Int),(0:Int),F.aZ P Z,ks)=some y/\(y = .inr (f,false,F.aZ P Z,ks)∨(y = .inl (f,wo,gs,i,l.map some,(a:Int),F.aZ P Z,ks)/\∀ k,0<=k->k<l.length->∀ c,l[k]?=some c->k≠a->¬ jZ F x c)):=by
 obtain⟨f1,fa,fb⟩:=f;refine ni (body:=eh) (st:=λk=>((f1,fa,fb),wo,gs,i,l.map some,(a:Int),(k:Int),F.aZ P Z,ks)) (n:=l.length) (p:=λk=>∀ c,l[k]?=some c->k≠a->¬ jZ F x c) (λk hk=>?_) ?_ 0 (Nat.zero_le _)
 ·obtain⟨c,hc⟩:=ay hk;have uL:=hl c (List.mem_of_getElem? hc);obtain⟨b,CM,Bd⟩:=yE (P:=P) (Z:=Z) hF hr (a:=x) uL;simp only [eh,aa,ad,cm ha,cm hc,bind_some,Int.toNat_natCast,CM];rw [if_pos (by simp;omega)]
  by_cases e:k=a
  ·rw [if_neg (by simp [e]),cD (by omega) (by omega)];exact .inr ⟨rfl,λ_ _ h=>absurd e h⟩
  ·rw [if_pos (by omega)];cases hb:b with
   | true=>exact .inl rfl
   | false =>
    simp only [cond_false];rw [cD (by omega) (by omega)];refine .inr ⟨rfl,λc' uL _ h=>?_⟩;rw [hc] at uL;cases uL;rw [Bd.2 h] at hb;cases hb
 ·simp only [eh,aa];rw [if_neg (by simp)]
theorem VS (hF:F.ok)(hr:Rk F)(hl:∀ c∈l,c<F.m)(hlen:l.length<=1000000)(f:PUnit×Int×Bool)(wo:Option Nat)(gs:List (List (Option Nat)))(i:Int)(ks:List (Option Nat)) :
  ∃ y,ab eS (f,wo,gs,i,l.map some,(0:Int),F.aZ P Z,ks)=some y/\(y = .inr (f,false,F.aZ P Z,ks)∨(y = .inl (f,wo,gs,i,l.map some,F.aZ P Z,ks)/\∀ a k x c:Nat,l[a]?=some x->l[k]?=some c->k≠a->¬ jZ F x c)):=by
 obtain⟨f1,fa,fb⟩:=f;obtain⟨y,h1,h2⟩:=ni (body:=eS) (st:=λk=>((f1,fa,fb),wo,gs,i,l.map some,(k:Int),F.aZ P Z,ks)) (n:=l.length) (good := .inl ((f1,fa,fb),wo,gs,i,l.map some,F.aZ P Z,ks)) (bad := .inr ((f1,fa,fb),false,F.aZ P Z,ks))
  (p:=λa=>∀ x,l[a]?=some x->∀ k,0<=k->k<l.length->∀ c,l[k]?=some c->k≠a->¬ jZ F x c) (λa ha=>by
   obtain⟨x,hx⟩:=ay ha;obtain⟨y,g1,g2⟩:=MX (P:=P) (Z:=Z) hF hr hl hlen (f1,fa,fb) wo gs i ks hx;simp only [eS,aa];rw [if_pos (by simp;omega),g1,bind_some];rcases g2 with rfl | ⟨rfl,g3⟩
   ·exact .inl rfl
   ·simp only [bu];rw [cD (by omega) (by omega)];refine .inr ⟨rfl,λx' Rt=>?_⟩;rw [hx] at Rt;cases Rt;exact g3) (by
   simp only [eS,aa];rw [if_neg (by simp)]) 0 (Nat.zero_le _)
 refine⟨y,h1,h2.imp id λ⟨e,h3⟩=>⟨e,λa k x c ha hc hk=>?_⟩⟩;exact h3 a (Nat.zero_le _) (List.getElem?_eq_some_iff.1 ha).1 x ha k (Nat.zero_le _) (List.getElem?_eq_some_iff.1 hc).1 c hc hk
end
theorem vf:∃ n,lY=n/\1000000<=n:=⟨lY,rfl,by unfold lY;omega⟩
section
variable {F F1 G:Fo}{P P1:Nat->Int×Node}{Z:Nat->Bool}{w to c p first:Nat}{A B l rest:List Nat}{S:List KN}
theorem P6 {r:Nat->Nat}(hr:∀ c p,F.up c=some p->r p<r c){a b:Nat}(h:jZ F a b):r a<=r b:=by
 induction h with
 | self=>exact Nat.le_refl _
 | up h t ih=>have:=hr _ _ h;omega
theorem Lg {K2 K:Nat->List Nat}{R:Nat->Nat->Prop}{lo hi:Nat}(hk:∀ i,lo<=i->i<hi->K2 i=F1.kids i):∀ {n c x:Nat},Ag F1 R K lo hi n c x->MV K2 K R n c x
 | 0,_,_,h=>h
 | n+1,c,x,⟨⟨h1,h2⟩,h3,h4⟩=>⟨h3,by rw [hk c h1 h2];exact h4.imp λa b _ _ h=>Lg hk h⟩
structure CD (F:Fo)(P:Nat->Int×Node)(w first p:Nat)(A B:List Nat)(F1:Fo)(P1:Nat->Int×Node):Prop where
 okF:F.ok
 rk:Rk F
 hw:w<F.m
 hf:first<F.m
 ext:Gx F P F1 P1
 up:F1.up F.m=none
 lt:F.m<F1.m
 u:F1.up first=some p
 k:F1.kids p=A++first::B
theorem CD.pm (h:CD F P w first p A B F1 P1):F.up first=some p/\p<F.m:=by
 have:=h.u
 rw [(h.ext.fe first h.hf).1] at this;exact⟨this,(h.okF.up this).1⟩
theorem CD.sp (h:CD F P w first p A B F1 P1):Sp (F1.br p A [F.m] (first::B)) F1 p F.m A (first::B):=by
 have hp:=h.pm.2
 have:=h.lt
 have h1:=vN (F:=F1) (p:=p) (c:=F.m) (A:=A) (l:=[]) (B:=first::B) (by rw [lX h.k];exact h.ext.ok) (by omega) (by omega) h.up (by omega) (by simp);rw [lX h.k] at h1;simpa using h1
theorem CD.rk2 (h:CD F P w first p A B F1 P1):Rk (F1.br p A [F.m] (first::B)):=by
 have hp:=h.pm.2;refine (h.rk.ext h.okF h.ext).br λc hc=>?_
 rw [List.mem_singleton.1 hc];exact⟨h.up,λha=>by have:=(Le h.okF h.ext hp ha).1;omega⟩
theorem CD.Lh (h:CD F P w first p A B F1 P1){i:Nat}(hi:i≠p):(F1.br p A [F.m] (first::B)).kids i=F1.kids i:=by simp [Fo.br,hi]
theorem CD.ge (h:CD F P w first p A B F1 P1){e:Nat->Bool}{x:Nat}{r:Option Nat}(hi:Bl (F1.br p A [F.m] (first::B)).kids e x r)(hx:F.m<=x)(XT:x<F1.m):∀ to,r=some to->F.m<=to/\to<F1.m:=by
 have hp:=h.pm.2
 induction hi with
 | stop=>intro to e;cases e;exact⟨hx,XT⟩
 | many=>intro to e;cases e
 | @down x y r hd t ih =>
  have hy:y∈(F1.br p A [F.m] (first::B)).kids x:=by
   have:y∈((F1.br p A [F.m] (first::B)).kids x).filter e:=by rw [hd];simp
   exact (List.mem_filter.1 this).1
  rw [h.Lh (by omega)] at hy;have h1:=h.ext.inc x hx y hy;have h2:=(h.ext.ok.iG hy).2;exact ih (by omega) h2
theorem CD.tok (h:CD F P w first p A B F1 P1)(Ym:F.m<=to)(hl:∀ c∈l,c<F.m):∀ d∈l,d<F1.m/\to≠d/\d∉(F1.br p A [F.m] (first::B)).kids to:=λd hd=>by
 have hp:=h.pm.2
 have:=hl d hd
 have:=h.lt
 refine⟨by omega,by omega,λhk=>?_⟩;rw [h.Lh (by omega)] at hk
 have:=h.ext.inc to Ym d hk
 omega
theorem CD.anc (h:CD F P w first p A B F1 P1){c i:Nat}(hc:c<F.m)(hi:F.m<=i)(ha:jZ (F1.br p A [F.m] (first::B)) c i):jZ F c p:=by
 have hp:=h.pm.2;have fe:∀ {b:Nat},b<F.m->jZ (F1.br p A [F.m] (first::B)) c b->jZ F c b:=λ{b} hb ha=>by
  induction ha with
  | self=>exact .self
  | @up q b hu t ih =>
   have e:b≠F.m:=by omega
   have JB:F.up b=some q:=by simp only [Fo.br,List.mem_singleton,if_neg e] at hu;rw [<- (h.ext.fe b hb).1];exact hu
   exact .up JB (ih (h.okF.up JB).1)
 induction ha with
 | self=>omega
 | @up q b hu t ih =>
  by_cases e:b=F.m
  ·simp only [Fo.br,List.mem_singleton,if_pos e] at hu;cases hu;exact fe hp t
  ·simp only [Fo.br,List.mem_singleton,if_neg e] at hu
   by_cases hq:q<F.m
   ·have:=(h.ext.ok.up hu).2
    rw [(h.ext.fe q hq).2.1] at this
    have:=(h.okF.iG this).2
    omega
   ·exact ih (by omega)
theorem CD.rk3 (h:CD F P w first p A B F1 P1)(Ym:F.m<=to)(hl:∀ c∈l,c<F.m)(sn:first∈l)(Rr:∀ c∈l,c≠first->¬ jZ F c first):Rk (qC (F1.br p A [F.m] (first::B)) to l):=by
 refine (h.rk2.off).br λc hc=>⟨by simp [Fo.off,hc],λha=>?_⟩
 have QT:jZ (F1.br p A [F.m] (first::B)) c to:=by
  clear Ym
  induction ha with
  | self=>exact .self
  | @up q b hu t ih =>
   simp only [Fo.off] at hu
   by_cases e:b∈l
   ·rw [if_pos e] at hu;cases hu
   ·rw [if_neg e] at hu;exact .up hu ih
 have h3:=h.anc (hl c hc) Ym QT
 by_cases e:c=first
 ·subst e;obtain⟨r,hr⟩:=h.rk;have h4:=P6 hr h3;have h5:=hr c p h.pm.1;omega
 ·exact Rr c hc e (.up h.pm.1 h3)
theorem CD.up3 (h:CD F P w first p A B F1 P1){i:Nat}(hi:i<F.m):(qC (F1.br p A [F.m] (first::B)) to l).up i=if i∈l then some to else F.up i:=by
 have e:i≠F.m:=by omega
 simp only [qC,Fo.br,Fo.off,List.mem_singleton,if_neg e,(h.ext.fe i hi).1]
 split <;> rfl
theorem CD.Yn (h:CD F P w first p A B F1 P1)(Ym:F.m<=to){i:Nat}(hi:i<F.m)(hip:i≠p):(qC (F1.br p A [F.m] (first::B)) to l).kids i=(F.kids i).filter λj=>decide (j∉l):=by
 have e:i≠to:=by omega
 simp only [qC,Fo.br,Fo.off,if_neg e,if_neg hip,(h.ext.fe i hi).2.1]
end
structure WI (F:Fo)(P:Nat->Int×Node)(w:Nat):Prop where
 ok:F.ok
 rk:Rk F
 m:F.m<=600
 hw:w<F.m
 at_:∀ i,i<F.m->(P i).2.attrs.length<=1000000
 inm:∃ r,Bl F.kids (Bk P) w (some r)
structure WG (F:Fo)(l:List Nat):Prop where
 ne:l≠[]
 nd:l.Nodup
 lt:∀ c∈l,c<F.m
 st:∀ c∈l,∃ p,F.up c=some p
theorem WG.len {F:Fo}{l:List Nat}(h:WG F l):l.length<=F.m:=by have h:=h.nd.length_le_of_subset (l₂:=List.range F.m) (λz hz=>List.mem_range.2 (h.lt z hz));rwa [List.length_range] at h
theorem VT {F:Fo}{P:Nat->Int×Node}{Z:Nat->Bool}{w i:Nat}{l:List Nat}{gs:List (List (Option Nat))}{ks:List (Option Nat)}(h:WI F P w)(hg:WG F l)(hi:gs[i]?=some (l.map some))(C1:gs.length<=1000000) :
  (bQ (((),(F.m:Int),false),some w,gs,(i:Int),F.aZ P Z,ks)=some (.out (.inr (((),(F.m:Int),false),false,F.aZ P Z,ks)))) ∨
  (∃ a' S',bQ (((),(F.m:Int),false),some w,gs,(i:Int),F.aZ P Z,ks)=some (.out (.inr (((),a',true),true,S',ks)))) ∨
  ∃ F' P' Z',bQ (((),(F.m:Int),false),some w,gs,(i:Int),F.aZ P Z,ks)=some (.nx (((),(F'.m:Int),false),some w,gs,((i+1:Nat):Int),F'.aZ P' Z',ks))/\Wr w l F P F' P'/\F'.ok/\Rk F'/\F'.m<=600/\F.m<=F'.m/\(∀ a k x c:Nat,l[a]?=some x->l[k]?=some c->k≠a->¬ jZ F x c):=by
 have hm:=h.m;have hlen:=hg.len;obtain⟨first,rest,rfl⟩:∃ f r,l=f::r:=by
  cases l with
  | nil=>exact absurd rfl hg.ne
  | cons f r=>exact⟨f,r,rfl⟩
 have R6:=hg.lt first (by simp)
 obtain⟨p,hp⟩:=hg.st first (by simp)
 obtain⟨A,B,lC⟩:=La h.ok hp;obtain⟨n,hb,hn⟩:=vf;have K6:i<gs.length:=(List.getElem?_eq_some_iff.1 hi).1;obtain⟨y,g1,g2⟩:=VS (P:=P) (Z:=Z) h.ok h.rk hg.lt (by omega) ((),(F.m:Int),false) (some w) gs (i:Int) ks;have w9:eC ([]:List (Option Nat)) ((first::rest).map some)=some ((first::rest).map some):=by rw [a6 (by simp at hlen ⊢;omega)];rfl
 have mC:bl ((first::rest).map some) (0:Int)=some (some first):=rfl;have Yc:((first::rest).map some)[Int.toNat (0:Int)]?=some (some first):=rfl;simp only [bQ,aa,ad,Int.toNat_natCast,hi,bind_some,w9];rw [if_pos (by omega)];rw [g1,bind_some];rcases g2 with rfl | ⟨rfl,KW⟩
 ·exact .inl rfl
 right;have Li:Ht F.kids n w:=tA h.ok h.rk h.hw (by omega);have abj:lW F.kids n w<=F.m:=by obtain⟨r,hr⟩:=h.rk.down h.ok;rw [<- oY];exact yJ h.ok hr n h.hw
 obtain⟨F1,P1,Z1,a1,yT,q1,q2,qz,qn,q3,q4,q5,q6,q7,q8,q9⟩:=zH (K:=F.kids) (B:=λy=>(P y).2) (Q:=λy=>y<F.m) (m0:=F.m) (ks:=ks) (λy _ z hz=>(h.ok.iG hz).2) (λ_ hy=>hy) (λy _=>Nat.le_trans (fZ h.ok y) (by omega)) (λy hy=>h.at_ y hy) n w F P Z (F.m:Int) false h.hw Li h.ok (Nat.le_refl _) (λ_ _=>⟨rfl,rfl⟩) (by omega) (by omega);have Dp:CD F P w first p A B F1 P1:=by refine⟨h.ok,h.rk,h.hw,R6,q2,q3,by omega,by rw [(q2.fe first R6).1];exact hp,?_⟩;rw [(q2.fe p lC.hp).2.1];exact lC.k
 have Wa:F1.m<=2000:=by omega
 have abk:Sp F1 (F1.eG p (A++B) first none) p first A B:=⟨q2.ok,by have:=lC.hp;omega,by omega,Dp.u,Dp.k,rfl⟩
 have VU:=u_ (P:=P1) (Z:=Z1) abk (Nat.le_trans (fZ q2.ok p) (by omega));have Rv:=Dp.sp;have P7:=Rv.okF;have l8:=put_eq (P:=P1) (Z:=Z1) (yw (by omega) q3) Rv (Nat.le_trans (fZ P7 p) (by show F1.m<=_;omega));obtain⟨r3,lH,VV⟩:=zK (P:=P1) (Z:=dq Z1 p false) P7 Dp.rk2 (λi=>Nat.le_trans (fZ P7 i) (by show F1.m<=_;omega)) (k:=F.m) (by show F.m<F1.m;omega);have hgf:(F1.aZ P1 Z1)[first]?=some (F1.jw P1 Z1 first):=Fo.mx (by omega);have huf:(F1.jw P1 Z1 first).up=some p:=Dp.u;simp only [bu,hb,q1,bind_some,mC,Yc,hgf,huf,VU,l8,lH];cases yT with
 | true=>exact .inl ⟨_,_,rfl⟩
 | false =>
  right;obtain⟨k1,k2,k3⟩:=q9 rfl;have Gz:F1.m<=600:=by
   by_cases e:600<a1
   ·have:=q8 (λh=>by omega) e
    cases this
   ·omega
  have iC:∀ i,F.m<=i->i<F1.m->(F1.br p A [F.m] (first::B)).kids i=F1.kids i:=λi h1 _=>Dp.Lh (by have:=lC.hp;omega)
  obtain⟨r0,Va⟩:=h.inm;have Mn:r3.isNone↔(some r0).isNone:=Bl.shp (R:=QV P1 λy=>(P y).2) (λc d Yo=>by simp only [Bk,show P1 c=_ from Yo]) (Lg iC k1) VV Va;cases r3 with
  | none=>simp at Mn
  | some to =>
   have SA:=Dp.ge VV (Nat.le_refl _) (by omega) to rfl;have AY:=Dp.tok (l:=first::rest) SA.1 hg.lt;obtain⟨Z',Aj⟩:=MW (P:=P1) P7 (by show F1.m<=_;omega) (to:=to) SA.2 AY hg.nd ((),a1,false) (some w) gs (i:Int) ks (first::rest).length 0 (dq Z1 p false) (by omega) (Nat.zero_le _);rw [List.take_zero,Ld] at Aj;have VW:ab dR (((),a1,false),some w,gs,(i:Int),(first::rest).map some,some to,(0:Int),(F1.br p A [F.m] (first::B)).aZ P1 (dq Z1 p false),ks)=_:=Aj;simp only [cond_false,VW,bind_some];have Rr:∀ c∈first::rest,c≠first->¬ jZ F c first:=λc hc eH=>by obtain⟨k,hk⟩:=List.mem_iff_getElem?.1 hc;exact KW k 0 c first hk rfl λe=>by subst e;simp at hk;exact eH hk.symm
   have Sm:a1=(F1.m:Int):=by omega
   subst Sm;refine⟨_,P1,Z',?_,⟨F1,first,rest,p,A,B,to,⟨q2,q3,by rw [hb];exact k1,?_⟩,rfl,Dp.u,Dp.k,VV,rfl⟩,JV P7 SA.2 AY hg.nd,Dp.rk3 SA.1 hg.lt (by simp) Rr,Gz,q2.m,KW⟩
   ·rw [cD (by omega) (by omega)];rfl
   ·rw [hb,k3]
    congr 1
    omega
theorem xN {F1:Fo}{R:Nat->Nat->Prop}{K:Nat->List Nat}{lo hi:Nat}:∀ {n c x y:Nat},Ag F1 R K lo hi n c x->y∈cd F1.kids n c->∃ z∈cd K n x,R y z
 | 0,_,_,_,h,_=>h.elim
 | n+1,c,x,y,⟨_,h3,h4⟩,hy=>by
  simp only [cd,List.mem_cons,List.mem_flatMap] at hy;rcases hy with rfl | ⟨c',uL,hy⟩
  ·exact⟨x,by simp [cd],h3⟩
  ·obtain⟨x',Rt,h5⟩:=h4.TM uL;obtain⟨z,hz,hr⟩:=xN h5 hy;exact⟨z,by simp only [cd,List.mem_cons,List.mem_flatMap];exact .inr ⟨x',Rt,hz⟩,hr⟩
theorem Bl.congr {K K':Nat->List Nat}{e e':Nat->Bool}{T:Nat->Prop}(h:∀ y,T y->K' y=K y/\∀ z∈K y,T z/\e' z=e z){x:Nat}{r:Option Nat}(hx:T x)(hi:Bl K e x r):Bl K' e' x r:=by
 have hf:∀ y,T y->(K' y).filter e'=(K y).filter e:=λy hy=>by rw [(h y hy).1];exact List.filter_congr λz hz=>((h y hy).2 z hz).2
 induction hi with
 | stop h1=>exact .stop (by rw [hf _ hx];exact h1)
 | many h1=>exact .many (by rw [hf _ hx];exact h1)
 | @down x y r h1 _ ih =>
  have hy:y∈K x:=by
   have:y∈(K x).filter e:=by rw [h1];simp
   exact (List.mem_filter.1 this).1
  exact .down (by rw [hf _ hx];exact h1) (ih ((h x hx).2 y hy).1)
inductive Lj (w:Nat):List (List Nat)->Fo->(Nat->Int×Node)->Fo->(Nat->Int×Node)->Prop
 | nil {F:Fo} {P:Nat->Int×Node}:Lj w [] F P F P
 | cons {l:List Nat} {gs:List (List Nat)} {F F1 F2:Fo} {P P1 P2:Nat->Int×Node} (h:Wr w l F P F1 P1) (hi:WI F1 P1 w) (t:Lj w gs F1 P1 F2 P2):Lj w (l::gs) F P F2 P2
section
variable {F F':Fo}{P P':Nat->Int×Node}{Z:Nat->Bool}{w:Nat}{l:List Nat}
structure WrF (F:Fo)(P:Nat->Int×Node)(w:Nat)(l:List Nat)(F':Fo)(P':Nat->Int×Node):Prop where
 rN:∀ U:Node->Prop,(∀ i,i<F.m->U (P i).2)->∀ i,i<F'.m->U (P' i).2
 fe:∀ i,i<F.m->P' i=P i
 up:∀ i,i<F.m->(∃ p,F.up i=some p)->∃ p,F'.up i=some p
 kids:∀ i,i<F.m->(∀ c∈l,F.up c≠some i)->F'.kids i=F.kids i
 neg:∀ i,F.m<=i->i<F'.m->(P' i).1 = -1
theorem sG (hF:F.ok)(hr:Rk F)(hw:w<F.m)(hl:∀ c∈l,c<F.m)(h:Wr w l F P F' P'):WrF F P w l F' P':=by
 obtain⟨F1,first,rest,p,A,B,to,hc,rfl,hu,hk,lH,rfl⟩:=h;obtain⟨n,hb,_⟩:=vf;obtain⟨rp,BJ⟩:=hc.n;rw [hb] at rp BJ;have jC:F.m<F1.m:=by
  cases n with
  | zero=>exact rp.elim
  | succ n=>exact rp.1.2
 have Dp:CD F P w first p A B F1 P':=⟨hF,hr,hw,hl first (by simp),hc.ext,hc.up,jC,hu,hk⟩
 have SA:=Dp.ge lH (Nat.le_refl _) jC to rfl;refine⟨λU hU i (hi:i<F1.m)=>?_,λi hi=>(hc.ext.fe i hi).2.2,λi hi ⟨q,hq⟩=>?_,λi hi o8=>?_,λi h1 (h2:i<F1.m)=>hc.ext.neg i h1 h2⟩
 ·by_cases e:i<F.m
  ·rw [(hc.ext.fe i e).2.2];exact hU i e
  ·have:i∈cd F1.kids n F.m:=by rw [BJ];simp;omega
   obtain⟨z,hz,h3⟩:=xN rp this;have h3:P' i=(-1,(P z).2):=h3;rw [h3];exact hU z (CC hF n w hw z hz)
 ·rw [Dp.up3 hi];split
  ·exact⟨_,rfl⟩
  ·exact⟨q,hq⟩
 ·have hip:i≠p:=λe=>by subst e;exact o8 first (by simp) Dp.pm.1
  rw [Dp.Yn SA.1 hi hip];refine List.filter_eq_self.2 λj hj=>?_
  have:j∉first::rest:=λhm=>o8 j hm (hF.iG hj).1
  simpa using this
theorem Bm (hF:F.ok)(hr:Rk F)(hw:w<F.m)(hl:∀ c∈l,c<F.m/\¬ jZ F w c)(lI:F'.ok)(h:Wr w l F P F' P'):(∀ y,jZ F w y->F'.kids y=F.kids y)/\∀ b,jZ F' w b->b<F.m/\jZ F w b:=by
 have hf:=sG hF hr hw (λc hc=>(hl c hc).1) h;have lt:∀ y,jZ F w y->y<F.m:=λy hy=>by
  cases hy with
  | self=>exact hw
  | up h _=>exact (hF.lt h).1
 have k1:∀ y,jZ F w y->F'.kids y=F.kids y:=λy hy=>hf.kids y (lt y hy) λc hc hu=>(hl c hc).2 (.up hu hy)
 refine⟨k1,λb hb=>?_⟩
 induction hb with
 | self=>exact⟨hw, .self⟩
 | @up q b hu t ih =>
  have h1:=(lI.up hu).2;rw [k1 q ih.2] at h1;have h2:=hF.iG h1;exact⟨h2.2, .up h2.1 ih.2⟩
theorem WI.next (h:WI F P w)(hl:∀ c∈l,c<F.m/\¬ jZ F w c)(lI:F'.ok)(Wz:Rk F')(hm:F'.m<=600)(hle:F.m<=F'.m)(TP:Wr w l F P F' P'):WI F' P' w:=by have hf:=sG h.ok h.rk h.hw (λc hc=>(hl c hc).1) TP;obtain⟨k1,k2⟩:=Bm h.ok h.rk h.hw hl lI TP;obtain⟨r,hr⟩:=h.inm;refine⟨lI,Wz,hm,by have:=h.hw;omega,λi hi=>hf.rN (λn=>n.attrs.length<=1000000) h.at_ i hi,r,?_⟩;refine Bl.congr (T:=λy=>jZ F w y) (λy hy=>⟨k1 y hy,λz hz=>?_⟩) .self hr;have h1:=h.ok.iG hz;exact⟨.up h1.1 hy,by simp only [Bk,hf.fe z h1.2]⟩
end
theorem Lk {w:Nat}{ks:List (Option Nat)}{gl:List (List Nat)}(C1:gl.length<=1000000):∀ (d i:Nat) (F:Fo) (P:Nat->Int×Node) (Z:Nat->Bool),gl.length - i=d->i<=gl.length->WI F P w->(∀ l∈gl.drop i,WG F l/\∀ c∈l,¬ jZ F w c) ->
  ∃ y,ab bQ (((),(F.m:Int),false),some w,gl.map (λl=>l.map some),(i:Int),F.aZ P Z,ks)=some y /\
   ((∃ f S,y = .inr (f,false,S,ks))∨(∃ a' S,y = .inr (((),a',true),true,S,ks))∨∃ F' P' Z',y = .inl (((),(F'.m:Int),false),F'.aZ P' Z',ks)/\Lj w (gl.drop i) F P F' P'/\WI F' P' w):=by
 intro d
 induction d with
 | zero =>
  intro i F P Z hd hi hI hg;obtain rfl:i=gl.length:=by omega
  refine⟨_,ae (b := .inl (((),(F.m:Int),false),F.aZ P Z,ks)) ?_, .inr (.inr ⟨F,P,Z,rfl,by rw [List.drop_length];exact .nil,hI⟩)⟩;simp only [bQ,aa,List.length_map];rw [if_neg (by omega)]
 | succ d ih =>
  intro i F P Z hd hi hI hg;obtain⟨l,hl⟩:=ay (l:=gl) (k:=i) (by omega);have rn:gl.drop i=l::gl.drop (i+1):=by obtain⟨jC,he⟩:=List.getElem?_eq_some_iff.1 hl;rw [List.drop_eq_getElem_cons jC,he]
  obtain⟨VX,Rr⟩:=hg l (by rw [rn];simp);have hli:(gl.map (λl=>l.map some))[i]?=some (l.map (some:Nat->Option Nat)):=by rw [List.getElem?_map,hl];rfl
  rcases VT (Z:=Z) (ks:=ks) hI VX hli (by simpa using C1) with h1 | ⟨a',S',h1⟩ | ⟨F',P',Z',h1,h2,h3,h4,h5,h6,h7⟩
  ·exact⟨_,ae h1, .inl ⟨_,_,rfl⟩⟩
  ·exact⟨_,ae h1, .inr (.inl ⟨_,_,rfl⟩)⟩
  ·have QH:∀ c∈l,c<F.m/\¬ jZ F w c:=λc hc=>⟨VX.lt c hc,Rr c hc⟩
   have hI':=hI.next QH h3 h4 h5 h6 h2;have hf:=sG hI.ok hI.rk hI.hw VX.lt h2;obtain⟨_,Nw⟩:=Bm hI.ok hI.rk hI.hw QH h3 h2;obtain⟨y,g1,g2⟩:=ih (i+1) F' P' Z' (by omega) (by omega) hI' (λl' ND=>by obtain⟨g3,g4⟩:=hg l' (by rw [rn];simp [ND]);refine⟨⟨g3.ne,g3.nd,λc hc=>by have:=g3.lt c hc;omega,λc hc=>hf.up c (g3.lt c hc) (g3.st c hc)⟩,λc hc ha=>g4 c hc (Nw c ha).2⟩)
   refine⟨y,by rw [aj h1];exact g1,?_⟩;rcases g2 with g2 | g2 | ⟨F2,P2,Z2,e1,e2,e3⟩
   ·exact .inl g2
   ·exact .inr (.inl g2)
   ·exact .inr (.inr ⟨F2,P2,Z2,e1,by rw [rn];exact .cons h2 hI' e2,e3⟩)
theorem Lj.le {w:Nat}{gs:List (List Nat)}{F F':Fo}{P P':Nat->Int×Node}(h:Lj w gs F P F' P'):F.m<=F'.m:=by
 induction h with
 | nil=>exact Nat.le_refl _
 | cons h _ t ih =>
  obtain⟨F1,first,rest,p,A,B,to,hc,rfl,hu,hk,lH,rfl⟩:=h;exact Nat.le_trans hc.ext.m ih
theorem MY {X B α:Type}{body:X->Option (ai X B)}(l:List α)(p:α->Bool)(st:Nat->X)(no:B)(yes:Nat->B)
  (hs:∀ k v,l[k]?=some v->body (st k)=some (if p v then .out (yes k) else .nx (st (k+1)))) (he:body (st l.length)=some (.out no)) :
  ab body (st 0)=some (match l.findIdx? p with | some i=>yes i | none=>no):=by
 have key:∀ m k,l.length - k=m->k<=l.length->ab body (st k)=some (match (l.drop k).findIdx? p with | some i=>yes (k+i) | none=>no):=by
  intro m
  induction m with
  | zero =>
   intro k hm hk
   have:k=l.length:=by omega
   subst this;rw [ae he,List.drop_length];rfl
  | succ m ih =>
   intro k hm hk;obtain⟨v,hv⟩:=ay (l:=l) (k:=k) (by omega);have hd:l.drop k=v::l.drop (k+1):=by obtain⟨h1,h2⟩:=List.getElem?_eq_some_iff.1 hv;rw [<- h2];exact List.drop_eq_getElem_cons h1
   have h:=hs k v hv;rw [hd,List.findIdx?_cons];cases hp:p v with
   | true =>
    rw [hp] at h;rw [ae h];simp
   | false =>
    rw [hp] at h;rw [aj h,ih (k+1) (by omega) (by omega)];simp only [Bool.false_eq_true,if_false];cases (l.drop (k+1)).findIdx? p with
    | none=>rfl
    | some i=>simp only [Option.map_some];rw [show k+1+i=k+(i+1) by omega]
 have h:=key l.length 0 (by omega) (Nat.zero_le _);rw [h,List.drop_zero];cases l.findIdx? p with
 | none=>rfl
 | some i=>simp
section
variable {t:List Node}{l:List Int}
end
def FN (l:List Int):List (Option Nat):=l.map λv=>some v.toNat
theorem Ll {l:List Int}{i:Nat}:(FN l)[i]?=(l[i]?).map λv=>some v.toNat:=by simp [FN]
theorem Lm (l:List Int):(FN l).length=l.length:=by simp [FN]
def pos (l:List (Option Nat))(v:Option Nat):Int:=match l.findIdx? (λx=>decide (x=v)) with
 | some i=>(i:Int)
 | none => -1
theorem JW (l:List (Option Nat))(n:Nat)(hl:l.length<=2147483647):iJ (l,some n)=some (pos l (some n)):=by
 simp only [iJ,Option.isNone_some,Bool.not_false,cond_true];have h:=MY (body:=eg) l (λx=>decide (x=some n)) (λk=>(some n,l,(l.length:Int),(k:Int))) (.inl ()) (λk => .inr (k:Int)) (λk v hv=>by
  have hk:=(List.getElem?_eq_some_iff.1 hv).1;simp only [eg,aa,ad];rw [if_pos (by omega),hv,bind_some,cD (by omega) (by omega)]
  by_cases e:v=some n
  ·rw [if_pos e];simp [e]
  ·rw [if_neg e];simp [e]) (by
  simp only [eg,aa];rw [if_neg (by omega)])
 rw [show ab eg (some n,l,(l.length:Int),(0:Int))=_ from h,bind_some];unfold pos;cases l.findIdx? (λx=>decide (x=some n)) <;> rfl
theorem P8 {l:List (Option Nat)}{v:Option Nat}(h:v∉l):pos l v = -1:=by
 unfold pos
 have:l.findIdx? (λx=>decide (x=v))=none:=by
  rw [List.findIdx?_eq_none_iff];intro x hx
  have:x≠v:=λe=>h (e ▸ hx)
  simpa using this
 rw [this]
theorem SD {l:List (Option Nat)}{v:Option Nat} : -1<pos l v↔v∈l:=by
 constructor
 ·intro h;apply Decidable.byContradiction;intro hn;rw [P8 hn] at h;omega
 ·intro h;unfold pos;cases hf:l.findIdx? (λx=>decide (x=v)) with
  | none =>
   rw [List.findIdx?_eq_none_iff] at hf
   have:=hf v h
   simp at this
  | some i=>simp only;omega
theorem SE (l:List (Option Nat))(n:Nat)(hl:l.length<=2147483647):iE (l,some n)=some (decide (some n∈l)):=by
 simp only [iE,JW l n hl,bind_some]
 congr 1
 rw [decide_eq_decide];exact SD
theorem H_ (l:List Int)(hl:l.length<1000)(hn:∀ (i j:Nat) (v w:Int),i<j->l[i]?=some v->l[j]?=some w->v.toNat≠w.toNat):cX ([],FN l,())=some (FN l):=by
 simp only [cX,aa,List.length_nil,Lm];rw [cD (by omega) (by omega),if_pos (by omega)];have key:∀ m k,l.length - k=m->k<=l.length->ab aV (FN (l.take k),FN l,(l.length:Int),(k:Int))=some (FN l):=by
  intro m
  induction m with
  | zero =>
   intro k hm hk;refine ae ?_;simp only [aV,aa];rw [if_neg (by omega),List.take_of_length_le (by omega)]
  | succ m ih =>
   intro k hm hk;obtain⟨v,hv⟩:=ay (l:=l) (k:=k) (by omega);have hlen:(FN (l.take k)).length=k:=by rw [Lm,List.length_take];omega
   have I1:some v.toNat∉FN (l.take k):=λhm=>by
    obtain⟨i,hi⟩:=List.mem_iff_getElem?.1 hm;rw [Ll] at hi;cases hu:(l.take k)[i]? with
    | none=>rw [hu] at hi;cases hi
    | some u =>
     rw [hu] at hi;have U0:i<k:=by
      have:=(List.getElem?_eq_some_iff.1 hu).1
      rw [List.length_take] at this;omega
     rw [List.getElem?_take,if_pos U0] at hu
     have:=hn i k u v U0 hu hv
     simp at hi;exact this hi
   have step:aV (FN (l.take k),FN l,(l.length:Int),(k:Int))=some (.nx (FN (l.take (k+1)),FN l,(l.length:Int),((k+1:Nat):Int))):=by simp only [aV,aa,ad];rw [if_pos (by omega),Ll,hv];simp only [Option.map_some,bind_some];rw [SE _ _ (by omega),bind_some,decide_eq_false I1];simp only [Bool.not_false,cond_true];rw [a6 (by rw [hlen];simp;omega),bind_some,cD (by omega) (by omega),List.take_add_one,hv];simp [FN]
   rw [aj step];exact ih (k+1) (by omega) (by omega)
 rw [show ab aV ([],FN l,(l.length:Int),(0:Int))=_ from key l.length 0 (by omega) (Nat.zero_le _),bind_some]
def FO (l:List Nat)(c:Nat):Int:=if c∈l then (l.idxOf c:Int) else -1
theorem Ia {l:List Nat}(c:Nat)(hl:l.length<=1000000):nS (l.map some,some c)=some (FO l c):=by
 have key:∀ d j,l.length - j=d->j<=l.length->c∉l.take j->ab fJ (l.map some,some c,(l.length:Int),(j:Int))=some (if c∈l then .inr (l.idxOf c:Int) else .inl ()):=by
  intro d
  induction d with
  | zero =>
   intro j hd hj hc;rw [List.take_of_length_le (by omega)] at hc;rw [if_neg hc];refine ae ?_;simp only [fJ,aa];rw [if_neg (by omega)]
  | succ d ih =>
   intro j hd hj hc;obtain⟨a,ha⟩:=ay (l:=l) (k:=j) (by omega);have hg:(l.map some)[j]?=some (some a):=by rw [List.getElem?_map,ha];rfl
   by_cases e:a=c
   ·subst e;rw [if_pos (List.mem_of_getElem? ha)];have hi:l.idxOf a=j:=by
     have hs:l=l.take j++a::l.drop (j+1):=by obtain⟨jC,he⟩:=List.getElem?_eq_some_iff.1 ha;rw [<- he,<- List.drop_eq_getElem_cons jC,List.take_append_drop]
     rw [hs,List.idxOf_append,if_neg hc]
     simp;omega
    rw [hi];refine ae ?_;simp only [fJ,aa,ad,hg,bind_some];rw [if_pos (by omega),if_pos trivial]
   ·have step:fJ (l.map some,some c,(l.length:Int),(j:Int))=some (.nx (l.map some,some c,(l.length:Int),((j+1:Nat):Int))):=by simp only [fJ,aa,ad,hg,bind_some];rw [if_pos (by omega),if_neg (by intro h;exact e (Option.some.inj h)),cD (by omega) (by omega)];rfl
    rw [aj step];refine ih (j+1) (by omega) (by omega) ?_;rw [List.take_add_one,ha];simp [hc,Ne.symm e]
 have h0:=key l.length 0 (by omega) (Nat.zero_le _) (by simp);have VG:ab fJ (l.map some,some c,(((l.map some).length:Nat):Int),(0:Int))=some (if c∈l then .inr (l.idxOf c:Int) else .inl ()):=by rw [List.length_map];exact h0
 simp only [nS,VG,bind_some,FO]
 split <;> rfl
theorem FP {l m:List Nat}(hl:l.length<=1000000)(hm:m.length<=1000000):mS (l.map some,m.map some)=some (m.map (FO l)):=by
 have key:∀ d j,m.length - j=d->j<=m.length->ab fT (l.map some,(m.take j).map (FO l),m.map some,(m.length:Int),(j:Int))=some (m.map (FO l)):=by
  intro d
  induction d with
  | zero =>
   intro j hd hj;refine ae ?_;simp only [fT,aa];rw [if_neg (by omega),List.take_of_length_le (by omega)]
  | succ d ih =>
   intro j hd hj;obtain⟨a,ha⟩:=ay (l:=m) (k:=j) (by omega);have hg:(m.map some)[j]?=some (some a):=by rw [List.getElem?_map,ha];rfl
   have step:fT (l.map some,(m.take j).map (FO l),m.map some,(m.length:Int),(j:Int))=some (.nx (l.map some,(m.take (j+1)).map (FO l),m.map some,(m.length:Int),((j+1:Nat):Int))):=by simp only [fT,aa,ad,hg,bind_some,Ia a hl];rw [if_pos (by omega),a6 (by simp;omega),bind_some,cD (by omega) (by omega),List.take_add_one,ha];simp
   rw [aj step];exact ih (j+1) (by omega) (by omega)
 have h0:=key m.length 0 (by omega) (Nat.zero_le _);have VG:ab fT (l.map some,[],m.map some,(((m.map some).length:Nat):Int),(0:Int))=some (m.map (FO l)):=by rw [List.length_map];exact h0
 simp only [mS,VG,bind_some]
section
variable {F:Fo}{L:Nat->HN}
theorem SF (hF:F.ok)(ha:∀ i,i<F.m->(L i).attrs.length<=1000000){n:Nat}(hb:lY=n){m:List Nat}{r:Nat}(hm:m[0]?=some r)(hr:r<F.m)(hh:Ht F.kids n r)(hl:(cd F.kids n r).length<=1000000)(Gs:m.length<=1000000) :
  db ((m.map some,()),F.st L)=some (bH F.kids (λi=>kn (L i)) n r,m.map (FO (cd F.kids n r)),F.st L):=by
 have IK:=Cn hF ha n r [] [] hr hh (by simpa using hl) (by simpa using hl);rw [List.nil_append,List.nil_append] at IK;have hg:bl (m.map some) 0=some (some r):=by rw [show (0:Int)=((0:Nat):Int) from rfl,ad,List.getElem?_map,hm];rfl
 simp only [db,hg,bind_some,hb,IK,FP hl Gs]
end
def eF (l:List Nat):List Int:=l.map Int.ofNat
theorem Ek {l:List Nat}{i:Nat}{v:Int}(h:(eF l)[i]?=some v):∃ k,l[i]?=some k/\v=(k:Int):=by
 rw [eF,List.getElem?_map] at h;cases hk:l[i]? with
 | none=>rw [hk] at h;cases h
 | some k=>rw [hk] at h;exact⟨k,rfl,(Option.some.inj h).symm⟩
theorem MZ {l:List Nat}:FN (eF l)=l.map some:=by simp [FN,eF,List.map_map,Function.comp_def]
section
variable {F:Fo}{L:Nat->HN}{p:Nat}
theorem Ib (hF:F.ok)(hp:p<F.m):ah (none,4,some p,none,F.st L)=some (F.kids p)[0]?:=by
 have hg:=Fo.get (F:=F) (L:=L) hp;have hf:(F.a7 L p).fst=(F.kids p)[0]?:=by simp only [Fo.a7,List.head?_eq_getElem?]
 have step:bn (none,4,some p,none,none,F.st L)=some (.out ((F.kids p)[0]?,F.st L)):=by
  simp only [bn,aa,bind_some,hg,hf,Option.isNone_none,cond_true,Bool.not_true,cond_false];rw [if_neg (by decide),if_pos trivial];cases hk:(F.kids p)[0]? with
  | none=>simp
  | some c =>
   have hc:=(hF.iG (List.mem_of_getElem? hk)).2;have TF:=Fo.get (F:=F) (L:=L) hc;rw [if_neg (by simp)];simp only [Option.isNone_some,cond_false,bind_some,TF]
   split <;> rfl
 simp only [ah,ae step,bind_some]
theorem Ln (hF:F.ok){j c:Nat}(hc:(F.kids p)[j]?=some c):ah (some c,4,some p,none,F.st L)=some (F.kids p)[j+1]?:=by
 obtain⟨hu,qq⟩:=hF.iG (List.mem_of_getElem? hc);have hg:=Fo.get (F:=F) (L:=L) qq;have hf:(F.a7 L c).aX=(F.kids p)[j+1]?:=by simp only [Fo.a7,hu,Option.bind_some];exact pE (hF.nd p) hc
 have step:bn (some c,4,some p,none,none,F.st L)=some (.out ((F.kids p)[j+1]?,F.st L)):=by
  simp only [bn,aa,bind_some,hg,hf,Option.isNone_none,Option.isNone_some,cond_true,Bool.not_true,cond_false];rw [if_neg (by decide),if_pos trivial];cases hk:(F.kids p)[j+1]? with
  | none=>simp
  | some d =>
   have hd:=(hF.iG (List.mem_of_getElem? hk)).2;have ZY:=Fo.get (F:=F) (L:=L) hd;rw [if_neg (by simp)];simp only [Option.isNone_some,cond_false,bind_some,ZY]
   split <;> rfl
 simp only [ah,ae step,bind_some]
theorem P9 (hF:F.ok)(hp:p<F.m)(hl:(F.kids p).length<=1000):di (some p,4,none,(),F.st L)=some ((F.kids p).map some):=by
 have count:∀ d j:Nat,(F.kids p).length - j=d->j<=(F.kids p).length->ab aA ((),4,(4,some p,none),(j:Int),(F.kids p)[j]?,F.st L)=some ((),4,(4,some p,none),((F.kids p).length:Int),F.st L):=by
  intro d
  induction d with
  | zero =>
   intro j hd hj;obtain rfl:j=(F.kids p).length:=by omega
   refine ae ?_
   have:(F.kids p)[(F.kids p).length]?=none:=by simp
   simp only [aA,this,Option.isNone_none,Bool.not_true,cond_false]
  | succ d ih =>
   intro j hd hj;obtain⟨c,hc⟩:=ay (l:=F.kids p) (k:=j) (by omega);have step:aA ((),4,(4,some p,none),(j:Int),(F.kids p)[j]?,F.st L)=some (.nx ((),4,(4,some p,none),((j+1:Nat):Int),(F.kids p)[j+1]?,F.st L)):=by simp only [aA,hc,Option.isNone_some,Bool.not_false,cond_true,Ln hF hc,bind_some];rw [cD (by omega) (by omega)];rfl
   rw [aj step];exact ih (j+1) (by omega) (by omega)
 have abm:∀ d j:Nat,(F.kids p).length - j=d->j<=(F.kids p).length->ab av ((),4,((F.kids p).take j).map some,(4,some p,none),(F.kids p)[j]?,F.st L)=some (.inl ((F.kids p).map some,F.st L)):=by
  intro d
  induction d with
  | zero =>
   intro j hd hj;obtain rfl:j=(F.kids p).length:=by omega
   refine ae ?_
   have:(F.kids p)[(F.kids p).length]?=none:=by simp
   simp only [av,this,Option.isNone_none,Bool.not_true,cond_false,List.take_length]
  | succ d ih =>
   intro j hd hj;obtain⟨c,hc⟩:=ay (l:=F.kids p) (k:=j) (by omega);have step:av ((),4,((F.kids p).take j).map some,(4,some p,none),(F.kids p)[j]?,F.st L)=some (.nx ((),4,((F.kids p).take (j+1)).map some,(4,some p,none),(F.kids p)[j+1]?,F.st L)):=by simp only [av,hc,Option.isNone_some,Bool.not_false,cond_true,aa,Ln hF hc];rw [if_neg (by decide),if_neg (by decide),a6 (by simp;omega),bind_some,if_neg (by decide),if_neg (by decide),bind_some,List.take_add_one,hc];simp
   rw [aj step];exact ih (j+1) (by omega) (by omega)
 have c0:=count (F.kids p).length 0 rfl (Nat.zero_le _);have c0':ab aA ((),4,(4,some p,none),(0:Int),(F.kids p)[0]?,F.st L)=_:=c0;have l0:=abm (F.kids p).length 0 rfl (Nat.zero_le _);have l0':ab av ((),4,List.replicate (Int.toNat 0) none,(4,some p,none),(F.kids p)[0]?,F.st L)=_:=l0;simp only [di,aa];rw [if_neg (by decide),if_pos trivial];simp only [Ib hF hp,bind_some,c0',l0'];rw [if_pos ⟨by omega,by omega,by omega⟩];simp only [Ib hF hp,bind_some,l0',bu]
theorem Ak (hF:F.ok)(hp:p<F.m)(hl:(F.kids p).length<=1000):eP ([some p],4,F.st L)=some ((F.kids p).map some):=by have e:bl ([some p]:List (Option Nat)) 0=some (some p):=rfl;simp only [eP,kr,fv,aa,e,bind_some,P9 hF hp hl];rw [if_neg (by simp),if_pos (by simp)];rfl
end
theorem yK {F:Fo}{L:Nat->HN}{c q:Nat}(hF:F.ok)(hu:F.up c=some q):aO (some q,some c,F.st L)=some ((F.off [c]).st L):=by obtain⟨A,B,h⟩:=La hF hu;exact MH h
section
variable {G:Fo}{M:Nat->HN}{x to:Nat}{l:List Nat}
theorem CE (hG:G.ok)(hx:x<G.m):dP (some x,G.st M)=some ((G.kids x).find? λc=>decide ((M c).ty=3)):=by
 have hg:=Fo.get (F:=G) (L:=M) hx;have key:∀ d j,(G.kids x).length - j=d->j<=(G.kids x).length->ab cI ((G.kids x)[j]?,G.st M)=some (((G.kids x).drop j).find? λc=>decide ((M c).ty=3),G.st M):=by
  intro d
  induction d with
  | zero =>
   intro j hd hj;obtain rfl:j=(G.kids x).length:=by omega
   refine ae ?_;simp only [cI,List.drop_length,List.find?_nil];rw [List.getElem?_eq_none (Nat.le_refl _)];rfl
  | succ d ih =>
   intro j hd hj;obtain⟨c,hc⟩:=ay (l:=G.kids x) (k:=j) (by omega);obtain⟨hu,hm⟩:=hG.iG (List.mem_of_getElem? hc);have rn:(G.kids x).drop j=c::(G.kids x).drop (j+1):=by obtain⟨jC,he⟩:=List.getElem?_eq_some_iff.1 hc;rw [List.drop_eq_getElem_cons jC,he]
   have TF:=Fo.get (F:=G) (L:=M) hm;have Sc:(G.a7 M c).ty=(M c).ty:=rfl;have II:(G.a7 M c).aX=(G.kids x)[j+1]?:=by simp only [Fo.a7,hu,Option.bind_some];exact pE (hG.nd x) hc
   by_cases e:(M c).ty=3
   ·refine ae ?_;simp only [cI,hc,Option.isNone_some,Bool.not_false,cond_true,bind_some,TF,Sc,aa];rw [if_neg (by simp [e]),rn,List.find?_cons_of_pos (by simp [e])]
   ·have step:cI ((G.kids x)[j]?,G.st M)=some (.nx ((G.kids x)[j+1]?,G.st M)):=by simp only [cI,hc,Option.isNone_some,Bool.not_false,cond_true,bind_some,TF,Sc,aa,II];rw [if_pos e]
    rw [aj step,ih (j+1) (by omega) (by omega),rn,List.find?_cons_of_neg (by simp [e])]
 have h0:=key _ 0 rfl (Nat.zero_le _);have hf:(G.a7 M x).fst=(G.kids x)[0]?:=by simp only [Fo.a7,List.head?_eq_getElem?]
 simp only [dP,bind_some,hg,hf,h0,List.drop_zero]
theorem SG (hG:G.ok)(Gu:to<G.m)(h1:∀ d∈l,d<G.m/\to≠d/\d∉G.kids to)(h2:l.Nodup)(hl:l.length<=1000000)(s s':List (Option Nat))(nn i':Int) :
  ∀ d j,l.length - j=d->j<=l.length->ab aq (s,l.map some,(),0,0,some to,s',nn,i',l.map some,(l.length:Int),(j:Int),(qC G to (l.take j)).st M)=some (s,l.map some,(),0,s',nn,i',(qC G to l).st M):=by
 intro d
 induction d with
 | zero =>
  intro j hd hj;obtain rfl:j=l.length:=by omega
  rw [List.take_length];refine ae ?_;simp only [aq,aa];rw [if_neg (by omega)]
 | succ d ih =>
  intro j hd hj;obtain⟨c,hc⟩:=ay (l:=l) (k:=j) (by omega);have e1:l.take (j+1)=l.take j++[c]:=by rw [List.take_add_one,hc];rfl
  have iC:∀ d∈l.take j++[c],d∈l:=λd hd=>by rw [<- e1] at hd;exact List.mem_of_mem_take hd
  have my:(l.take j++[c]).Nodup:=by rw [<- e1];exact h2.sublist (List.take_sublist _ _)
  have lC:=P4 hG Gu (λd hd=>h1 d (iC d hd)) my;have P5:(qC G to (l.take j)).ok:=JV hG Gu (λd hd=>h1 d (iC d (by simp [hd]))) (List.nodup_append.1 my).1;have qq:c<G.m:=(h1 c (iC c (by simp))).1;have hcg:(l.map some)[j]?=some (some c):=by rw [List.getElem?_map,hc];rfl
  have TF:((qC G to (l.take j)).st M)[c]?=some ((qC G to (l.take j)).a7 M c):=Fo.get qq;have AR:=append_eq (L:=M) lC;have step:aq (s,l.map some,(),0,0,some to,s',nn,i',l.map some,(l.length:Int),(j:Int),(qC G to (l.take j)).st M)=some (.nx (s,l.map some,(),0,0,some to,s',nn,i',l.map some,(l.length:Int),((j+1:Nat):Int),(qC G to (l.take (j+1))).st M)):=by
   simp only [aq,aa,ad,hcg,bind_some,TF];rw [if_pos (by omega),if_neg (by simp)];cases hu:(qC G to (l.take j)).up c with
   | none =>
    have t_:((qC G to (l.take j)).a7 M c).par=none:=hu;simp only [t_,Option.isNone_none,Bool.not_true,cond_false,aJ];rw [yH P5 hu] at AR;rw [AR,bind_some,bind_some,e1,cD (by omega) (by omega)];rfl
   | some q =>
    have t_:((qC G to (l.take j)).a7 M c).par=some q:=hu;simp only [t_,Option.isNone_some,Bool.not_false,cond_true,aJ];rw [yK P5 hu,bind_some,AR,bind_some,bind_some,e1,cD (by omega) (by omega)];rfl
  rw [aj step];exact ih (j+1) (by omega) (by omega)
theorem FQ (hG:G.ok)(Gu:to<G.m)(h1:∀ d∈l,d<G.m/\to≠d/\d∉G.kids to)(h2:l.Nodup)(hl:l.length<=1000000):cO ([some to],l.map some,G.st M)=some ((),(qC G to l).st M):=by
 have lH:=SG (M:=M) hG Gu h1 h2 hl [some to] [some to] 1 0 l.length 0 (by omega) (Nat.zero_le _);rw [List.take_zero,Ld] at lH;have Gw:(((l.map (some:Nat->Option Nat)).length:Nat):Int)=(l.length:Int):=by simp
 have step:ax ([some to],l.map some,(),0,[some to],1,0,G.st M)=some (.nx ([some to],l.map some,(),0,[some to],1,1,(qC G to l).st M)):=by simp only [ax,aa,Gw];rw [if_pos (by omega)];have e:bl ([some to]:List (Option Nat)) 0=some (some to):=rfl;have abn:ab aq ([some to],l.map some,(),0,0,some to,[some to],1,0,l.map some,(l.length:Int),(0:Int),G.st M)=some ([some to],l.map some,(),0,[some to],1,0,(qC G to l).st M):=lH;rw [e,bind_some,abn,bind_some];rfl
 have AX:ab ax ([some to],l.map some,(),0,[some to],1,0,G.st M)=some ([some to],(qC G to l).st M):=by rw [aj step];refine ae ?_;simp only [ax,aa];rw [if_neg (by omega)]
 have e1:IntKind.wrap .i64 ((([some to]:List (Option Nat)).length:Int) - 1)=0:=by rw [cD (by simp) (by simp)];rfl
 have e2:(([some to]:List (Option Nat)).length:Int)=1:=rfl;simp only [cO,bG,cS,aQ,bL,bind_some,cond_false];rw [e1,e2,AX,bind_some];rfl
end
structure NG (Q:Int×Node->HN->Prop):Prop where
 el:∀ a x,Q a x->(a.2.kind=3↔x.ty=3)
 cp:∀ a b x y,Q a x->b=(-1,a.2)->Sb y x->Q b y
section
variable {Q:Int×Node->HN->Prop}{D:Nat->Prop}{φ:Nat->Nat}{F F1 G G1:Fo}{P P1:Nat->Int×Node}{M M1:Nat->HN}{w to:Nat}{l:List Nat}
theorem qB.grow (h:qB Q D φ F P G M)(hx:Gx F P F1 P1):qB Q D φ F1 P1 G M:=by
 have o:=λi hi=>hx.fe i (h.dm i hi)
 refine⟨hx.ok,h.xg,λi hi=>Nat.lt_of_lt_of_le (h.dm i hi) hx.m,h.gm,h.inj,λi hi c hc=>?_,λi hi p hp=>?_,λi hi=>?_,λi hi=>?_,λi hi=>?_⟩
 ·rw [(o i hi).2.1] at hc;exact h.dk i hi c hc
 ·rw [(o i hi).1] at hp;exact h.du i hi p hp
 ·rw [(o i hi).2.1];exact h.kids i hi
 ·rw [(o i hi).1];exact h.up i hi
 ·rw [(o i hi).2.2];exact h.rN i hi
theorem qB.qC (h:qB Q D φ F P G M)(Gu:D to)(hl:∀ c∈l,D c/\to≠c/\c∉F.kids to)(hn:l.Nodup):qB Q D φ (qC F to l) P (qC G (φ to) (l.map φ)) M:=by
 have h1:=h.off (l:=l) λc hc=>(hl c hc).1
 have hk:(F.off l).kids to=F.kids to++[]:=by
  simp only [Fo.off,List.append_nil];refine List.filter_eq_self.2 λj hj=>?_
  have:j∉l:=λhm=>(hl j hm).2.2 hj
  simpa using this
 have h2:=h1.br Gu hk (λc hc=>⟨(hl c hc).1,by simp [Fo.off,hc],(hl c hc).2.1⟩) hn;have e:(F.kids to).map φ=G.kids (φ to):=(h.kids to Gu).symm;rw [e] at h2;exact h2
theorem qB.ht (h:qB Q D φ F P G M):∀ {n x:Nat},D x->Ht F.kids n x->Ht G.kids n (φ x)
 | 0,_,_,hh=>hh
 | n+1,x,hx,hh=>λy hy=>by rw [h.kids x hx] at hy;obtain⟨c,hc,rfl⟩:=List.mem_map.1 hy;exact h.ht (h.dk x hx c hc) (hh c hc)
theorem qB.lW (h:qB Q D φ F P G M):∀ {n x:Nat},D x->lW G.kids n (φ x)=lW F.kids n x
 | 0,_,_=>rfl
 | n+1,x,hx=>by
  simp only [Go.Proofs.YtngabkipchpmpaaGreat.V.lW,h.kids x hx,List.map_map]
  congr 2
  exact List.map_congr_left λc hc=>h.lW (h.dk x hx c hc)
theorem El {e:Nat->Bool}:∀ {l:List Nat},l.find? e=(l.filter e).head?
 | []=>rfl
 | a::l=>by
  rw [List.find?_cons,List.filter_cons];cases e a with
  | true=>rfl
  | false=>exact El
theorem JX (h:qB Q D φ F P G M)(hQ:NG Q)(s:List (Option Nat)){x:Nat}{r:Option Nat}(hi:Bl F.kids (Bk P) x r):∀ to,r=some to->D x->ab bg (s,some (φ x),(G.kids (φ x)).find? (λc=>decide ((M c).ty=3)),G.st M)=some (s,some (φ to),G.st M):=by
 have hf:∀ x,D x->(G.kids (φ x)).find? (λc=>decide ((M c).ty=3))=((F.kids x).filter (Bk P)).head?.map φ:=λx hx=>by
  rw [h.kids x hx,El,List.filter_map,List.head?_map]
  congr 2
  refine List.filter_congr λc hc=>?_
  have:=hQ.el _ _ (h.rN c (h.dk x hx c hc))
  simp only [Function.comp,Bk,this]
 induction hi with
 | stop hs =>
  intro to e hx;cases e;rw [hf _ hx,hs];refine ae ?_;simp only [bg,List.head?_nil,Option.map_none,Option.isNone_none,Bool.not_true,cond_false]
 | many=>intro to e;cases e
 | @down x y r hs _ ih =>
  intro to e hx;have hy:y∈F.kids x:=by
   have:y∈(F.kids x).filter (Bk P):=by rw [hs];simp
   exact (List.mem_filter.1 this).1
  have hyD:=h.dk x hx y hy;have B3:=CE (M:=M) h.xg (h.gm y hyD);have step:bg (s,some (φ x),some (φ y),G.st M)=some (.nx (s,some (φ y),(G.kids (φ y)).find? (λc=>decide ((M c).ty=3)),G.st M)):=by simp only [bg,Option.isNone_some,Bool.not_false,cond_true,B3,bind_some]
  rw [hf x hx,hs];show ab bg (s,some (φ x),some (φ y),G.st M)=_;rw [aj step];exact ih to e hyD
end
theorem SH {F:Fo}{to first:Nat}{l:List Nat}(hf:first∈l)(hk:first∉F.kids to):qC (F.off [first]) to l=qC F to l:=by
 unfold qC;have e:(F.off [first]).off l=F.off l:=by
  rw [tz];refine Fo.ext rfl (λi=>?_) (λi=>?_)
  ·simp only [Fo.off,List.mem_append,List.mem_singleton]
   by_cases e1:i=first
   ·subst e1;simp [hf]
   ·simp [e1]
  ·simp only [Fo.off,List.mem_append,List.mem_singleton]
   congr 1
   funext j
   by_cases e1:j=first
   ·subst e1;simp [hf]
   ·simp [e1]
 have e2:(F.off [first]).kids to=F.kids to:=by
  simp only [Fo.off];refine List.filter_eq_self.2 λj hj=>?_
  have:j≠first:=λe=>hk (e ▸ hj)
  simpa using this
 rw [e,e2]
structure vP (Q:Int×Node->HN->Prop)(φ:Nat->Nat)(F:Fo)(P:Nat->Int×Node)(G:Fo)(M:Nat->HN):Prop where
 sH:qB Q (λi=>i<F.m) φ F P G M
 at_:∀ i,i<G.m->(M i).attrs.length<=1000000
theorem qB.iff {Q:Int×Node->HN->Prop}{D D':Nat->Prop}{φ:Nat->Nat}{F G:Fo}{P:Nat->Int×Node}{M:Nat->HN}(h:qB Q D φ F P G M)(hd:∀ i,D' i↔D i):qB Q D' φ F P G M:=by
 have:D'=D:=funext λi=>propext (hd i)
 rw [this];exact h
theorem Ic {Q:Int×Node->HN->Prop}{φ:Nat->Nat}{F F' G:Fo}{P P':Nat->Int×Node}{M:Nat->HN}{w:Nat}{l:List Nat}(hQ:NG Q)(h:vP Q φ F P G M)(hI:WI F P w)(hg:WG F l)(hr:Wr w l F P F' P') :
  ∃ G' M' nD,aK ((l.map φ).map some,some (φ w),G.st M)=some ((),G'.st M')/\vP Q nD F' P' G' M'/\(∀ i,i<F.m->nD i=φ i)/\G'.m=G.m+(F'.m - F.m)/\(∀ j,j<G.m->(∀ i,i<F.m->φ i≠j)->G'.kids j=G.kids j/\G'.up j=G.up j/\M' j=M j)/\∀ i,F.m<=i->i<F'.m->G.m<=nD i:=by
 obtain⟨F1,first,rest,p,A,B,to,hc,rfl,hu,hk,lH,rfl⟩:=hr;obtain⟨n,hb,hn⟩:=vf;obtain⟨rp,BJ⟩:=hc.n;rw [hb] at rp BJ;have hm:=hI.m;have hlen:=hg.len;have R6:=hg.lt first (by simp)
 have jC:F.m<F1.m:=by
  cases n with
  | zero=>exact rp.elim
  | succ n=>exact rp.1.2
 have Dp:CD F P w first p A B F1 P':=⟨hI.ok,hI.rk,hI.hw,R6,hc.ext,hc.up,jC,hu,hk⟩
 have yR:=Dp.pm;have S:=h.sH;have xg:=S.xg;have Li:=S.ht hI.hw (tA hI.ok hI.rk (n:=n) hI.hw (by omega));obtain⟨G1,M1,c1,c2,c3,c4,c5,c6⟩:=yI (K:=G.kids) (B:=M) (m0:=G.m) (λi _ y hy=>(xg.iG hy).2) (λi _=>xg.nd i) h.at_ n (φ w) G M xg (Nat.le_refl _) (λi _=>⟨rfl,rfl⟩) (S.gm w hI.hw) Li;rw [S.lW hI.hw] at c4 c6;have qF:lW F.kids n w=F1.m - F.m:=by
  have e1:=congrArg List.length BJ;rw [List.length_range'] at e1;rw [<- e1,<- oQ (N:=λi=>(P' i).2)];have key:∀ {n c x:Nat},Ag F1 (QV P' λy=>(P y).2) F.kids F.m F1.m n c x->(bH F1.kids (λi=>(P' i).2) n c).length=lW F.kids n x:=by
   intro n
   induction n with
   | zero=>intro c x h;exact h.elim
   | succ n ih =>
    intro c x ⟨_,_,h4⟩
    have:∀ {l m:List Nat},F2 (Ag F1 (QV P' λy=>(P y).2) F.kids F.m F1.m n) l m->(l.flatMap (bH F1.kids (λi=>(P' i).2) n)).length=(m.map (lW F.kids n)).sum:=by
     intro l m hl
     induction hl with
     | nil=>rfl
     | cons h t Ri=>rw [List.flatMap_cons,List.length_append,ih h,Ri,List.map_cons,List.sum_cons]
    simp only [bH,lW,List.length_cons,this h4];omega
  exact (key rp).symm
 rw [qF] at c4 c6;have VY:MV F1.kids G1.kids (λc d=>Q (P' c) (M1 d)) n F.m G.m:=by refine JU (T:=λy=>y<F.m) (φ:=φ) (λy hy=>⟨S.kids y hy,λz hz=>(hI.ok.iG hz).2⟩) (λc y d hy hcy Yo=>?_) hI.hw rp c5;exact hQ.cp _ _ _ _ (S.rN y hy) hcy Yo
 have S1:=(S.grow hc.ext).copy (a:=F.m) (s:=F1.m - F.m) (by omega) (λi h1 _ h2=>by omega) hc.up BJ c2.ok c2.m c2.fe c3 c4 c6 VY (λc d _ _ h=>h);have WA:qB Q (λi=>i<F1.m) (TO φ F.m (F1.m - F.m) G.m) F1 P' G1 M1:=S1.iff λi=>by omega
 generalize VZ:TO φ F.m (F1.m - F.m) G.m=ik at WA;have AZ:∀ i,i<F.m->ik i=φ i:=λi hi=>by rw [<- VZ];exact if_neg (by omega)
 have M0:ik F.m=G.m:=by rw [<- VZ];unfold TO;rw [if_pos ⟨by omega,by omega⟩];omega
 have V0:p<F1.m:=by omega
 have V1:p≠F.m:=by omega
 have S2:=WA.br V0 hk (l:=[F.m]) (λc o8=>by rw [List.mem_singleton.1 o8];exact⟨jC,hc.up,V1⟩) (by simp);rw [List.map_cons,List.map_nil,M0,List.map_cons] at S2;have P_:G1.kids (ik p)=A.map ik++ik first::B.map ik:=by rw [WA.kids p V0,hk,List.map_append,List.map_cons]
 have V2:ik p<G1.m:=WA.gm p V0;have V3:ik p≠G.m:=by rw [AZ p yR.2];have:=S.gm p yR.2;omega
 have E3:=vN (F:=G1) (p:=ik p) (c:=G.m) (A:=A.map ik) (l:=[]) (B:=ik first::B.map ik) (by rw [lX P_];exact c2.ok) V2 (by omega) c3 V3 (by simp);rw [lX P_] at E3;have tN:Sp (G1.br (ik p) (A.map ik) [G.m] (ik first::B.map ik)) G1 (ik p) G.m (A.map ik) (ik first::B.map ik):=by simpa using E3
 have Dq:=insert_eq (L:=M1) tN;generalize Zt:G1.br (ik p) (A.map ik) [G.m] (ik first::B.map ik)=G2 at S2 tN Dq;generalize Yp:F1.br p A [F.m] (first::B)=F2 at *;have Yq:F2.m=F1.m:=by rw [<- Yp];rfl
 have sn:first<F1.m:=by omega
 have Zh:F2.up first=some p:=by
  have e:first≠F.m:=by omega
  rw [<- Yp];simp only [Fo.br,List.mem_singleton,if_neg e];exact hu
 have Yr:G2.up (ik first)=some (ik p):=by rw [S2.up first sn,Zh];rfl
 have abp:G1.up (ik first)=some (ik p):=by rw [WA.up first sn,hu];rfl
 have JY:=yK (L:=M1) S2.xg Yr;have S3:=S2.off (l:=[first]) (λc o8=>by rw [List.mem_singleton.1 o8];exact sn);rw [List.map_cons,List.map_nil] at S3;have SA:=Dp.ge (e:=Bk P') (x:=F.m) (r:=some to) (by rw [Yp];exact lH) (Nat.le_refl _) jC to rfl;have AY:∀ d∈first::rest,d<F1.m/\to≠d/\d∉F2.kids to:=λd hd=>by rw [<- Yp];exact Dp.tok (l:=first::rest) SA.1 hg.lt d hd
 have abq:Bl (F2.off [first]).kids (Bk P') F.m (some to):=by
  refine Bl.congr (T:=λy=>F.m<=y) (λy hy=>?_) (Nat.le_refl _) lH;have hyp:y≠p:=by omega
  have Wy:F2.kids y=F1.kids y:=by rw [<- Yp];exact Dp.Lh hyp
  refine⟨?_,λz hz=>⟨?_,rfl⟩⟩
  ·simp only [Fo.off];refine List.filter_eq_self.2 λj hj=>?_
   rw [Wy] at hj
   have:=hc.ext.inc y hy j hj
   have:j≠first:=by omega
   simpa using this
  ·rw [Wy] at hz
   have:=hc.ext.inc y hy z hz
   omega
 have B3:=CE (G:=G2.off [ik first]) (M:=M1) S3.xg (x:=G.m) (by have:=S3.gm F.m jC;rw [M0] at this;exact this);have Ys:=JX S3 hQ (((first::rest).map φ).map some) abq to rfl jC;rw [M0] at Ys;have Qa:to<F1.m:=SA.2;have Zm:∀ d∈first::rest,d∉(F2.off [first]).kids to:=λd hd h2=>(AY d hd).2.2 (List.mem_filter.1 h2).1
 have S4:=S3.qC (to:=to) (l:=first::rest) Qa (λc o8=>⟨(AY c o8).1,(AY c o8).2.1,Zm c o8⟩) hg.nd;have zf:(first::rest).map ik=(first::rest).map φ:=List.map_congr_left λc o8=>AZ c (hg.lt c o8)
 have Gw:((first::rest).map φ).length<=1000000:=by simp at hlen ⊢;omega
 have AR:=FQ (G:=G2.off [ik first]) (M:=M1) (to:=ik to) (l:=(first::rest).map φ) S3.xg (S3.gm to Qa) (λd hd=>by rw [<- zf] at hd;obtain⟨c,o8,rfl⟩:=List.mem_map.1 hd;refine⟨S3.gm c (AY c o8).1,λe=>(AY c o8).2.1 (S3.inj to c Qa (AY c o8).1 e),λNw=>?_⟩;rw [S3.kids to Qa,S3.mem (AY c o8).1 λz hz=>S3.dk to Qa z hz] at Nw;exact Zm c o8 Nw) (by rw [<- zf];exact S3.nodup (λc o8=>(AY c o8).1) hg.nd) Gw
 rw [SH (by simp) (AY first (by simp)).2.2,zf] at S4;refine⟨_,M1,ik,?_,⟨S4.iff λi=>by show i<F2.m↔i<F1.m;rw [Yq],λi hi=>?_⟩,AZ,?_,λj hj eH=>?_,λi h1 h2=>?_⟩
 ·have mC:bl (((first::rest).map φ).map some) (0:Int)=some (some (ik first)):=by rw [AZ first R6];rfl
  have g1:=Fo.get (F:=G1) (L:=M1) (WA.gm first sn);have DQ:(G1.a7 M1 (ik first)).par=some (ik p):=abp;have g2:=Fo.get (F:=G2) (L:=M1) (S2.gm first sn);have Mw:(G2.a7 M1 (ik first)).par=some (ik p):=Yr;have Yt:bo (some (ik p),some G.m,some (ik first),G1.st M1)=some (G2.st M1):=Dq;simp only [aK,aQ,bL,bind_some,aa];rw [if_neg (by simp;omega),hb,c1,bind_some];simp only [mC,bind_some,g1,DQ,Option.isNone_some,Bool.not_false,cond_true];simp only [Yt,g2,bind_some,Mw,JY,B3,Ys,aM,AR]
 ·by_cases e:i<G.m
  ·rw [(c2.fe i e).2.2];exact h.at_ i e
  ·have abr:G2.m=G1.m:=by rw [<- Zt];rfl
   have j5:i<G2.m:=hi;exact c2.rN i (by omega) (by omega)
 ·have abr:G2.m=G1.m:=by rw [<- Zt];rfl
  show G2.m=G.m+(F2.m - F.m);omega
 ·have hjp:j≠ik p:=λe=>eH p yR.2 (by rw [<- AZ p yR.2];exact e.symm)
  have hjt:j≠ik to:=λe=>by
   have ad9:ik to=G.m+(to - F.m):=by rw [<- VZ];exact if_pos ⟨by omega,by omega⟩
   omega
  have GA:∀ c∈first::rest,j≠φ c:=λc o8 e=>eH c (hg.lt c o8) e.symm
  have hjG:j≠G.m:=by omega
  obtain⟨o1,o2,o3⟩:=c2.fe j hj;have hjm:j∉(first::rest).map φ:=λhm=>by obtain⟨c,o8,e⟩:=List.mem_map.1 hm;exact GA c o8 e.symm
  have hjf:j≠ik first:=by rw [AZ first R6];exact GA first (by simp)
  refine⟨?_,?_,o3⟩
  ·rw [<- Zt];simp only [qC,Fo.br,Fo.off,if_neg hjt,if_neg hjp,o2];rw [List.filter_filter];refine List.filter_eq_self.2 λz hz=>?_
   have Yu:=(xg.iG hz).1
   have:∀ c∈first::rest,z≠φ c:=λc o8 e=>by
    subst e;have qq:=hg.lt c o8;rw [S.up c qq] at Yu;cases hq:F.up c with
    | none=>rw [hq] at Yu;cases Yu
    | some q =>
     rw [hq] at Yu;exact eH q (hI.ok.up hq).1 (Option.some.inj Yu)
   have h1:z∉(first::rest).map φ:=λhm=>by obtain⟨c,o8,e⟩:=List.mem_map.1 hm;exact this c o8 e.symm
   have h2:z≠ik first:=by rw [AZ first R6];exact this first (by simp)
   simp [h2,h1];simpa using h1
  ·rw [<- Zt];simp only [qC,Fo.br,Fo.off,if_neg hjm,List.mem_singleton,if_neg hjf,if_neg hjG,o1]
 ·have Bf:i<F1.m:=by rw [<- Yq];exact h2
  rw [show ik i=G.m+(i - F.m) by rw [<- VZ];exact if_pos ⟨by omega,by omega⟩];omega
section
variable {Q:Int×Node->HN->Prop}{φ:Nat->Nat}{F F' G:Fo}{P P':Nat->Int×Node}{M:Nat->HN}{w x:Nat}
theorem Wr.grow {l:List Nat}(h:Wr w l F P F' P'):F.m<=F'.m:=by obtain⟨F1,first,rest,p,A,B,to,hc,rfl,hu,hk,lH,rfl⟩:=h;exact hc.ext.m
end
structure vg (Q:Int×Node->HN->Prop)(φ:Nat->Nat)(F:Fo)(G:Fo)(M:Nat->HN)(nD:Nat->Nat)(F':Fo)(P':Nat->Int×Node)(G':Fo)(M':Nat->HN):Prop where
 JZ:vP Q nD F' P' G' M'
 Lo:∀ i,i<F.m->nD i=φ i
 new:∀ i,F.m<=i->i<F'.m->G.m<=nD i
 fm:F.m<=F'.m
 gm:G.m<=G'.m
 fr:∀ j,j<G.m->(∀ i,i<F.m->φ i≠j)->G'.kids j=G.kids j/\G'.up j=G.up j/\M' j=M j
section
variable {Q:Int×Node->HN->Prop}{D:Nat->Prop}{φ ik NH ψ:Nat->Nat}{E F F1 F2 G G1 G2:Fo}{P P1 P2 R:Nat->Int×Node}{M M1 M2:Nat->HN}{p:Nat}{A B l:List Nat}
theorem vg.refl (h:vP Q φ F P G M):vg Q φ F G M φ F P G M:=⟨h,λ_ _=>rfl,λi h1 h2=>by omega,Nat.le_refl _,Nat.le_refl _,λ_ _ _=>⟨rfl,rfl,rfl⟩⟩
theorem vg.trans (h:vg Q φ F G M ik F1 P1 G1 M1)(h':vg Q ik F1 G1 M1 NH F2 P2 G2 M2):vg Q φ F G M NH F2 P2 G2 M2:=by
 have a:=h.fm;have b:=h.gm;have c:=h'.fm;have d:=h'.gm;refine⟨h'.JZ,λi hi=>(h'.Lo i (by omega)).trans (h.Lo i hi),λi h1 h2=>?_,by omega,by omega,λj hj hn=>?_⟩
 ·by_cases e:i<F1.m
  ·rw [h'.Lo i e];exact h.new i h1 e
  ·have:=h'.new i (by omega) h2;omega
 ·obtain⟨k1,k2,k3⟩:=h.fr j hj hn;obtain⟨g1,g2,g3⟩:=h'.fr j (by omega) λi hi=>by
   by_cases e:i<F.m
   ·rw [h.Lo i e];exact hn i e
   ·have:=h.new i (by omega) hi;omega
  exact⟨g1.trans k1,g2.trans k2,g3.trans k3⟩
theorem vg.Yv {Q':Int×Node->HN->Prop}(h:vg Q φ F G M ik F1 P1 G1 M1)(hb:vP Q' ψ E R G M)(hd:∀ i j,i<F.m->j<E.m->φ i≠ψ j):vP Q' ψ E R G1 M1/\∀ i j,i<F1.m->j<E.m->ik i≠ψ j:=by
 have S:=hb.sH;have T:=h.JZ.sH;have hf:∀ j,j<E.m->_:=λj hj=>h.fr (ψ j) (S.gm j hj) λi hi=>hd i j hi hj
 refine⟨⟨⟨S.okF,T.xg,S.dm,λi hi=>Nat.lt_of_lt_of_le (S.gm i hi) h.gm,S.inj,S.dk,S.du,λi hi=>(hf i hi).1.trans (S.kids i hi),λi hi=>(hf i hi).2.1.trans (S.up i hi),λi hi=>?_⟩,h.JZ.at_⟩,λi j hi hj=>?_⟩
 ·rw [(hf i hi).2.2];exact S.rN i hi
 ·by_cases e:i<F.m
  ·rw [h.Lo i e];exact hd i j e hj
  ·have h1:=h.new i (by omega) hi;have h2:=S.gm j hj;omega
theorem qB.out (h:qB Q D φ F P G M){j c:Nat}(hj:∀ i,D i->φ i≠j)(hc:D c):φ c∉G.kids j:=λhk=>by
 have hu:=(h.xg.iG hk).1;rw [h.up c hc] at hu;cases hq:F.up c with
 | none=>rw [hq] at hu;cases hu
 | some q =>
  rw [hq] at hu;exact hj q (h.du c hc q hq) (Option.some.inj hu)
theorem qB.Qb (h:qB Q D φ F P G M)(hl:∀ c∈l,D c){j:Nat}(hj:∀ i,D i->φ i≠j):(G.off (l.map φ)).kids j=G.kids j/\(G.off (l.map φ)).up j=G.up j:=by
 refine⟨?_,?_⟩
 ·simp only [Fo.off];refine List.filter_eq_self.2 λz hz=>?_
  have:z∉l.map φ:=λhm=>by obtain⟨c,hc,rfl⟩:=List.mem_map.1 hm;exact h.out hj (hl c hc) hz
  simpa using this
 ·simp only [Fo.off];rw [if_neg];intro hm;obtain⟨c,hc,e⟩:=List.mem_map.1 hm;exact hj c (hl c hc) e
theorem SJ {j:Nat}(hD:∀ c∈l,D c)(hp:D p)(hj:∀ i,D i->φ i≠j):(G.br (φ p) A (l.map φ) B).kids j=G.kids j/\(G.br (φ p) A (l.map φ) B).up j=G.up j:=by
 refine⟨?_,?_⟩
 ·simp only [Fo.br];rw [if_neg λe=>hj p hp e.symm]
 ·simp only [Fo.br];rw [if_neg];intro hm;obtain⟨c,hc,e⟩:=List.mem_map.1 hm;exact hj c (hD c hc) e
theorem zL {a b c:Nat}(h:jZ F a b)(h':jZ F b c):jZ F a c:=by
 induction h' with
 | self=>exact h
 | up hu _ ih=>exact .up hu ih
theorem Lp (hF:F.ok){w y z:Nat}(h:jZ F w y)(hz:z∈F.kids y):jZ F w z := .up (hF.iG hz).1 h
theorem xO (hF:F.ok){w y:Nat}(hw:w<F.m)(h:jZ F w y):y<F.m:=by
 cases h with
 | self=>exact hw
 | up hu _=>exact (hF.iG (hF.up hu).2).2
theorem M3 (hQ:NG Q)(h:qB Q D φ F P G M)(mC:∀ i,i<G.m->(M i).attrs.length<=1000000){w a s n:Nat}(hw:D w)(Li:Ht F.kids n w)
  (hF:a+s<=F.m) (hD:∀ i,a<=i->i<a+s->¬ D i) (hu:F.up a=none) (Yw:cd F.kids n a=List.range' a s) {lo hi:Nat} (hc:Ag F (QV P λy=>(P y).2) F.kids lo hi n a w) :
  ∃ G1 M1,ak n (some (φ w),G.st M)=some (some G.m,G1.st M1)/\Ext G M G1 M1/\G1.up G.m=none/\G1.m=G.m+s/\qB Q (λi=>D i∨(a<=i/\i<a+s)) (TO φ a s G.m) F P G1 M1:=by
 have xg:=h.xg;obtain⟨G1,M1,c1,c2,c3,c4,c5,c6⟩:=yI (K:=G.kids) (B:=M) (m0:=G.m) (λi _ y hy=>(xg.iG hy).2) (λi _=>xg.nd i) mC n (φ w) G M xg (Nat.le_refl _) (λi _=>⟨rfl,rfl⟩) (h.gm w hw) (h.ht hw Li);rw [h.lW hw] at c4 c6;have qF:lW F.kids n w=s:=by
  have e1:=congrArg List.length Yw;rw [List.length_range',oY] at e1;rw [<- e1];have key:∀ {n c x:Nat},Ag F (QV P λy=>(P y).2) F.kids lo hi n c x->lW F.kids n c=lW F.kids n x:=by
   intro n
   induction n with
   | zero=>intro c x h;exact h.elim
   | succ n ih =>
    intro c x ⟨_,_,h4⟩
    have:∀ {l m:List Nat},F2 (Ag F (QV P λy=>(P y).2) F.kids lo hi n) l m->(l.map (lW F.kids n)).sum=(m.map (lW F.kids n)).sum:=by
     intro l m hl
     induction hl with
     | nil=>rfl
     | cons h t Ri=>rw [List.map_cons,List.sum_cons,ih h,Ri,List.map_cons,List.sum_cons]
    simp only [lW,this h4]
  exact (key hc).symm
 rw [qF] at c4 c6;have VY:MV F.kids G1.kids (λc d=>Q (P c) (M1 d)) n a G.m:=by refine JU (T:=D) (φ:=φ) (λy hy=>⟨h.kids y hy,λz hz=>h.dk y hy z hz⟩) (λc y d hy hcy Yo=>?_) hw hc c5;exact hQ.cp _ _ _ _ (h.rN y hy) hcy Yo
 exact⟨G1,M1,c1,c2,c3,c4,h.copy hF hD hu Yw c2.ok c2.m c2.fe c3 c4 c6 VY λc d _ _ h=>h⟩
theorem J0 {w:Nat}{Z:Nat->Bool}{ks:List (Option Nat)}{ob:Bool}(lI:F.ok)(Wz:Rk F)(hm:F.m<=200000)(hw:w<F.m)(mC:∀ i,jZ F w i->(P i).2.attrs.length<=1000000)(Dr:600<F.m->ob=true) :
  ∃ F1 P1 Z1 yT,aw lY (((),(F.m:Int),ob),some w,ks,F.aZ P Z)=some (some F.m,((),(F1.m:Int),yT),ks,F1.aZ P1 Z1)/\F.m<F1.m/\F1.m<=F.m+lW F.kids lY w/\F1.up F.m=none/\Gx F P F1 P1/\(ob=true->yT=true)/\(600<F1.m->yT=true)/\(yT=false->Cpd F P w F1 P1):=by
 obtain⟨n,hb,hn⟩:=vf;rw [hb];have Li:Ht F.kids n w:=tA lI Wz hw (by omega);have abj:lW F.kids n w<=F.m:=by obtain⟨r,hr⟩:=Wz.down lI;rw [<- oY];exact yJ lI hr n hw
 obtain⟨F1,P1,Z1,a1,yT,q1,q2,qz,qn,q3,q4,q5,q6,q7,q8,q9⟩:=zH (K:=F.kids) (B:=λy=>(P y).2) (Q:=jZ F w) (m0:=F.m) (ks:=ks) (λy hy z hz=>Lp lI hy hz) (λy hy=>xO lI hw hy) (λy _=>Nat.le_trans (fZ lI y) (by omega)) (λy hy=>mC y hy) n w F P Z (F.m:Int) ob .self Li lI (Nat.le_refl _) (λ_ _=>⟨rfl,rfl⟩) (by omega) (by omega);have ha:a1=(F1.m:Int):=by omega
 subst ha;refine⟨F1,P1,Z1,yT,q1,by omega,by omega,q3,q2,q7,λh=>q8 (λh=>Dr (by omega)) (by omega),λhob=>?_⟩;obtain⟨k1,k2,k3⟩:=q9 hob;have w5:lW F.kids n w=F1.m - F.m:=by omega
 exact⟨q2,q3,by rw [hb];exact k1,by rw [hb,k3,w5]⟩
end
def Ie (op:Int)(x p:Nat)(A B:List Nat):Prop:=(op=1/\p=x/\B=[])∨(op=2/\p=x/\A=[])∨((op=3∨op=5)/\∃ A0,A=A0++[x])∨(op=4/\∃ B0,B=x::B0)
def fwd (op:Int):Prop:=op=1∨op=4
structure Pl (op:Int)(F:Fo)(x p:Nat)(A B:List Nat):Prop where
 hp:p<F.m
 hk:F.kids p=A++B
 hc:Ie op x p A B
 hu:p=x∨F.up x=some p
section
variable {op:Int}{F G:Fo}{P:Nat->Int×Node}{Z:Nat->Bool}{L:Nat->HN}{x p c:Nat}{A B l:List Nat}
theorem Ie.fw (h:Ie op x p A B)(ho:fwd op):Ie op x p (A++l) B:=by
 rcases h with⟨h1,h2,h3⟩ | ⟨h1,h2,h3⟩ | ⟨h1,h2⟩ | ⟨h1,h2⟩
 ·exact .inl ⟨h1,h2,h3⟩
 ·rcases ho with h | h <;> omega
 ·rcases ho with h | h <;> omega
 ·exact .inr (.inr (.inr ⟨h1,h2⟩))
theorem Ie.bw (h:Ie op x p A B)(ho:¬ fwd op):Ie op x p A (l++B):=by
 rcases h with⟨h1,h2,h3⟩ | ⟨h1,h2,h3⟩ | ⟨h1,h2⟩ | ⟨h1,h2⟩
 ·exact absurd (.inl h1) ho
 ·exact .inr (.inl ⟨h1,h2,h3⟩)
 ·exact .inr (.inr (.inl ⟨h1,h2⟩))
 ·exact absurd (.inr h1) ho
theorem Ie.M4 (h:Ie op x p A B)(hx:x∉l):Ie op x p (A.filter λj=>decide (j∉l)) (B.filter λj=>decide (j∉l)):=by
 rcases h with⟨h1,h2,rfl⟩ | ⟨h1,h2,rfl⟩ | ⟨h1,A0,rfl⟩ | ⟨h1,B0,rfl⟩
 ·exact .inl ⟨h1,h2,rfl⟩
 ·exact .inr (.inl ⟨h1,h2,rfl⟩)
 ·exact .inr (.inr (.inl ⟨h1,A0.filter λj=>decide (j∉l),by simp [List.filter_append,hx]⟩))
 ·exact .inr (.inr (.inr ⟨h1,B0.filter λj=>decide (j∉l),by simp [hx]⟩))
theorem Ie.map (h:Ie op x p A B)(φ:Nat->Nat):Ie op (φ x) (φ p) (A.map φ) (B.map φ):=by
 rcases h with⟨h1,rfl,rfl⟩ | ⟨h1,rfl,rfl⟩ | ⟨h1,A0,rfl⟩ | ⟨h1,B0,rfl⟩
 ·exact .inl ⟨h1,rfl,rfl⟩
 ·exact .inr (.inl ⟨h1,rfl,rfl⟩)
 ·exact .inr (.inr (.inl ⟨h1,A0.map φ,by simp⟩))
 ·exact .inr (.inr (.inr ⟨h1,B0.map φ,by simp⟩))
theorem TQ (hF:F.ok)(hx:x<F.m)(ho:op=1∨op=2∨op=3∨op=4∨op=5)(hs:¬ (op=1∨op=2)->∃ p,F.up x=some p):∃ p A B,Pl op F x p A B:=by
 by_cases h1:op=1
 ·exact⟨x,F.kids x,[],hx,by simp, .inl ⟨h1,rfl,rfl⟩, .inl rfl⟩
 by_cases h2:op=2
 ·exact⟨x,[],F.kids x,hx,rfl, .inr (.inl ⟨h2,rfl,rfl⟩), .inl rfl⟩
 obtain⟨p,hp⟩:=hs (by omega);obtain⟨A,B,lC⟩:=La hF hp
 by_cases h4:op=4
 ·exact⟨p,A,x::B,lC.hp,lC.k, .inr (.inr (.inr ⟨h4,B,rfl⟩)), .inr hp⟩
 ·exact⟨p,A++[x],B,lC.hp,by rw [lC.k];simp, .inr (.inr (.inl ⟨by omega,A,rfl⟩)), .inr hp⟩
theorem Qc (a:Int)(b:Bool)(ks:List (Option Nat))(hF:F.ok)(hm:F.m<=1000000)(hp:p<F.m)(hk:F.kids p=A++B)(h1:∀ c∈l,c<F.m/\F.up c=none/\p≠c)(hn:l.Nodup) :
  ∀ d j:Nat,∀ Z,l.length - j=d->j<=l.length->∃ Z',ab aP (((),a,b),l.map some,some p,(A.length:Int),(j:Int),(F.br p A (l.take j) B).aZ P Z,ks)=some (((),a,b),(F.br p A l B).aZ P Z',ks):=by
 have abt:=o6 hF hp hk l h1 hn;have hlen:A.length+l.length+B.length<=1000000:=by have h2:=fZ abt p;have h3:(F.br p A l B).kids p=A++l++B:=if_pos rfl;rw [h3] at h2;simp only [List.length_append] at h2;have h4:(F.br p A l B).m=F.m:=rfl;omega
 intro d
 induction d with
 | zero =>
  intro j Z hd hj;refine⟨Z,ae ?_⟩;simp only [aP,aa];rw [if_neg (by simp;omega),List.take_of_length_le (by omega)]
 | succ d ih =>
  intro j Z hd hj;obtain⟨c,hc⟩:=ay (l:=l) (k:=j) (by omega);have qq:=h1 c (List.mem_of_getElem? hc);have e1:l.take j++[c]=l.take (j+1):=by rw [List.take_add_one,hc];rfl
  have rp:(l.take (j+1)).Nodup:=(List.take_sublist _ _).nodup hn;have l6:c∉l.take j:=λh=>by rw [<- e1,List.nodup_append] at rp;exact rp.2.2 c h c (by simp) rfl
  have lI:(F.br p A (l.take j) B).ok:=o6 hF hp hk _ (λd hd=>h1 d (List.mem_of_mem_take hd)) ((List.take_sublist _ _).nodup hn);have lC:=vN lI hp qq.1 qq.2.1 qq.2.2 l6;have hu:(F.br p A (l.take j) B).up c=none:=by simp only [Fo.br,if_neg l6];exact qq.2.1
  have l8:=put_eq (P:=P) (Z:=Z) (yw (F:=F.br p A (l.take j) B) qq.1 hu) lC (Nat.le_trans (fZ lC.okF p) hm);rw [e1] at l8;have e2:((A++l.take j).length:Int)=(A.length:Int)+(j:Int):=by simp;omega
  rw [e2] at l8;have step:aP (((),a,b),l.map some,some p,(A.length:Int),(j:Int),(F.br p A (l.take j) B).aZ P Z,ks)=some (.nx (((),a,b),l.map some,some p,(A.length:Int),((j+1:Nat):Int),(F.br p A (l.take (j+1)) B).aZ P (dq Z p false),ks)):=by simp only [aP,aa,ad,cm hc,bind_some];rw [if_pos (by simp;omega),cD (n:=(A.length:Int)+(j:Int)) (by omega) (by omega),l8,bind_some,cD (by omega) (by omega)];rfl
  obtain⟨Z',h⟩:=ih (j+1) (dq Z p false) (by omega) (by omega);exact⟨Z',by rw [aj step];exact h⟩
theorem Al (a:Int)(b:Bool)(ks:List (Option Nat))(h:Pl op F x p A B)(hF:F.ok)(hm:F.m<=1000000)(hx:x<F.m)(h1:∀ c∈l,c<F.m/\F.up c=none/\p≠c)(hn:l.Nodup) :
  ∃ Z',dQ (((),a,b),op,some x,l.map some,ks,F.aZ P Z)=some (((),a,b),ks,(F.br p A l B).aZ P Z'):=by
 obtain⟨Z',hl⟩:=Qc (P:=P) a b ks hF hm h.hp h.hk h1 hn l.length 0 Z rfl (Nat.zero_le _);rw [List.take_zero,lX h.hk] at hl;have hg:=Fo.mx (F:=F) (P:=P) (Z:=Z) hx;have vH:=fZ hF p;have ud:=h.hk;have dB:(F.kids p).length=A.length+B.length:=by rw [ud];simp
 refine⟨Z',?_⟩;rcases h.hc with⟨rfl,rfl,rfl⟩ | ⟨rfl,rfl,rfl⟩ | ⟨ho,A0,rfl⟩ | ⟨rfl,B0,rfl⟩
 ·have e:((((F.jw P Z p).kids).length:Nat):Int)=(A.length:Int):=by show (((F.kids p).map some).length:Int)=_;rw [ud];simp
  have ND:ab aP (((),a,b),l.map some,some p,(A.length:Int),(0:Int),F.aZ P Z,ks)=_:=hl;simp only [dQ,aa,bind_some,hg,e,ND];rw [if_pos trivial]
 ·have ND:ab aP (((),a,b),l.map some,some p,(0:Int),(0:Int),F.aZ P Z,ks)=_:=hl;simp only [dQ,aa];rw [if_neg (by decide),if_neg (by decide),if_neg (by decide),if_neg (by decide),ND,bind_some]
 all_goals
  have hu:F.up x=some p:=by rw [<- (hF.iG (p:=p) (c:=x) (by rw [ud];simp)).1]
  have MT:(F.jw P Z x).up=some p:=hu
 ·have lC:Sp F (F.eG p (A0++B) x none) p x A0 B:=⟨hF,h.hp,hx,hu,by rw [ud];simp,rfl⟩;have tJ:=u_ (P:=P) (Z:=Z) lC (by omega);have e:IntKind.wrap .i64 ((A0.length:Int)+1)=((A0++[x]).length:Int):=by simp only [List.length_append,List.length_cons,List.length_nil] at dB;rw [cD (by omega) (by omega)];simp
  have ND:ab aP (((),a,b),l.map some,some p,((A0++[x]).length:Int),(0:Int),F.aZ P Z,ks)=_:=hl;simp only [dQ,aa,bind_some,hg,tJ,MT,e,ND];rcases ho with rfl | rfl
  ·rw [if_neg (by decide),if_pos rfl]
  ·rw [if_neg (by decide),if_neg (by decide),if_pos rfl]
 ·have lC:Sp F (F.eG p (A++B0) x none) p x A B0:=⟨hF,h.hp,hx,hu,ud,rfl⟩;have tJ:=u_ (P:=P) (Z:=Z) lC (by omega);have ND:ab aP (((),a,b),l.map some,some p,(A.length:Int),(0:Int),F.aZ P Z,ks)=_:=hl;simp only [dQ,aa,bind_some,hg,tJ,MT,ND];rw [if_neg (by decide),if_neg (by decide),if_neg (by decide),if_pos trivial]
noncomputable def Ig (op:Int)(v:Option Nat×Option Nat×List HN):Option (List HN):=if op=1 then aJ v else if op=2 then aR v else if op=4 then aW v else a8 v
theorem Lq (h:Sp F G p c A B)(hc:Ie op x p A B):Ig op (some x,some c,G.st L)=some (F.st L):=by
 unfold Ig;have Wx:G.m=F.m:=by rw [h.g];rfl
 rcases hc with⟨rfl,rfl,rfl⟩ | ⟨rfl,rfl,rfl⟩ | ⟨ho,A0,rfl⟩ | ⟨rfl,B0,rfl⟩
 ·rw [if_pos rfl];simp only [aJ,append_eq h,bind_some]
 ·rw [if_neg (by decide),if_pos rfl];have gp:(G.st L)[p]?=some (G.a7 L p):=Fo.get (by rw [Wx];exact h.hp);have ef:(G.a7 L p).fst=B.head?:=by rw [h.JD (L:=L)];rfl
  simp only [aR,bind_some,gp,ef,insert_eq h]
 ·rw [if_neg (by omega),if_neg (by omega),if_neg (by omega)];obtain⟨hu,hm,hp,hc⟩:=h.iG (j:=x) (.inl (by simp));have gx:(G.st L)[x]?=some (G.a7 L x):=Fo.get (by rw [Wx];exact hm);have e:=h.Px (L:=L);have ep:(G.a7 L x).par=some p:=by rw [e];exact hu
  have en:(G.a7 L x).aX=B.head?:=by rw [e]
  simp only [a8,bind_some,gx,ep,en,Option.isNone_some,Bool.not_false,cond_true,insert_eq h]
 ·rw [if_neg (by decide),if_neg (by decide),if_pos rfl];obtain⟨hu,hm,hp,hc⟩:=h.iG (j:=x) (.inr (by simp));have gx:(G.st L)[x]?=some (G.a7 L x):=Fo.get (by rw [Wx];exact hm);have e:=h.Py (L:=L);have ep:(G.a7 L x).par=some p:=by rw [e];exact hu
  have hi:=insert_eq (L:=L) h;rw [List.head?_cons] at hi;simp only [aW,bind_some,gx,ep,Option.isNone_some,Bool.not_false,cond_true,hi]
end
def vh (F:Fo)(p:Nat)(A l B:List Nat):Fo:=(F.off l).br p (A.filter λj=>decide (j∉l)) l (B.filter λj=>decide (j∉l))
inductive SK:List Nat->Fo->(Nat->Int×Node)->List Nat->Fo->(Nat->Int×Node)->Prop
 | nil {F:Fo} {P:Nat->Int×Node}:SK [] F P [] F P
 | cons {w:Nat} {ws cs:List Nat} {F F1 F2:Fo} {P P1 P2:Nat->Int×Node} (h:Cpd F P w F1 P1) (t:SK ws F1 P1 cs F2 P2):SK (w::ws) F P (F.m::cs) F2 P2
structure JI (op:Int)(ws aI:List Nat)(F:Fo)(P:Nat->Int×Node):Prop where
 ok:F.ok
 rk:Rk F
 wm:∀ w∈ws,w<F.m
 nd:ws.Nodup
 on:∀ x∈aI,x<F.m/\(∀ w∈ws,¬ jZ F w x)/\(¬ (op=1∨op=2)->∃ p,F.up x=some p)
 ap:∀ w∈ws,∀ v∈ws,w≠v->¬ jZ F w v
 at_:∀ w∈ws,∀ y,jZ F w y->(P y).2.attrs.length<=1000000
inductive SL (op:Int)(ws:List Nat):List Nat->Fo->(Nat->Int×Node)->Fo->(Nat->Int×Node)->Prop
 | last {x p:Nat} {A B:List Nat} {F:Fo} {P:Nat->Int×Node} (hI:JI op ws [x] F P) (hm:F.m<=600) (hp:Pl op F x p A B):SL op ws [x] F P (vh F p A ws B) P
 | more {x y p:Nat} {l A B cs:List Nat} {F F1 F2:Fo} {P P1 P2:Nat->Int×Node} (hI:JI op ws (x::y::l) F P) (hm:F1.m<=600) (hp:Pl op F x p A B) (hc:SK ws F P cs F1 P1) (t:SL op ws (y::l) (F1.br p A cs B) P1 F2 P2):SL op ws (x::y::l) F P F2 P2
section
variable {op:Int}{F F1 G:Fo}{P P1:Nat->Int×Node}{Z:Nat->Bool}{x p w c y:Nat}{A B l ws cs aI:List Nat}
theorem SM {a b z:Nat}(h:jZ F a z)(h':jZ F b z):jZ F a b∨jZ F b a:=by
 induction h with
 | self=>exact .inr h'
 | @up q z hu t ih =>
  cases h' with
  | self=>exact .inl (.up hu t)
  | up JB t' =>
   rw [hu] at JB;cases JB;exact ih t'
theorem FR (hF:F.ok):∀ {n x z:Nat},z∈cd F.kids n x->jZ F x z
 | 0,_,_,h=>by cases h
 | n+1,x,z,h=>by
  simp only [cd,List.mem_cons,List.mem_flatMap] at h;rcases h with rfl | ⟨y,hy,hz⟩
  ·exact .self
  ·exact zL (.up (hF.iG hy).1 .self) (FR hF hz)
theorem M5 (hF:F.ok)(hr:Rk F){n:Nat}(hw:∀ w∈ws,w<F.m)(hn:ws.Nodup)(ha:∀ w∈ws,∀ v∈ws,w≠v->¬ jZ F w v):(ws.map (lW F.kids n)).sum<=F.m:=by
 obtain⟨r,hr⟩:=hr.down hF;have h1:(ws.flatMap (cd F.kids n)).Nodup:=by
  unfold List.Nodup;rw [List.pairwise_flatMap];refine⟨λw _=>zJ hF hr n w,hn.imp_of_mem λ{a b} Wk hmb p_ z hz v hv e=>?_⟩;subst e;rcases SM (FR hF hz) (FR hF hv) with h | h
  ·exact ha a Wk b hmb p_ h
  ·exact ha b hmb a Wk (Ne.symm p_) h
 have h2:=h1.length_le_of_subset (l₂:=List.range F.m) (λz hz=>by obtain⟨w,NI,hz⟩:=List.mem_flatMap.1 hz;exact List.mem_range.2 (CC hF n w (hw w NI) z hz))
 rw [List.length_range,List.length_flatMap] at h2
 have:(ws.map λa=>(cd F.kids n a).length)=ws.map (lW F.kids n):=List.map_congr_left λa _=>oY n a
 rwa [this] at h2
theorem FU {K':Nat->List Nat}(hF:F.ok):∀ {n w:Nat},(∀ y,jZ F w y->K' y=F.kids y)->lW K' n w=lW F.kids n w
 | 0,_,_=>rfl
 | n+1,w,h=>by
  simp only [lW,h w .self]
  congr 2
  exact List.map_congr_left λc hc=>FU hF λy hy=>h y (zL (.up (hF.iG hc).1 .self) hy)
theorem Lr (hF:F.ok)(hx:Gx F P F1 P1)(hw:w<F.m)(h:jZ F1 w y):y<F.m/\jZ F w y:=by
 induction h with
 | self=>exact⟨hw, .self⟩
 | @up q y hu t ih =>
  obtain⟨h1,h2⟩:=ih;have h3:=(hx.ok.up hu).2;rw [(hx.fe q h1).2.1] at h3;exact⟨(hF.iG h3).2, .up (hF.iG h3).1 h2⟩
theorem M6 (hF:F.ok)(hx:Gx F P F1 P1)(hw:w<F.m)(iB:¬ jZ F w p)(h:jZ (F1.br p A cs B) w y):y<F.m/\jZ F w y:=by
 induction h with
 | self=>exact⟨hw, .self⟩
 | @up q y hu t ih =>
  obtain⟨h1,h2⟩:=ih;simp only [Fo.br] at hu
  by_cases e:y∈cs
  ·rw [if_pos e] at hu;cases hu;exact absurd h2 iB
  ·rw [if_neg e] at hu;have h3:=(hx.ok.up hu).2;rw [(hx.fe q h1).2.1] at h3;exact⟨(hF.iG h3).2, .up (hF.iG h3).1 h2⟩
theorem JI.np (h:JI op ws aI F P)(hx:x∈aI)(hp:Pl op F x p A B)(hw:w∈ws):¬ jZ F w p:=λha=>by
 rcases hp.hu with e | e
 ·subst e;exact (h.on p hx).2.1 w hw ha
 ·exact (h.on x hx).2.1 w hw (.up e ha)
theorem JI.round (h:JI op ws (x::aI) F P)(hp:Pl op F x p A B)(hx:Gx F P F1 P1)(hc:∀ c∈cs,F.m<=c/\c<F1.m/\F1.up c=none)(hn:cs.Nodup) :
  (F1.br p A cs B).ok/\JI op ws aI (F1.br p A cs B) P1/\∀ n,∀ w∈ws,lW (F1.br p A cs B).kids n w=lW F.kids n w:=by
 have yR:=hp.hp;have Gz:=hx.m;have rG:F1.kids p=A++B:=by rw [(hx.fe p yR).2.1];exact hp.hk
 have eH:∀ c∈cs,p≠c:=λc nq=>by have:=(hc c nq).1;omega
 have lI:(F1.br p A cs B).ok:=o6 hx.ok (by omega) rG cs (λc nq=>⟨(hc c nq).2.1,(hc c nq).2.2,eH c nq⟩) hn;have Wz:Rk (F1.br p A cs B):=(h.rk.ext h.ok hx).br λc nq=>⟨(hc c nq).2.2,λha=>by
  have h1:=(Le h.ok hx yR ha).1;have h2:=(hc c nq).1
  omega⟩
 have iB:=λ{w:Nat} (hw:w∈ws)=>h.np (x:=x) (by simp) hp hw
 have M7:=λ{w y:Nat} (hw:w∈ws) (ha:jZ (F1.br p A cs B) w y)=>M6 h.ok hx (h.wm w hw) (iB hw) ha
 refine⟨lI,⟨lI,Wz,λw hw=>Nat.lt_of_lt_of_le (h.wm w hw) Gz,h.nd,λz hz=>?_,λw hw v hv eH ha=>h.ap w hw v hv eH (M7 hw ha).2,λw hw y hy=>?_⟩,λn w hw=>FU h.ok λy hy=>?_⟩
 ·obtain⟨h1,h2,h3⟩:=h.on z (by simp [hz]);refine⟨Nat.lt_of_lt_of_le h1 Gz,λw hw ha=>h2 w hw (M7 hw ha).2,λho=>?_⟩;obtain⟨q,hq⟩:=h3 ho;refine⟨q,?_⟩;have DO:z∉cs:=λhm=>by have:=(hc z hm).1;omega
  simp only [Fo.br];rw [if_neg DO,(hx.fe z h1).1];exact hq
 ·obtain⟨h1,h2⟩:=M7 hw hy;rw [(hx.fe y h1).2.2];exact h.at_ w hw y h2
 ·have hyp:y≠p:=λe=>iB hw (e ▸ hy)
  simp only [Fo.br];rw [if_neg hyp];exact (hx.fe y (xO h.ok (h.wm w hw) hy)).2.1
theorem Ih {on:List (Option Nat)}{ks:List (Option Nat)}{i:Nat}(hi:i+1<on.length)(FV:on.length<=1000000)(VH:ws.length<=1000) :
  ∀ (d j:Nat) (F:Fo) (P:Nat->Int×Node) (Z:Nat->Bool) (ob:Bool) (l:List Nat),ws.length - j=d->j<=ws.length->l.length=j->JI op (ws.drop j) [] F P->(600<F.m->ob=true)->F.m+((ws.drop j).map (lW F.kids lY)).sum<=200000 ->
   ∃ F1 P1 Z1 yT cs,ab a_ (((),(F.m:Int),ob),op,on,ws.map some,(i:Int),l.map some,(j:Int),F.aZ P Z,ks)=some (((),(F1.m:Int),yT),op,on,ws.map some,(i:Int),(l++cs).map some,F1.aZ P1 Z1,ks)/\Gx F P F1 P1/\F1.m<=F.m+((ws.drop j).map (lW F.kids lY)).sum/\cs.Nodup/\(∀ c∈cs,F.m<=c/\c<F1.m/\F1.up c=none)/\(ob=true->yT=true)/\(600<F1.m->yT=true)/\(yT=false->SK (ws.drop j) F P cs F1 P1):=by
 intro d
 induction d with
 | zero =>
  intro j F P Z ob l hd hj hl hI Dr _;obtain rfl:j=ws.length:=by omega
  rw [List.drop_length];refine⟨F,P,Z,ob,[],ae ?_,⟨hI.ok,Nat.le_refl _,λi _=>⟨rfl,rfl,rfl⟩,λi h1 y hy=>?_,λi h1 h2=>by omega⟩,by simp,by simp,by simp,id,Dr,λ_ => .nil⟩
  ·simp only [a_,aa];rw [if_neg (by simp),List.append_nil]
  ·have:=hI.ok.up (hI.ok.iG hy).1
   omega
 | succ d ih =>
  intro j F P Z ob l hd hj hl hI Dr hs;obtain⟨w,hw⟩:=ay (l:=ws) (k:=j) (by omega);have rn:ws.drop j=w::ws.drop (j+1):=by obtain⟨h1,h2⟩:=List.getElem?_eq_some_iff.1 hw;rw [<- h2];exact List.drop_eq_getElem_cons h1
  rw [rn,List.map_cons,List.sum_cons] at hs;rw [rn] at hI;have NI:=hI.wm w (by simp);obtain⟨F1,P1,Z1,yT,k1,k2,k3,k4,k5,k6,k7,k8⟩:=J0 (ks:=ks) (P:=P) (Z:=Z) hI.ok hI.rk (by omega) NI (hI.at_ w (by simp)) Dr;have qF:∀ v∈ws.drop (j+1),lW F1.kids lY v=lW F.kids lY v:=λv hv=>FU hI.ok λy hy=>(k5.fe y (xO hI.ok (hI.wm v (by simp [hv])) hy)).2.1
  have Yx:(ws.drop (j+1)).map (lW F1.kids lY)=(ws.drop (j+1)).map (lW F.kids lY):=List.map_congr_left qF;have step:a_ (((),(F.m:Int),ob),op,on,ws.map some,(i:Int),l.map some,(j:Int),F.aZ P Z,ks)=some (.nx (((),(F1.m:Int),yT),op,on,ws.map some,(i:Int),(l++[F.m]).map some,((j+1:Nat):Int),F1.aZ P1 Z1,ks)):=by simp only [a_,aa,ad,cm hw,bind_some,k1,yw (F:=F1) (P:=P1) (Z:=Z1) k2 k4];rw [if_pos (by simp;omega),cD (n:=(on.length:Int) - 1) (by omega) (by omega),if_pos (by omega),a6 (by simp;omega),bind_some,cD (by omega) (by omega)];simp
  have V4:JI op (ws.drop (j+1)) [] F1 P1:=by refine⟨k5.ok,hI.rk.ext hI.ok k5,λv hv=>Nat.lt_of_lt_of_le (hI.wm v (by simp [hv])) k5.m,(List.nodup_cons.1 hI.nd).2,λz hz=>(by cases hz),λa ha b hb eH p_=>hI.ap a (by simp [ha]) b (by simp [hb]) eH (Lr hI.ok k5 (hI.wm a (by simp [ha])) p_).2,λv hv y hy=>?_⟩;obtain⟨h1,h2⟩:=Lr hI.ok k5 (hI.wm v (by simp [hv])) hy;rw [(k5.fe y h1).2.2];exact hI.at_ v (by simp [hv]) y h2
  obtain⟨F2,P2,Z2,ob2,cs,q1,q2,q3,q4,q5,q6,q7,q8⟩:=ih (j+1) F1 P1 Z1 yT (l++[F.m]) (by omega) (by omega) (by simp [hl]) V4 k7 (by rw [Yx];omega);rw [Yx] at q3;have vn:=q2.m;refine⟨F2,P2,Z2,ob2,F.m::cs,by rw [aj step,q1];simp,k5.trans q2,by rw [rn,List.map_cons,List.sum_cons];omega,List.nodup_cons.2 ⟨λhm=>?_,q4⟩,λc hc=>?_,λh=>q6 (k6 h),q7,λh=>?_⟩
  ·have:=(q5 _ hm).1;omega
  ·rcases List.mem_cons.1 hc with rfl | hc
   ·exact⟨Nat.le_refl _,by omega,by rw [(q2.fe F.m k2).1];exact k4⟩
   ·have:=q5 c hc
    exact⟨by omega,this.2⟩
  ·have h1:yT=false:=by
    cases yT with
    | false=>rfl
    | true=>rw [q6 rfl] at h;cases h
   rw [rn];exact .cons (k8 h1) (q8 h)
theorem SN (a:Int)(b:Bool)(op:Int)(ks on:List (Option Nat)){i:Nat}(hi:on.length=i+1)(Bf:i<=1000000)(hF:F.ok)(Gz:F.m<=1000000)(hm:∀ c∈l,c<F.m)(hlen:l.length<=1000000) :
  ∀ d j:Nat,∀ Z,l.length - j=d->j<=l.length->∃ Z',ab a_ (((),a,b),op,on,l.map some,(i:Int),(l.take j).map some,(j:Int),(F.off (l.take j)).aZ P Z,ks)=some (((),a,b),op,on,l.map some,(i:Int),l.map some,(F.off l).aZ P Z',ks):=by
 intro d
 induction d with
 | zero =>
  intro j Z hd hj;refine⟨Z,ae ?_⟩;simp only [a_,aa];rw [if_neg (by simp;omega),List.take_of_length_le (by omega)]
 | succ d ih =>
  intro j Z hd hj;obtain⟨c,hc⟩:=ay (l:=l) (k:=j) (by omega);obtain⟨Z1,rv⟩:=vM (P:=P) (Z:=Z) (jz (l:=l.take j) hF) (hm c (List.mem_of_getElem? hc)) (λi=>Nat.le_trans (yG i) (Nat.le_trans (fZ hF i) Gz));have e1:l.take j++[c]=l.take (j+1):=by rw [List.take_add_one,hc];rfl
  rw [tz,e1] at rv;have step:a_ (((),a,b),op,on,l.map some,(i:Int),(l.take j).map some,(j:Int),(F.off (l.take j)).aZ P Z,ks)=some (.nx (((),a,b),op,on,l.map some,(i:Int),(l.take (j+1)).map some,((j+1:Nat):Int),(F.off (l.take (j+1))).aZ P Z1,ks)):=by simp only [a_,aa,ad,cm hc,bind_some,rv];rw [if_pos (by simp;omega),cD (n:=(on.length:Int) - 1) (by omega) (by omega),if_neg (by omega),a6 (by simp;omega),bind_some,cD (by omega) (by omega),<- e1];simp
  obtain⟨Z',h⟩:=ih (j+1) Z1 (by omega) (by omega);exact⟨Z',by rw [aj step];exact h⟩
theorem Qd (h:Pl op F x p A B)(hx:x∉ws):Pl op (F.off ws) x p (A.filter λj=>decide (j∉ws)) (B.filter λj=>decide (j∉ws)) :=
 ⟨h.hp,by simp only [Fo.off,h.hk,List.filter_append],h.hc.M4 hx,h.hu.imp id λe=>by simp only [Fo.off];rw [if_neg hx];exact e⟩
theorem Ds {on ks:List (Option Nat)}{S:Nat}{aI:List Nat}(ho:op=1∨op=2∨op=3∨op=4∨op=5)(FV:on=aI.map some)(abu:aI.length<=1000)(VH:ws.length<=1000) :
  ∀ (d i:Nat) (F:Fo) (P:Nat->Int×Node) (Z:Nat->Bool) (ob:Bool),aI.length - i=d+1->JI op ws (aI.drop i) F P->(600<F.m->ob=true)->(ws.map (lW F.kids lY)).sum<=S->F.m+S*(d+1)<=200000 ->
   ∃ F' P' Z' xf,ab ar (((),(F.m:Int),ob),op,on,ws.map some,(i:Int),F.aZ P Z,ks)=some (((),(F'.m:Int),xf),op,on,F'.aZ P' Z',ks)/\F'.ok/\F.m<=F'.m/\F'.m<=200000/\(ob=true->xf=true)/\(600<F'.m->xf=true)/\(xf=false->SL op ws (aI.drop i) F P F' P'):=by
 subst FV;intro d
 induction d with
 | zero =>
  intro i F P Z ob hd hI Dr hS hs;obtain⟨x,hx⟩:=ay (l:=aI) (k:=i) (by omega);have rn:aI.drop i=[x]:=by obtain⟨h1,h2⟩:=List.getElem?_eq_some_iff.1 hx;rw [List.drop_eq_getElem_cons h1,h2,List.drop_of_length_le (by omega)]
  rw [rn] at hI ⊢;obtain⟨ue,Gv,QD⟩:=hI.on x (by simp);obtain⟨p,A,B,hp⟩:=TQ hI.ok ue ho QD;have hxw:x∉ws:=λh=>Gv x h .self
  have Mw:=Qd hp hxw;obtain⟨Z1,rv⟩:=SN (P:=P) (F.m:Int) ob op ks (aI.map some) (i:=i) (by simp;omega) (by omega) hI.ok (by omega) hI.wm (by omega) ws.length 0 Z rfl (Nat.zero_le _);rw [List.take_zero,tv] at rv;have Yy:ab a_ (((),(F.m:Int),ob),op,aI.map some,ws.map some,(i:Int),[],(0:Int),F.aZ P Z,ks)=_:=rv;have iB:=λ{w:Nat} (hw:w∈ws)=>hI.np (x:=x) (by simp) hp hw
  have Qe:∀ c∈ws,c<(F.off ws).m/\(F.off ws).up c=none/\p≠c:=λc hc=>⟨hI.wm c hc,if_pos hc,λe=>iB hc (by rw [e];exact .self)⟩
  obtain⟨Z2,Dq⟩:=Al (P:=P) (Z:=Z1) (F.m:Int) ob ks Mw (jz hI.ok) (by show F.m<=_;omega) ue Qe hI.nd;have st:ar (((),(F.m:Int),ob),op,aI.map some,ws.map some,(i:Int),F.aZ P Z,ks)=some (.nx (((),(F.m:Int),ob),op,aI.map some,ws.map some,((i+1:Nat):Int),(vh F p A ws B).aZ P Z2,ks)):=by simp only [ar,aa,Yy,bind_some,ad,cm hx,Dq];rw [if_pos (by simp;omega),cD (by omega) (by omega)];rfl
  have st2:ab ar (((),(F.m:Int),ob),op,aI.map some,ws.map some,((i+1:Nat):Int),(vh F p A ws B).aZ P Z2,ks)=some (((),(F.m:Int),ob),op,aI.map some,(vh F p A ws B).aZ P Z2,ks):=by refine ae ?_;simp only [ar,aa];rw [if_neg (by simp;omega)]
  refine⟨vh F p A ws B,P,Z2,ob,by rw [aj st];exact st2,o6 (jz hI.ok) Mw.hp Mw.hk ws Qe hI.nd,Nat.le_refl _,by show F.m<=_;omega,id,Dr,λh => .last hI ?_ hp⟩
  by_cases e:600<F.m
  ·rw [Dr e] at h;cases h
  ·omega
 | succ d ih =>
  intro i F P Z ob hd hI Dr hS hs;obtain⟨x,hx⟩:=ay (l:=aI) (k:=i) (by omega);obtain⟨y,hy⟩:=ay (l:=aI) (k:=i+1) (by omega);have rn:aI.drop i=x::aI.drop (i+1):=by obtain⟨h1,h2⟩:=List.getElem?_eq_some_iff.1 hx;rw [<- h2];exact List.drop_eq_getElem_cons h1
  have Yz:aI.drop (i+1)=y::aI.drop (i+2):=by obtain⟨h1,h2⟩:=List.getElem?_eq_some_iff.1 hy;rw [<- h2];exact List.drop_eq_getElem_cons h1
  rw [rn] at hI;have hmul:S*(d+1+1)=S+S*(d+1):=by rw [Nat.mul_succ];omega
  obtain⟨ue,Gv,QD⟩:=hI.on x (by simp);obtain⟨p,A,B,hp⟩:=TQ hI.ok ue ho QD;obtain⟨F1,P1,Z1,yT,cs,q1,q2,q3,q4,q5,q6,q7,q8⟩:=Ih (op:=op) (ks:=ks) (on:=aI.map some) (ws:=ws) (i:=i) (by simp;omega) (by simp;omega) VH ws.length 0 F P Z ob [] rfl (Nat.zero_le _) rfl ⟨hI.ok,hI.rk,hI.wm,hI.nd,λz hz=>(by cases hz),hI.ap,hI.at_⟩ Dr (by rw [List.drop_zero];omega);rw [List.drop_zero] at q3 q8;obtain⟨g1,g2,g3⟩:=hI.round hp q2 q5 q4;have pK:=q2.m;have DQ:Pl op F1 x p A B:=⟨by have:=hp.hp;omega,by rw [(q2.fe p hp.hp).2.1];exact hp.hk,hp.hc,hp.hu.imp id λe=>by rw [(q2.fe x ue).1];exact e⟩;obtain⟨Z2,Dq⟩:=Al (P:=P1) (Z:=Z1) (F1.m:Int) yT ks DQ q2.ok (by omega) (by omega) (λc hc=>⟨(q5 c hc).2.1,(q5 c hc).2.2,by have:=hp.hp;have:=(q5 c hc).1;omega⟩) q4;have YA:ab a_ (((),(F.m:Int),ob),op,aI.map some,ws.map some,(i:Int),[],(0:Int),F.aZ P Z,ks)=some (((),(F1.m:Int),yT),op,aI.map some,ws.map some,(i:Int),cs.map some,F1.aZ P1 Z1,ks):=q1;have st:ar (((),(F.m:Int),ob),op,aI.map some,ws.map some,(i:Int),F.aZ P Z,ks)=some (.nx (((),(F1.m:Int),yT),op,aI.map some,ws.map some,((i+1:Nat):Int),(F1.br p A cs B).aZ P1 Z2,ks)):=by simp only [ar,aa,YA,bind_some,ad,cm hx,Dq];rw [if_pos (by simp;omega),cD (by omega) (by omega)];rfl
  have AQ:(ws.map (lW (F1.br p A cs B).kids lY)).sum<=S:=by rw [List.map_congr_left λw hw=>g3 lY w hw];exact hS
  obtain⟨F',P',Z',xf,k1,k2,k3,k4,k5,k6,k7⟩:=ih (i+1) (F1.br p A cs B) P1 Z2 yT (by omega) g2 q7 AQ (by show F1.m+_<=_;omega);have k3':F1.m<=F'.m:=k3;refine⟨F',P',Z',xf,by rw [aj st];exact k1,k2,by omega,k4,λh=>k5 (q6 h),k6,λh=>?_⟩;have h1:yT=false:=by
   cases yT with
   | false=>rfl
   | true=>rw [k5 rfl] at h;cases h
  have YB:F1.m<=600:=by
   by_cases e:600<F1.m
   ·rw [q7 e] at h1;cases h1
   ·omega
  have yi:=k7 h;rw [Yz] at hI yi;rw [rn,Yz];exact .more hI YB hp (q8 h1) yi
end
section
variable {op:Int}{F F1 F' G:Fo}{P P1 P':Nat->Int×Node}{Z:Nat->Bool}{x p w c y:Nat}{A B l ws cs aI:List Nat}
theorem SO (a:Int)(b:Bool)(ks:List (Option Nat))(hF:F.ok)(Gz:F.m<=1000000)(hm:∀ c∈l,c<F.m)(hlen:l.length<=1000000) :
  ∀ d j:Nat,∀ Z,l.length - j=d->j<=l.length->∃ Z',ab aD (((),a,b),l.map some,(j:Int),(F.off (l.take j)).aZ P Z,ks)=some (((),a,b),(F.off l).aZ P Z',ks):=by
 intro d
 induction d with
 | zero =>
  intro j Z hd hj;refine⟨Z,ae ?_⟩;simp only [aD,aa];rw [if_neg (by simp;omega),List.take_of_length_le (by omega)]
 | succ d ih =>
  intro j Z hd hj;obtain⟨c,hc⟩:=ay (l:=l) (k:=j) (by omega);obtain⟨Z1,rv⟩:=vM (P:=P) (Z:=Z) (jz (l:=l.take j) hF) (hm c (List.mem_of_getElem? hc)) (λi=>Nat.le_trans (yG i) (Nat.le_trans (fZ hF i) Gz));have e1:l.take j++[c]=l.take (j+1):=by rw [List.take_add_one,hc];rfl
  rw [tz,e1] at rv;have step:aD (((),a,b),l.map some,(j:Int),(F.off (l.take j)).aZ P Z,ks)=some (.nx (((),a,b),l.map some,((j+1:Nat):Int),(F.off (l.take (j+1))).aZ P Z1,ks)):=by simp only [aD,aa,ad,cm hc,bind_some,rv];rw [if_pos (by simp;omega),cD (by omega) (by omega)];rfl
  obtain⟨Z',h⟩:=ih (j+1) Z1 (by omega) (by omega);exact⟨Z',by rw [aj step];exact h⟩
noncomputable def YC (op a:Int)(b:Bool)(on ws ks:List (Option Nat))(S:List KN):Option (Bool×(PUnit×Int×Bool)×List (Option Nat)×List KN) :=
 Option.bind (cE (ws,on,S)) λr=>bif !r then some (false,((),a,b),ks,S) else Option.bind (if op=1∨op=2 then jl (on,S) else iK (on,S)) λr=>bif !r then some (false,((),a,b),ks,S) else bif decide ((ws.length:Int)=0) then some (false,((),a,b),ks,S) else
  Option.bind (if op=5 then cE (on,[],S) else some true) λr=>bif !r then some (false,((),a,b),ks,S) else Option.bind (ab ar (((),a,b),op,on,ws,(0:Int),S,ks)) λy=>bif decide (y.2.1=5) then Option.bind (ab aD (((),y.1.2.1,y.1.2.2),y.2.2.1,(0:Int),y.2.2.2.1,y.2.2.2.2)) λy=>some (true,((),y.1.2.1,y.1.2.2),y.2.2,y.2.1) else some (true,((),y.1.2.1,y.1.2.2),y.2.2.2.2,y.2.2.2.1)
theorem SP (ho:op=1∨op=2∨op=3∨op=4∨op=5)(a:Int)(b:Bool)(on ws ks:List (Option Nat))(S:List KN):de (((),a,b),op,on,ws,ks,S)=YC op a b on ws ks S:=by rcases ho with rfl | rfl | rfl | rfl | rfl <;> rfl
structure TR (F:Fo)(P:Nat->Int×Node)(F':Fo)(P':Nat->Int×Node):Prop where
 ok:F'.ok
 rk:Rk F'
 le:F.m<=F'.m
 m:F'.m<=600
 fe:∀ i,i<F.m->P' i=P i
 rN:∀ i,F.m<=i->i<F'.m->∃ j,j<F.m/\(P' i).2=(P j).2
theorem TR.trans {F2:Fo}{P2:Nat->Int×Node}(h:TR F P F1 P1)(h':TR F1 P1 F2 P2):TR F P F2 P2:=by
 have a:=h.le;have b:=h'.le;refine⟨h'.ok,h'.rk,by omega,h'.m,λi hi=>(h'.fe i (by omega)).trans (h.fe i hi),λi h1 h2=>?_⟩
 by_cases e:i<F1.m
 ·rw [h'.fe i e];exact h.rN i h1 e
 ·obtain⟨j,h3,h4⟩:=h'.rN i (by omega) h2;rw [h4]
  by_cases e2:j<F.m
  ·exact⟨j,e2,by rw [h.fe j e2]⟩
  ·exact h.rN j (by omega) h3
theorem TR.at_ (h:TR F P F' P'){n:Nat}(ha:∀ i,i<F.m->(P i).2.attrs.length<=n)(i:Nat)(hi:i<F'.m):(P' i).2.attrs.length<=n:=by
 by_cases e:i<F.m
 ·rw [h.fe i e];exact ha i e
 ·obtain⟨j,h1,h2⟩:=h.rN i (by omega) hi;rw [h2];exact ha j h1
theorem SK.facts (h:SK ws F P cs F1 P1):F.ok->(∀ w∈ws,w<F.m)->Gx F P F1 P1/\cs.Nodup/\(∀ c∈cs,F.m<=c/\c<F1.m/\F1.up c=none)/\∀ i,F.m<=i->i<F1.m->∃ j,j<F.m/\(P1 i).2=(P j).2:=by
 induction h with
 | nil=>exact λhF _=>⟨⟨hF,Nat.le_refl _,λi _=>⟨rfl,rfl,rfl⟩,λi h1 y hy=>by have:=hF.up (hF.iG hy).1;omega,λi h1 h2=>by omega⟩,by simp,by simp,λi h1 h2=>by omega⟩
 | @cons w ws cs F F1 F2 P P1 P2 h t ih =>
  intro hF hw;obtain⟨n,hb,hn⟩:=vf;obtain⟨rp,BJ⟩:=h.n;rw [hb] at rp BJ;have jC:F.m<F1.m:=by
   cases n with
   | zero=>exact rp.elim
   | succ n=>exact rp.1.2
  obtain⟨g1,g2,g3,g4⟩:=ih h.ext.ok λv hv=>Nat.lt_of_lt_of_le (hw v (by simp [hv])) h.ext.m
  have hl:∀ i,F.m<=i->i<F1.m->∃ j,j<F.m/\(P1 i).2=(P j).2:=λi h1 h2=>by obtain⟨z,hz,hr⟩:=xN rp (y:=i) (by rw [BJ,List.mem_range'_1];omega);exact⟨z,CC hF n w (hw w (by simp)) z hz,by rw [show P1 i=_ from hr]⟩
  have hm:=g1.m;refine⟨h.ext.trans g1,List.nodup_cons.2 ⟨λhm=>?_,g2⟩,λc hc=>?_,λi h1 h2=>?_⟩
  ·have:=(g3 _ hm).1;omega
  ·rcases List.mem_cons.1 hc with rfl | hc
   ·exact⟨Nat.le_refl _,by omega,by rw [(g1.fe F.m jC).1];exact h.up⟩
   ·have:=g3 c hc
    exact⟨by omega,this.2⟩
  ·by_cases e:i<F1.m
   ·rw [(g1.fe i e).2.2];exact hl i h1 e
   ·obtain⟨j,h3,h4⟩:=g4 i (by omega) h2;rw [h4]
    by_cases e2:j<F.m
    ·exact⟨j,e2,by rw [(h.ext.fe j e2).2.2]⟩
    ·exact hl j (by omega) h3
theorem SL.led (h:SL op ws aI F P F' P'):TR F P F' P':=by
 induction h with
 | @last x p A B F P hI hm hp =>
  have hxw:x∉ws:=λh=>(hI.on x (by simp)).2.1 x h .self
  have Mw:=Qd hp hxw;have iB:=λ{w:Nat} (hw:w∈ws)=>hI.np (x:=x) (by simp) hp hw
  have Qe:∀ c∈ws,c<(F.off ws).m/\(F.off ws).up c=none/\p≠c:=λc hc=>⟨hI.wm c hc,if_pos hc,λe=>iB hc (by rw [e];exact .self)⟩
  have hao:∀ {a b:Nat},jZ (F.off ws) a b->jZ F a b:=λ{a b} h=>by
   induction h with
   | self=>exact .self
   | @up q b hu t ih =>
    simp only [Fo.off] at hu
    by_cases e:b∈ws
    ·rw [if_pos e] at hu;cases hu
    ·rw [if_neg e] at hu;exact .up hu ih
  exact⟨o6 (jz hI.ok) Mw.hp Mw.hk ws Qe hI.nd,(hI.rk.off (l:=ws)).br λc hc=>⟨(Qe c hc).2.1,λha=>iB hc (hao ha)⟩,Nat.le_refl _,hm,λ_ _=>rfl,λi h1 h2=>by have h2:i<F.m:=h2;omega⟩
 | @more x y p l A B cs F F1 F2 P P1 P2 hI hm hp hc t ih =>
  obtain⟨g1,g2,g3,g4⟩:=hc.facts hI.ok hI.wm;obtain⟨k1,k2,k3⟩:=hI.round hp g1 g3 g2;exact TR.trans ⟨k1,k2.rk,g1.m,hm,λi hi=>(g1.fe i hi).2.2,g4⟩ ih
theorem Ii {ks:List (Option Nat)}(ho:op=1∨op=2∨op=3∨op=4∨op=5)(hF:F.ok)(hr:Rk F)(hm:F.m<=600)(mC:∀ i,i<F.m->(P i).2.attrs.length<=1000000)(FV:∀ c∈aI,c<F.m)(abu:aI.length<=200)(eH:aI≠[])(hw:∀ c∈ws,c<F.m)(hwn:ws.Nodup)(VH:ws.length<=200) :
  ∃ b f' S',de (((),(F.m:Int),false),op,aI.map some,ws.map some,ks,F.aZ P Z)=some (b,f',ks,S')/\(b=true->f'.2.2=false->∃ F' P' Z',f'=((),(F'.m:Int),false)/\SL op ws aI F P F' P'/\S'=(if op=5 then F'.off aI else F').aZ P' Z'):=by
 obtain⟨b1,h1,CQ⟩:=yF (P:=P) (Z:=Z) (ws:=ws) (on:=aI) hF hr hw FV (by omega) (by omega);obtain⟨b2,h2,M8⟩:=Cw (P:=P) (Z:=Z) (on:=aI) FV (by omega);obtain⟨b3,h3,KQ⟩:=FI (P:=P) (Z:=Z) (on:=aI) FV (by omega);obtain⟨b4,h4,Wm⟩:=yF (P:=P) (Z:=Z) (ws:=aI) (on:=[]) hF hr FV (by simp) (by omega) (by simp);have h4q:cE (aI.map some,[],F.aZ P Z)=some b4:=h4;obtain⟨b5,h5,Mv⟩:∃ b5,(if op=1∨op=2 then jl (aI.map some,F.aZ P Z) else iK (aI.map some,F.aZ P Z))=some b5/\(b5=true->¬ (op=1∨op=2)->∀ c∈aI,∃ p,F.up c=some p):=by
  by_cases e:op=1∨op=2
  ·exact⟨b3,by rw [if_pos e,h3],λ_ h=>absurd e h⟩
  ·exact⟨b2,by rw [if_neg e,h2],λh _=>M8 h⟩
 obtain⟨b6,h6⟩:∃ b6,(if op=5 then cE (aI.map some,[],F.aZ P Z) else some true)=some b6:=by
  by_cases e:op=5
  ·exact⟨b4,by rw [if_pos e,h4q]⟩
  ·exact⟨true,by rw [if_neg e]⟩
 rw [SP ho];simp only [YC,h1,h5,h6,bind_some,aa];cases b1 with
 | false=>exact⟨_,_,_,rfl,λh=>by cases h⟩
 | true =>
  cases b5 with
  | false=>exact⟨_,_,_,rfl,λh=>by cases h⟩
  | true =>
   simp only [Bool.not_true,cond_false]
   by_cases e0:((ws.map (some:Nat->Option Nat)).length:Int)=0
   ·rw [if_pos e0];exact⟨_,_,_,rfl,λh=>by cases h⟩
   rw [if_neg e0];cases b6 with
   | false=>exact⟨_,_,_,rfl,λh=>by cases h⟩
   | true =>
    simp only [Bool.not_true,cond_false];obtain⟨k1,k2⟩:=CQ rfl;have w9:∀ w∈ws,∀ v∈ws,w≠v->¬ jZ F w v:=λw hw v hv hwv=>by
     obtain⟨i,hi⟩:=List.mem_iff_getElem?.1 hw;obtain⟨k,hk⟩:=List.mem_iff_getElem?.1 hv;exact k1 i k w v hi hk λe=>by subst e;rw [hi] at hk;exact hwv (Option.some.inj hk)
    have hI:JI op ws aI F P:=⟨hF,hr,hw,hwn,λx hx=>⟨FV x hx,λw hw=>k2 w hw x hx,λh=>Mv rfl h x hx⟩,w9,λw NI y hy=>mC y (xO hF (hw w NI) hy)⟩;have j4:0<aI.length:=List.length_pos_iff.2 eH;have AQ:=M5 (n:=lY) hF hr hw hwn w9;have hbd:F.m+600*(aI.length - 1+1)<=200000:=by omega
    have hs6:(ws.map (lW F.kids lY)).sum<=600:=Nat.le_trans AQ hm;have Nt:aI.length<=1000:=by omega
    have Mh:ws.length<=1000:=by omega
    have Y5:aI.length - 0=aI.length - 1+1:=by omega
    obtain⟨F',P',Z',xf,q1,q2,q3,q4,q5,q6,q7⟩:=Ds (ks:=ks) (S:=600) (aI:=aI) ho rfl Nt Mh (aI.length - 1) 0 F P Z false Y5 hI (λh=>absurd h (Nat.not_lt.2 hm)) hs6 hbd;have YA:ab ar (((),(F.m:Int),false),op,aI.map some,ws.map some,(0:Int),F.aZ P Z,ks)=_:=q1;rw [List.drop_zero] at q7;rw [YA,bind_some];simp only []
    by_cases e5:op=5
    ·obtain⟨Z2,hc⟩:=SO (P:=P') (F'.m:Int) xf ks (l:=aI) q2 (by omega) (λc hc=>Nat.lt_of_lt_of_le (FV c hc) q3) (by omega) aI.length 0 Z' rfl (Nat.zero_le _);rw [List.take_zero,tv] at hc;have uL:ab aD (((),(F'.m:Int),xf),aI.map some,(0:Int),F'.aZ P' Z',ks)=_:=hc;rw [if_pos e5,uL,bind_some];refine⟨_,_,_,rfl,λ_ h=>?_⟩;have h:xf=false:=h;subst h;exact⟨F',P',Z2,rfl,q7 rfl,by rw [if_pos e5]⟩
    ·rw [if_neg e5];refine⟨_,_,_,rfl,λ_ h=>?_⟩;have h:xf=false:=h;subst h;exact⟨F',P',Z',rfl,q7 rfl,by rw [if_neg e5]⟩
end
def nj {α σ:Type}(f:α->σ->Option σ):List α->σ->Option σ
 | [],S=>some S
 | a::l,S=>(f a S).bind (nj f l)
noncomputable def om (op:Int)(cl:Bool)(x v:Option Nat)(S:List HN):Option (List HN) :=
 bif cl then Option.bind (ak lY (v,S)) λr=>Ig op (x,r.1,r.2)
 else Option.bind v λi=>Option.bind S[i]? λh=>bif h.par.isNone then Ig op (x,v,S) else Option.bind (aO (h.par,v,S)) λr=>Ig op (x,v,r)
noncomputable def wy (op:Int)(ns:List (Option Nat)):List (Option Nat)->List HN->Option (List HN)
 | [],S=>some S
 | x::xs,S=>(nj (om op (!xs.isEmpty) x) ns S).bind (wy op ns xs)
theorem oU {X B α σ:Type}{body:X->Option (ai X B)}{f:α->σ->Option σ}(l:List α)(st:Nat->σ->X)(fin:σ->B)(h:∀ k v S S',l[k]?=some v->f v S=some S'->body (st k S)=some (.nx (st (k+1) S')))(he:∀ S,body (st l.length S)=some (.out (fin S))) :
  ∀ (d k:Nat) (S S':σ),l.length - k=d->k<=l.length->nj f (l.drop k) S=some S'->ab body (st k S)=some (fin S'):=by
 intro d
 induction d with
 | zero =>
  intro k S S' hd hk hf;obtain rfl:k=l.length:=by omega
  rw [List.drop_length] at hf;cases hf;exact ae (he _)
 | succ d ih =>
  intro k S S' hd hk hf;obtain⟨v,hv⟩:=ay (l:=l) (k:=k) (by omega);have rn:l.drop k=v::l.drop (k+1):=by obtain⟨h1,h2⟩:=List.getElem?_eq_some_iff.1 hv;rw [<- h2];exact List.drop_eq_getElem_cons h1
  rw [rn] at hf;obtain⟨T,h1,h2⟩:=Option.bind_eq_some_iff.1 hf;rw [aj (h k v S T hv h1)];exact ih (k+1) T S' (by omega) (by omega) h2
theorem vQ {X B:Type}{body:X->Option (ai X B)}{op:Int}{ns:List (Option Nat)}(l:List (Option Nat))(st:Nat->List HN->X)(fin:List HN->B)(h:∀ k x S S',l[k]?=some x->nj (om op (decide (k+1<l.length)) x) ns S=some S'->body (st k S)=some (.nx (st (k+1) S')))(he:∀ S,body (st l.length S)=some (.out (fin S))) :
  ∀ (d k:Nat) (S S':List HN),l.length - k=d->k<=l.length->wy op ns (l.drop k) S=some S'->ab body (st k S)=some (fin S'):=by
 intro d
 induction d with
 | zero =>
  intro k S S' hd hk hf;obtain rfl:k=l.length:=by omega
  rw [List.drop_length] at hf;cases hf;exact ae (he _)
 | succ d ih =>
  intro k S S' hd hk hf;obtain⟨v,hv⟩:=ay (l:=l) (k:=k) (by omega);have rn:l.drop k=v::l.drop (k+1):=by obtain⟨h1,h2⟩:=List.getElem?_eq_some_iff.1 hv;rw [<- h2];exact List.drop_eq_getElem_cons h1
  rw [rn] at hf;obtain⟨T,h1,h2⟩:=Option.bind_eq_some_iff.1 hf;have e:(!(l.drop (k+1)).isEmpty)=decide (k+1<l.length):=by
   by_cases e:k+1<l.length
   ·rw [decide_eq_true e];cases hx:l.drop (k+1) with
    | nil=>have:=congrArg List.length hx;simp at this;omega
    | cons a m=>rfl
   ·rw [decide_eq_false e,List.drop_of_length_le (by omega)];rfl
  rw [e] at h1;rw [aj (h k v S T hv h1)];exact ih (k+1) T S' (by omega) (by omega) h2
section
variable {s s' ns:List (Option Nat)}{last i i' nn:Int}{x:Option Nat}{cl:Bool}{S S':List HN}
theorem SQ (hn:ns.length<=1000000)(l6:decide (i≠last)=cl)(h:nj (om 1 cl x) ns S=some S'):ab aq (s,ns,(),last,i,x,s',nn,i',ns,(ns.length:Int),(0:Int),S)=some (s,ns,(),last,s',nn,i',S'):=by
 refine oU (f:=om 1 cl x) ns (λk S=>(s,ns,(),last,i,x,s',nn,i',ns,(ns.length:Int),(k:Int),S)) (λS=>(s,ns,(),last,s',nn,i',S)) (λk v S S' hk hf=>?_) (λS=>?_) ns.length 0 S S' rfl (Nat.zero_le _) (by rw [List.drop_zero];exact h)
 ·have vH:=(List.getElem?_eq_some_iff.1 hk).1;simp only [aq,aa,ad,hk,bind_some,Int.toNat_natCast];rw [if_pos (by omega),<- aa,l6];cases cl with
  | true =>
   obtain⟨r,h1,h2⟩:=Option.bind_eq_some_iff.1 hf;have M8:aJ (x,r.1,r.2)=some S':=h2;rw [cond_true,h1,bind_some,M8,bind_some,cD (by omega) (by omega)];rfl
  | false =>
   obtain⟨j,rfl,h1⟩:=Option.bind_eq_some_iff.1 hf;obtain⟨e,h2,h3⟩:=Option.bind_eq_some_iff.1 h1;simp only [cond_false,bind_some,h2];cases hp:e.par with
   | none =>
    rw [hp] at h3;have KQ:aJ (x,some j,S)=some S':=h3;simp only [Option.isNone_none,Bool.not_true,cond_false];rw [KQ,bind_some,cD (by omega) (by omega)];rfl
   | some q =>
    rw [hp] at h3;obtain⟨T,h4,h5⟩:=Option.bind_eq_some_iff.1 h3;have Mv:aJ (x,some j,T)=some S':=h5;simp only [Option.isNone_some,Bool.not_false,cond_true];rw [h4,bind_some,Mv,bind_some,cD (by omega) (by omega)];rfl
 ·simp only [aq,aa];rw [if_neg (by omega)]
theorem Qf {on:List (Option Nat)}(hn:ns.length<=1000000)(ho:on.length<=1000000)(h:wy 1 ns on S=some S'):ab ax (on,ns,(),(on.length:Int) - 1,on,(on.length:Int),(0:Int),S)=some (on,S'):=by
 refine vQ (op:=1) (ns:=ns) on (λk S=>(on,ns,(),(on.length:Int) - 1,on,(on.length:Int),(k:Int),S)) (λS=>(on,S)) (λk x S S' hk hf=>?_) (λS=>?_) on.length 0 S S' rfl (Nat.zero_le _) (by rw [List.drop_zero];exact h)
 ·have vH:=(List.getElem?_eq_some_iff.1 hk).1;have lH:=SQ (s:=on) (s':=on) (nn:=(on.length:Int)) (i':=(k:Int)) (last:=(on.length:Int) - 1) (i:=(k:Int)) hn (by
   by_cases e:k+1<on.length
   ·rw [decide_eq_true e,decide_eq_true (by omega)]
   ·rw [decide_eq_false e,decide_eq_false (by omega)]) hf
  simp only [ax,aa,ad,hk,bind_some];rw [if_pos (by omega),lH,bind_some];dsimp only;rw [cD (by omega) (by omega)];rfl
 ·simp only [ax,aa];rw [if_neg (by omega)]
theorem SS (hn:ns.length<=1000000)(l6:decide (i≠last)=cl)(h:nj (om 2 cl x) ns S=some S'):ab bB (s,ns,(),last,i,x,s',nn,i',(),(ns.length:Int),(0:Int),S)=some (s,ns,(),last,s',nn,i',S'):=by
 refine oU (f:=om 2 cl x) ns (λk S=>(s,ns,(),last,i,x,s',nn,i',(),(ns.length:Int),(k:Int),S)) (λS=>(s,ns,(),last,s',nn,i',S)) (λk v S S' hk hf=>?_) (λS=>?_) ns.length 0 S S' rfl (Nat.zero_le _) (by rw [List.drop_zero];exact h)
 ·have vH:=(List.getElem?_eq_some_iff.1 hk).1;simp only [bB,aa,ad,hk,bind_some,Int.toNat_natCast];rw [if_pos (by omega),<- aa,l6];cases cl with
  | true =>
   obtain⟨r,h1,h2⟩:=Option.bind_eq_some_iff.1 hf;have M8:aR (x,r.1,r.2)=some S':=h2;rw [cond_true,h1,bind_some,M8,bind_some,cD (by omega) (by omega)];rfl
  | false =>
   obtain⟨j,rfl,h1⟩:=Option.bind_eq_some_iff.1 hf;obtain⟨e,h2,h3⟩:=Option.bind_eq_some_iff.1 h1;simp only [cond_false,bind_some,h2];cases hp:e.par with
   | none =>
    rw [hp] at h3;have KQ:aR (x,some j,S)=some S':=h3;simp only [Option.isNone_none,Bool.not_true,cond_false];rw [KQ,bind_some,cD (by omega) (by omega)];rfl
   | some q =>
    rw [hp] at h3;obtain⟨T,h4,h5⟩:=Option.bind_eq_some_iff.1 h3;have Mv:aR (x,some j,T)=some S':=h5;simp only [Option.isNone_some,Bool.not_false,cond_true];rw [h4,bind_some,Mv,bind_some,cD (by omega) (by omega)];rfl
 ·simp only [bB,aa];rw [if_neg (by omega)]
theorem Qg {on:List (Option Nat)}(hn:ns.length<=1000000)(ho:on.length<=1000000)(h:wy 2 ns on S=some S'):ab ba (on,ns,(),(on.length:Int) - 1,on,(on.length:Int),(0:Int),S)=some (on,S'):=by
 refine vQ (op:=2) (ns:=ns) on (λk S=>(on,ns,(),(on.length:Int) - 1,on,(on.length:Int),(k:Int),S)) (λS=>(on,S)) (λk x S S' hk hf=>?_) (λS=>?_) on.length 0 S S' rfl (Nat.zero_le _) (by rw [List.drop_zero];exact h)
 ·have vH:=(List.getElem?_eq_some_iff.1 hk).1;have lH:=SS (s:=on) (s':=on) (nn:=(on.length:Int)) (i':=(k:Int)) (last:=(on.length:Int) - 1) (i:=(k:Int)) hn (by
   by_cases e:k+1<on.length
   ·rw [decide_eq_true e,decide_eq_true (by omega)]
   ·rw [decide_eq_false e,decide_eq_false (by omega)]) hf
  simp only [ba,aa,ad,hk,bind_some];rw [if_pos (by omega),lH,bind_some];dsimp only;rw [cD (by omega) (by omega)];rfl
 ·simp only [ba,aa];rw [if_neg (by omega)]
theorem SU (hn:ns.length<=1000000)(l6:decide (i≠last)=cl)(h:nj (om 3 cl x) ns S=some S'):ab bC (s,ns,(),last,i,x,s',nn,i',(),(ns.length:Int),(0:Int),S)=some (s,ns,(),last,s',nn,i',S'):=by
 refine oU (f:=om 3 cl x) ns (λk S=>(s,ns,(),last,i,x,s',nn,i',(),(ns.length:Int),(k:Int),S)) (λS=>(s,ns,(),last,s',nn,i',S)) (λk v S S' hk hf=>?_) (λS=>?_) ns.length 0 S S' rfl (Nat.zero_le _) (by rw [List.drop_zero];exact h)
 ·have vH:=(List.getElem?_eq_some_iff.1 hk).1;simp only [bC,aa,ad,hk,bind_some,Int.toNat_natCast];rw [if_pos (by omega),<- aa,l6];cases cl with
  | true =>
   obtain⟨r,h1,h2⟩:=Option.bind_eq_some_iff.1 hf;have M8:a8 (x,r.1,r.2)=some S':=h2;rw [cond_true,h1,bind_some,M8,bind_some,cD (by omega) (by omega)];rfl
  | false =>
   obtain⟨j,rfl,h1⟩:=Option.bind_eq_some_iff.1 hf;obtain⟨e,h2,h3⟩:=Option.bind_eq_some_iff.1 h1;simp only [cond_false,bind_some,h2];cases hp:e.par with
   | none =>
    rw [hp] at h3;have KQ:a8 (x,some j,S)=some S':=h3;simp only [Option.isNone_none,Bool.not_true,cond_false];rw [KQ,bind_some,cD (by omega) (by omega)];rfl
   | some q =>
    rw [hp] at h3;obtain⟨T,h4,h5⟩:=Option.bind_eq_some_iff.1 h3;have Mv:a8 (x,some j,T)=some S':=h5;simp only [Option.isNone_some,Bool.not_false,cond_true];rw [h4,bind_some,Mv,bind_some,cD (by omega) (by omega)];rfl
 ·simp only [bC,aa];rw [if_neg (by omega)]
theorem Qh {on:List (Option Nat)}(hn:ns.length<=1000000)(ho:on.length<=1000000)(h:wy 3 ns on S=some S'):ab bc (on,ns,(),(on.length:Int) - 1,on,(on.length:Int),(0:Int),S)=some (on,S'):=by
 refine vQ (op:=3) (ns:=ns) on (λk S=>(on,ns,(),(on.length:Int) - 1,on,(on.length:Int),(k:Int),S)) (λS=>(on,S)) (λk x S S' hk hf=>?_) (λS=>?_) on.length 0 S S' rfl (Nat.zero_le _) (by rw [List.drop_zero];exact h)
 ·have vH:=(List.getElem?_eq_some_iff.1 hk).1;have lH:=SU (s:=on) (s':=on) (nn:=(on.length:Int)) (i':=(k:Int)) (last:=(on.length:Int) - 1) (i:=(k:Int)) hn (by
   by_cases e:k+1<on.length
   ·rw [decide_eq_true e,decide_eq_true (by omega)]
   ·rw [decide_eq_false e,decide_eq_false (by omega)]) hf
  simp only [bc,aa,ad,hk,bind_some];rw [if_pos (by omega),lH,bind_some];dsimp only;rw [cD (by omega) (by omega)];rfl
 ·simp only [bc,aa];rw [if_neg (by omega)]
theorem SV (hn:ns.length<=1000000)(l6:decide (i≠last)=cl)(h:nj (om 4 cl x) ns S=some S'):ab bD (s,ns,(),last,i,x,s',nn,i',ns,(ns.length:Int),(0:Int),S)=some (s,ns,(),last,s',nn,i',S'):=by
 refine oU (f:=om 4 cl x) ns (λk S=>(s,ns,(),last,i,x,s',nn,i',ns,(ns.length:Int),(k:Int),S)) (λS=>(s,ns,(),last,s',nn,i',S)) (λk v S S' hk hf=>?_) (λS=>?_) ns.length 0 S S' rfl (Nat.zero_le _) (by rw [List.drop_zero];exact h)
 ·have vH:=(List.getElem?_eq_some_iff.1 hk).1;simp only [bD,aa,ad,hk,bind_some,Int.toNat_natCast];rw [if_pos (by omega),<- aa,l6];cases cl with
  | true =>
   obtain⟨r,h1,h2⟩:=Option.bind_eq_some_iff.1 hf;have M8:aW (x,r.1,r.2)=some S':=h2;rw [cond_true,h1,bind_some,M8,bind_some,cD (by omega) (by omega)];rfl
  | false =>
   obtain⟨j,rfl,h1⟩:=Option.bind_eq_some_iff.1 hf;obtain⟨e,h2,h3⟩:=Option.bind_eq_some_iff.1 h1;simp only [cond_false,bind_some,h2];cases hp:e.par with
   | none =>
    rw [hp] at h3;have KQ:aW (x,some j,S)=some S':=h3;simp only [Option.isNone_none,Bool.not_true,cond_false];rw [KQ,bind_some,cD (by omega) (by omega)];rfl
   | some q =>
    rw [hp] at h3;obtain⟨T,h4,h5⟩:=Option.bind_eq_some_iff.1 h3;have Mv:aW (x,some j,T)=some S':=h5;simp only [Option.isNone_some,Bool.not_false,cond_true];rw [h4,bind_some,Mv,bind_some,cD (by omega) (by omega)];rfl
 ·simp only [bD,aa];rw [if_neg (by omega)]
theorem Qi {on:List (Option Nat)}(hn:ns.length<=1000000)(ho:on.length<=1000000)(h:wy 4 ns on S=some S'):ab bd (on,ns,(),(on.length:Int) - 1,on,(on.length:Int),(0:Int),S)=some (on,S'):=by
 refine vQ (op:=4) (ns:=ns) on (λk S=>(on,ns,(),(on.length:Int) - 1,on,(on.length:Int),(k:Int),S)) (λS=>(on,S)) (λk x S S' hk hf=>?_) (λS=>?_) on.length 0 S S' rfl (Nat.zero_le _) (by rw [List.drop_zero];exact h)
 ·have vH:=(List.getElem?_eq_some_iff.1 hk).1;have lH:=SV (s:=on) (s':=on) (nn:=(on.length:Int)) (i':=(k:Int)) (last:=(on.length:Int) - 1) (i:=(k:Int)) hn (by
   by_cases e:k+1<on.length
   ·rw [decide_eq_true e,decide_eq_true (by omega)]
   ·rw [decide_eq_false e,decide_eq_false (by omega)]) hf
  simp only [bd,aa,ad,hk,bind_some];rw [if_pos (by omega),lH,bind_some];dsimp only;rw [cD (by omega) (by omega)];rfl
 ·simp only [bd,aa];rw [if_neg (by omega)]
theorem Qj {on:List (Option Nat)}(hn:ns.length<=1000000)(ho:on.length<=1000000)(h:wy 1 ns on S=some S'):bG (on,ns,S)=some ((),S'):=by simp only [bG,cS,aQ,bL,bind_some,cond_false];rw [cD (by omega) (by omega),Qf hn ho h];rfl
theorem Qk {on:List (Option Nat)}(hn:ns.length<=1000000)(ho:on.length<=1000000)(h:wy 4 ns on S=some S'):ed (on,ns,S)=some ((),S'):=by simp only [ed,eA,aQ,bL,bind_some,cond_false];rw [cD (by omega) (by omega),Qi hn ho h];rfl
theorem Ql (s:List (Option Nat))(last:Int)(S:List HN):∀ (n:Nat) (A M C:List (Option Nat)),M.length<=n->A.length+M.length+C.length<=1000000 ->
  ab aS (s,A++M++C,(),last,(A.length:Int),((A.length+M.length:Nat):Int) - 1,S)=some (s,A++M.reverse++C,(),last,S):=by
 intro n
 induction n using Nat.strongRecOn with
 | _ n ih =>
  intro A M C hn hlen
  by_cases h2:M.length<=1
  ·have hr:M.reverse=M:=by
    match M,h2 with
    | [],_=>rfl
    | [a],_=>rfl
   refine ae ?_;simp only [aS,aa];rw [if_neg (by omega),hr]
  ·obtain⟨a,M',b,rfl⟩:∃ a M' b,M=a::(M'++[b]):=by
    match M,h2 with
    | [],h=>simp at h
    | a::M,h =>
     have eH:M≠[]:=λe=>by subst e;simp at h
     exact⟨a,M.dropLast,M.getLast eH,by rw [List.dropLast_concat_getLast eH]⟩
   simp only [List.length_cons,List.length_append,List.length_nil] at hn hlen;have ej:((A.length+(a::(M'++[b])).length:Nat):Int) - 1=((A.length+1+M'.length:Nat):Int):=by simp;omega
   rw [ej];have e0:A++a::(M'++[b])++C=A++a::(M'++b::C):=by simp
   rw [e0];have gi:(A++a::(M'++b::C))[A.length]?=some a:=by simp
   have gj:∀ a',(A++a'::(M'++b::C))[A.length+1+M'.length]?=some b:=λa'=>by rw [show A++a'::(M'++b::C)=(A++a'::M')++b::C by simp,List.getElem?_append_right (by simp;omega)];simp;rw [show A.length+1+M'.length - (A.length+(M'.length+1))=0 by omega];rfl
   have s1:(A++a::(M'++b::C)).set A.length b=A++b::(M'++b::C):=by rw [List.set_append_right _ _ (Nat.le_refl _)];simp
   have s2:(A++b::(M'++b::C)).set (A.length+1+M'.length) a=(A++[b])++M'++(a::C):=by rw [show A++b::(M'++b::C)=(A++b::M')++b::C by simp,List.set_append_right _ _ (by simp;omega)];rw [show A.length+1+M'.length - (A++b::M').length=0 by simp;omega];simp
   have step:aS (s,A++a::(M'++b::C),(),last,(A.length:Int),((A.length+1+M'.length:Nat):Int),S)=some (.nx (s,(A++[b])++M'++(a::C),(),last,((A++[b]).length:Int),(((A++[b]).length+M'.length:Nat):Int) - 1,S)):=by
    simp only [aS,aa,ad,Int.toNat_natCast,gi,gj,bind_some,s1,s2];rw [if_pos (by omega),cD (by omega) (by omega),cD (by omega) (by omega)];have h1:(A.length:Int)+1=((A++[b]).length:Int):=by simp
    have h2:((A.length+1+M'.length:Nat):Int) - 1=(((A++[b]).length+M'.length:Nat):Int) - 1:=by simp
    rw [h1,h2]
   rw [aj step,ih M'.length (by omega) (A++[b]) M' (a::C) (Nat.le_refl _) (by simp;omega)];simp
theorem Qm {on:List (Option Nat)}(hn:ns.length<=1000000)(ho:on.length<=1000000)(h:wy 2 ns.reverse on S=some S'):dX (on,ns,S)=some ((),S'):=by have hr:=Ql on ((on.length:Int) - 1) S ns.length [] ns [] (Nat.le_refl _) (by simp;omega);simp only [List.nil_append,List.append_nil,List.length_nil,Nat.zero_add] at hr;have yQ:ab aS (on,ns,(),(on.length:Int) - 1,(0:Int),(ns.length:Int) - 1,S)=_:=hr;simp only [dX,ew,aQ,bL,bind_some,cond_true];rw [cD (n:=(on.length:Int) - 1) (by omega) (by omega),cD (n:=(ns.length:Int) - 1) (by omega) (by omega),yQ,bind_some];simp only [];rw [Qg (by simpa using hn) ho h];rfl
theorem Qn (s:List (Option Nat))(last:Int)(S:List HN):∀ (n:Nat) (A M C:List (Option Nat)),M.length<=n->A.length+M.length+C.length<=1000000 ->
  ab aT (s,A++M++C,(),last,(A.length:Int),((A.length+M.length:Nat):Int) - 1,S)=some (s,A++M.reverse++C,(),last,S):=by
 intro n
 induction n using Nat.strongRecOn with
 | _ n ih =>
  intro A M C hn hlen
  by_cases h2:M.length<=1
  ·have hr:M.reverse=M:=by
    match M,h2 with
    | [],_=>rfl
    | [a],_=>rfl
   refine ae ?_;simp only [aT,aa];rw [if_neg (by omega),hr]
  ·obtain⟨a,M',b,rfl⟩:∃ a M' b,M=a::(M'++[b]):=by
    match M,h2 with
    | [],h=>simp at h
    | a::M,h =>
     have eH:M≠[]:=λe=>by subst e;simp at h
     exact⟨a,M.dropLast,M.getLast eH,by rw [List.dropLast_concat_getLast eH]⟩
   simp only [List.length_cons,List.length_append,List.length_nil] at hn hlen;have ej:((A.length+(a::(M'++[b])).length:Nat):Int) - 1=((A.length+1+M'.length:Nat):Int):=by simp;omega
   rw [ej];have e0:A++a::(M'++[b])++C=A++a::(M'++b::C):=by simp
   rw [e0];have gi:(A++a::(M'++b::C))[A.length]?=some a:=by simp
   have gj:∀ a',(A++a'::(M'++b::C))[A.length+1+M'.length]?=some b:=λa'=>by rw [show A++a'::(M'++b::C)=(A++a'::M')++b::C by simp,List.getElem?_append_right (by simp;omega)];simp;rw [show A.length+1+M'.length - (A.length+(M'.length+1))=0 by omega];rfl
   have s1:(A++a::(M'++b::C)).set A.length b=A++b::(M'++b::C):=by rw [List.set_append_right _ _ (Nat.le_refl _)];simp
   have s2:(A++b::(M'++b::C)).set (A.length+1+M'.length) a=(A++[b])++M'++(a::C):=by rw [show A++b::(M'++b::C)=(A++b::M')++b::C by simp,List.set_append_right _ _ (by simp;omega)];rw [show A.length+1+M'.length - (A++b::M').length=0 by simp;omega];simp
   have step:aT (s,A++a::(M'++b::C),(),last,(A.length:Int),((A.length+1+M'.length:Nat):Int),S)=some (.nx (s,(A++[b])++M'++(a::C),(),last,((A++[b]).length:Int),(((A++[b]).length+M'.length:Nat):Int) - 1,S)):=by
    simp only [aT,aa,ad,Int.toNat_natCast,gi,gj,bind_some,s1,s2];rw [if_pos (by omega),cD (by omega) (by omega),cD (by omega) (by omega)];have h1:(A.length:Int)+1=((A++[b]).length:Int):=by simp
    have h2:((A.length+1+M'.length:Nat):Int) - 1=(((A++[b]).length+M'.length:Nat):Int) - 1:=by simp
    rw [h1,h2]
   rw [aj step,ih M'.length (by omega) (A++[b]) M' (a::C) (Nat.le_refl _) (by simp;omega)];simp
theorem CF {on:List (Option Nat)}(hn:ns.length<=1000000)(ho:on.length<=1000000)(h:wy 3 ns.reverse on S=some S'):dh (on,ns,S)=some ((),S'):=by have hr:=Qn on ((on.length:Int) - 1) S ns.length [] ns [] (Nat.le_refl _) (by simp;omega);simp only [List.nil_append,List.append_nil,List.length_nil,Nat.zero_add] at hr;have yQ:ab aT (on,ns,(),(on.length:Int) - 1,(0:Int),(ns.length:Int) - 1,S)=_:=hr;simp only [dh,ey,aQ,bL,bind_some,cond_true];rw [cD (n:=(on.length:Int) - 1) (by omega) (by omega),cD (n:=(ns.length:Int) - 1) (by omega) (by omega),yQ,bind_some];simp only [];rw [Qh (by simpa using hn) ho h];rfl
end
section
variable {Q:Int×Node->HN->Prop}{D:Nat->Prop}{φ:Nat->Nat}{op:Int}{F F1 F' G H:Fo}{P P1 P':Nat->Int×Node}{M:Nat->HN}{n x p c:Nat}{A B l ws cs aI:List Nat}
theorem Ij (hH:H.ok)(hc:c<H.m)(h:Sp F (H.off [c]) p c A B)(hp:Ie op x p A B):om op false (some x) (some c) (H.st M)=some (F.st M):=by
 have hg:=Fo.get (F:=H) (L:=M) hc;have mW:=Lq (L:=M) h hp;simp only [om,cond_false,bind_some,hg];cases hu:H.up c with
 | none =>
  have t_:(H.a7 M c).par=none:=hu;rw [t_,yH hH hu] at *;simp only [Option.isNone_none,cond_true,mW]
 | some q =>
  have t_:(H.a7 M c).par=some q:=hu;rw [t_];simp only [Option.isNone_some,cond_false,yK hH hu,bind_some,mW]
theorem Ik {A:List Nat}:A.filter (λj=>decide (j∉([]:List Nat)))=A:=by simp
theorem FW (hk:F.kids p=A++B):vh F p A [] B=F:=by unfold vh;rw [tv,Ik,Ik,lX hk]
theorem Il (hk:F.kids p=A++B):(F.off l).kids p=(A.filter λj=>decide (j∉l))++(B.filter λj=>decide (j∉l)):=by simp only [Fo.off,hk,List.filter_append]
theorem FY (hF:F.ok)(hp:p<F.m)(hk:F.kids p=A++B)(h1:∀ c∈l,c<F.m/\p≠c)(h2:l.Nodup):(vh F p A l B).ok :=
 o6 (jz hF) hp (Il hk) l (λc hc=>⟨(h1 c hc).1,by simp [Fo.off,hc],(h1 c hc).2⟩) h2
theorem SW {m:List Nat}(hm:∀ j,j∈m↔j=c∨j∈l)(l6:c∉l):(vh F p A l B).off [c]=(F.off m).br p (A.filter λj=>decide (j∉m)) l (B.filter λj=>decide (j∉m)):=by
 have hf:∀ X:List Nat,(X.filter λj=>decide (j∉l)).filter (λj=>decide (j∉[c]))=X.filter λj=>decide (j∉m):=λX=>by
  rw [List.filter_filter]
  congr 1
  funext j
  have:=hm j
  by_cases e:j=c <;> by_cases e2:j∈l <;> simp [e,e2,this] <;> simp_all
 have hl:l.filter (λj=>decide (j∉[c]))=l:=List.filter_eq_self.2 λj hj=>by
  have:j≠c:=λe=>l6 (e ▸ hj)
  simpa using this
 refine Fo.ext rfl (λi=>?_) (λi=>?_)
 ·have:=hm i
  simp only [vh,Fo.off,Fo.br,List.mem_singleton,this]
  by_cases e:i=c
  ·subst e;simp [l6]
  ·by_cases e2:i∈l <;> simp [e,e2]
 ·simp only [vh,Fo.br]
  by_cases e:i=p
  ·simp only [Fo.off,if_pos e,List.filter_append,hf,hl]
  ·simp only [Fo.off,if_neg e,hf]
theorem Qo {a b m:List Nat}(hF:F.ok)(hp:p<F.m)(hk:F.kids p=A++B)(hl:l=a++b)(hm:m=a++c::b)(h1:∀ d∈m,d<F.m/\p≠d)(h2:m.Nodup) :
  Sp (vh F p A m B) ((vh F p A l B).off [c]) p c ((A.filter λj=>decide (j∉m))++a) (b++B.filter λj=>decide (j∉m)):=by
 have sj:∀ j,j∈m↔j=c∨j∈l:=λj=>by subst hl;subst hm;simp;constructor <;> (rintro (h | h | h) <;> simp [h])
 have my:(c::l).Nodup:=by subst hl;subst hm;exact (List.perm_middle.nodup_iff).1 h2
 obtain⟨l6,Hh⟩:=List.nodup_cons.1 my;have hc:=h1 c ((sj c).2 (.inl rfl));have ok1:=FY hF hp hk (λd hd=>h1 d ((sj d).2 (.inr hd))) Hh;have ok2:=jz (l:=[c]) ok1;have e:=SW (F:=F) (p:=p) (A:=A) (B:=B) sj l6;rw [e] at ok2 ⊢;have h:=Sp.ins (p:=p) (c:=c) (A:=(A.filter λj=>decide (j∉m))++a) (B:=b++B.filter λj=>decide (j∉m)) ok2 hp hc.1 (show (if c∈l then some p else if c∈m then none else F.up c)=none by rw [if_neg l6,if_pos ((sj c).2 (.inl rfl))]) hc.2 (show (if p=p then _ else _)=_ by rw [if_pos rfl,hl];simp);have e2:((F.off m).br p (A.filter λj=>decide (j∉m)) l (B.filter λj=>decide (j∉m))).eG p ((A.filter λj=>decide (j∉m))++a++c::(b++B.filter λj=>decide (j∉m))) c (some p)=vh F p A m B:=Fo.ext rfl (λi=>by
  have:=sj i
  simp only [vh,Fo.eG,Fo.br,Fo.off,this]
  by_cases e:i=c <;> by_cases e2:i∈l <;> simp [e,e2]) (λi=>by
  simp only [vh,Fo.eG,Fo.br]
  by_cases e:i=p
  ·simp only [if_pos e,hm];simp
  ·simp only [if_neg e])
 rw [e2] at h;exact h
theorem Lt (hG:G.ok)(hp:Pl op G x p A B)(ho:fwd op):∀ (Im pre:List Nat),(∀ d∈pre++Im,d<G.m/\p≠d/\x≠d)->(pre++Im).Nodup->nj (om op false (some x)) (Im.map some) ((vh G p A pre B).st M)=some ((vh G p A (pre++Im) B).st M)
 | [],pre,_,_=>by rw [List.append_nil];rfl
 | c::Im,pre,h1,h2=>by
  have e1:pre++c::Im=(pre++[c])++Im:=by simp
  have rp:(pre++[c]).Nodup:=by rw [e1] at h2;exact (List.nodup_append.1 h2).1
  have hd:∀ d∈pre++[c],d<G.m/\p≠d/\x≠d:=λd hd=>h1 d (by rw [e1];exact List.mem_append_left _ hd)
  have lC:=Qo (F:=G) (A:=A) (B:=B) (a:=pre) (b:=[]) (m:=pre++[c]) (l:=pre) (c:=c) hG hp.hp hp.hk (by simp) rfl (λd h=>⟨(hd d h).1,(hd d h).2.1⟩) rp;have lI:=FY hG hp.hp hp.hk (l:=pre) (λd h=>⟨(hd d (by simp [h])).1,(hd d (by simp [h])).2.1⟩) (List.nodup_append.1 rp).1;have hx:x∉pre++[c]:=λh=>(hd x h).2.2 rfl
  rw [List.nil_append] at lC;have mW:=Ij (M:=M) (H:=vh G p A pre B) lI (hd c (by simp)).1 lC ((hp.hc.M4 hx).fw ho);show (om op false (some x) (some c) ((vh G p A pre B).st M)).bind _=_;rw [mW,bind_some,e1];exact Lt hG hp ho Im (pre++[c]) (by rw [<- e1];exact h1) (by rw [<- e1];exact h2)
theorem F4 (hG:G.ok)(hp:Pl op G x p A B)(ho:¬ fwd op):∀ (Im pre:List Nat),(∀ d∈Im.reverse++pre,d<G.m/\p≠d/\x≠d)->(Im.reverse++pre).Nodup->nj (om op false (some x)) (Im.map some) ((vh G p A pre B).st M)=some ((vh G p A (Im.reverse++pre) B).st M)
 | [],pre,_,_=>rfl
 | c::Im,pre,h1,h2=>by
  have e1:(c::Im).reverse++pre=Im.reverse++(c::pre):=by simp
  have rp:(c::pre).Nodup:=by rw [e1] at h2;exact (List.nodup_append.1 h2).2.1
  have hd:∀ d∈c::pre,d<G.m/\p≠d/\x≠d:=λd hd=>h1 d (by rw [e1];exact List.mem_append_right _ hd)
  have lC:=Qo (F:=G) (A:=A) (B:=B) (a:=[]) (b:=pre) (m:=c::pre) (l:=pre) (c:=c) hG hp.hp hp.hk rfl rfl (λd h=>⟨(hd d h).1,(hd d h).2.1⟩) rp;have lI:=FY hG hp.hp hp.hk (l:=pre) (λd h=>⟨(hd d (by simp [h])).1,(hd d (by simp [h])).2.1⟩) (List.nodup_cons.1 rp).2;have hx:x∉c::pre:=λh=>(hd x h).2.2 rfl
  rw [List.append_nil] at lC;have mW:=Ij (M:=M) (H:=vh G p A pre B) lI (hd c (by simp)).1 lC ((hp.hc.M4 hx).bw ho);show (om op false (some x) (some c) ((vh G p A pre B).st M)).bind _=_;rw [mW,bind_some,e1];exact F4 hG hp ho Im (c::pre) (by rw [<- e1];exact h1) (by rw [<- e1];exact h2)
theorem qB.M4 (h:qB Q D φ F P G M){X:List Nat}(hX:∀ c∈X,D c)(hl:∀ c∈l,D c):(X.map φ).filter (λj=>decide (j∉l.map φ))=(X.filter λj=>decide (j∉l)).map φ:=by
 rw [List.filter_map]
 congr 1
 refine List.filter_congr λj hj=>?_
 simp only [Function.comp,h.mem (hX j hj) hl]
theorem qB.vh (h:qB Q D φ F P G M)(hp:D p)(hk:F.kids p=A++B)(hl:∀ c∈l,D c/\p≠c)(hn:l.Nodup):qB Q D φ (vh F p A l B) P (vh G (φ p) (A.map φ) (l.map φ) (B.map φ)) M:=by
 have NF:∀ c∈l,D c:=λc hc=>(hl c hc).1
 have h1:=(h.off (l:=l) NF).br hp (Il hk) (λc hc=>⟨NF c hc,if_pos hc,(hl c hc).2⟩) hn;have hd:=h.dk p hp;rw [hk] at hd;rw [<- h.M4 (λc hc=>hd c (by simp [hc])) NF,<- h.M4 (λc hc=>hd c (by simp [hc])) NF] at h1;exact h1
structure Zu (F1:Fo)(P1:Nat->Int×Node)(n w c s:Nat):Prop where
 hi:c+s<=F1.m
 pos:0<s
 up:F1.up c=none
 ids:cd F1.kids n c=List.range' c s
 cp:Ag F1 (QV P1 λy=>(P1 y).2) F1.kids c (c+s) n c w
def YD (t t':Nat×Nat×Nat):Prop:=t.2.1+t.2.2<=t'.2.1∨t'.2.1+t'.2.2<=t.2.1
theorem SK.trp (h:SK ws F P cs F1 P1)(hb:lY=n):F.ok->(∀ w∈ws,w<F.m)->∃ T:List (Nat×Nat×Nat),T.map (·.1)=ws/\T.map (·.2.1)=cs/\(∀ t∈T,Zu F1 P1 n t.1 t.2.1 t.2.2/\F.m<=t.2.1)/\T.Pairwise YD/\∀ i,F.m<=i->i<F1.m->∃ t∈T,t.2.1<=i/\i<t.2.1+t.2.2:=by
 induction h with
 | nil=>exact λ_ _=>⟨[],rfl,rfl,by simp, .nil,λi h1 h2=>by omega⟩
 | @cons w ws cs F F1 F2 P P1 P2 h t ih =>
  intro hF hw;obtain⟨rp,BJ⟩:=h.n;rw [hb] at rp BJ;have jC:F.m<F1.m:=by
   cases n with
   | zero=>exact rp.elim
   | succ n=>exact rp.1.2
  have QI:∀ v∈ws,v<F1.m:=λv hv=>Nat.lt_of_lt_of_le (hw v (by simp [hv])) h.ext.m
  obtain⟨T,g1,g2,g3,g4,g5⟩:=ih h.ext.ok QI;obtain⟨x1,_,_,_⟩:=t.facts h.ext.ok QI;have hm:=x1.m;have es:F.m+(F1.m - F.m)=F1.m:=by omega
  refine⟨(w,F.m,F1.m - F.m)::T,by simp [g1],by simp [g2],λu hu=>?_,List.pairwise_cons.2 ⟨λu hu => .inl ?_,g4⟩,λi h1 h2=>?_⟩
  ·rcases List.mem_cons.1 hu with rfl | hu
   ·refine⟨⟨by simp only [];omega,by simp only [];omega,by simp only [];rw [(x1.fe F.m jC).1];exact h.up,?_,?_⟩,Nat.le_refl _⟩
    ·simp only [];rw [<- BJ];exact vO (λi _ h2=>(x1.fe i h2).2.1) rp
    ·simp only [];rw [es];refine Ag.mono (Q:=λy=>y<F.m) (Nat.le_refl _) (Nat.le_refl _) (λi _ h2=>(x1.fe i h2).2.1) (λi y h1 h2 hy hr=>?_) (λy hy=>?_) (λy hy z hz=>(hF.iG hz).2) (hw w (by simp)) rp
     ·show P2 i=(-1,(P2 y).2);rw [(x1.fe i h2).2.2,(x1.fe y (by omega)).2.2,(h.ext.fe y hy).2.2];exact hr
     ·rw [(x1.fe y (by omega)).2.1,(h.ext.fe y hy).2.1]
   ·exact⟨(g3 u hu).1,by have:=(g3 u hu).2;omega⟩
  ·have:=(g3 u hu).2
   simp only [];omega
  ·by_cases e:i<F1.m
   ·exact⟨_,List.mem_cons_self,by simp only [];omega⟩
   ·obtain⟨u,hu,h3⟩:=g5 i (by omega) h2;exact⟨u,List.mem_cons_of_mem _ hu,h3⟩
end
end Go.Proofs.YtngabkipchpmpaaGreat.V
