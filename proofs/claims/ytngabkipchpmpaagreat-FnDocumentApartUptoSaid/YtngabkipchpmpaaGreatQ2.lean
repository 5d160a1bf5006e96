/-
  Plain facts and an evaluator for what a law needs.
-/
import Derived.Test.YtngabkipchpmpaaGreatQ1
set_option linter.unusedVariables false
set_option linter.unusedSimpArgs false
namespace Go.Proofs.YtngabkipchpmpaaGreat.V
open Go K
def Ow (P:Program)(T:TypeId):Sh->Prop
 | .bool=>P.underlying T=some .bool
 | .int k=>P.underlying T=some (.int k)
 | .str=>P.underlying T=some .string
 | .slice e=>P.underlying T=some (.slice e)
 | .struct fs=>∃ a:Array Field,P.underlying T=some (.struct a)/\fs=a.toList.map λf=>(f.type,f.offset)
 | .ptr e=>P.underlying T=some (.pointer e)
 | .map k v=>P.underlying T=some (.map k v)
 | .iface=>∃ ms,P.underlying T=some (.interface ms)
 | .func=>∃ a b c,P.underlying T=some (.func a b c)
 | .other=>True
structure L8 (P:Program)(T:TypeId)(t:TI):Prop where
 fA:Ow P T t.sh
 sM:∀ w,(sizeOf T).run P w = .ok t.size w
 agg:∀ w,(isAgg T).run P w = .ok t.agg w
 J7:∀ w,(zeroValue T).run P w = .ok t.zv w
 zc:t.zv.cells.size=t.size
 inf:∃ i:TypeInfo,(∀ w,(typeInfo T).run P w = .ok i w)/\i.bytes=t.bytes
def UO (P:Program)(tb:List (Option TI)):Prop:=∀ T t,tb[T]?=some (some t)->L8 P T t
def Jb (P:Program)(T:TypeId)(n:String)(f:FuncId):Prop:=∃ (i:TypeInfo) (m:Method) (e:TypeId),(∀ w,(typeInfo T).run P w = .ok i w)/\i.methods.find? (λx=>x.name == n)=some m/\m.path=#[]/\m.func=some (f,true)/\P.underlying T=some (.pointer e)
def Rm (P:Program)(T U:TypeId):Prop:=∃ (i:TypeInfo) (want:Array (String×TypeId)),(∀ w,(typeInfo T).run P w = .ok i w)/\P.underlying U=some (.interface want)/\Instr.missingMethod want i.methods=none
def ZV (P:Program)(C:Cx):Prop:=(∀ q∈C.ID,Jb P q.1 q.2.1 q.2.2)/\∀ q∈C.LZ,Rm P q.1 q.2
def vY (P:Program)(C:Cx):Prop:=UO P C.tb/\ZV P C
theorem Ox {P:Program}{C:Cx}(hT:vY P C){f:Nat}{n:String}{q:TypeId×String×FuncId}(h:Ob C f n=some q):Jb P q.1 n q.2.2/\f=I4 q.1:=by unfold Ob at h;have h1:=List.find?_some h;simp only [Bool.and_eq_true,beq_iff_eq] at h1;have h2:=hT.2.1 q (List.mem_of_find?_eq_some h);rw [h1.2] at h2;exact⟨h2,h1.1.symm⟩
theorem Rn {T T':Nat}(h:I4 T=I4 T'):T=T':=by unfold I4 at h;omega
theorem EK.W4 {T B:Nat}{cs:List Value}{v:Value}(h:EK (I4 T) B cs v):v = .iface T (.pointer (some ⟨B,0,none⟩)):=by
 rcases h with⟨h,_⟩ | ⟨T',h,rfl⟩ | ⟨T',c,h,_⟩
 ·have:WS<=I4 T:=by unfold I4;omega
  have h2:(1000000:Nat)<=WS:=by decide
  omega
 ·rw [Rn h]
 ·unfold I4 ZM at h;omega
theorem EK.W5 {f B:Nat}{cs:List Value}{v:Value}(hf:f<1000000)(h:EK f B cs v):v = .func (.func f) #[] (Value.pointer (some ⟨B,0,none⟩)::cs).toArray:=by
 have h2:(1000000:Nat)<=WS:=by decide
 rcases h with⟨_,h⟩ | ⟨T',h,rfl⟩ | ⟨T',c,h,_⟩
 ·exact h
 ·unfold I4 at h;omega
 ·unfold ZM at h;omega
theorem EK.W6 {f B:Nat}{cs:List Value}(hf:f<1000000):EK f B cs (.func (.func f) #[] (Value.pointer (some ⟨B,0,none⟩)::cs).toArray) := .inl ⟨hf,rfl⟩
theorem EK.W7 {T B:Nat}{cs:List Value}:EK (I4 T) B cs (.iface T (.pointer (some ⟨B,0,none⟩))) := .inr (.inl ⟨T,rfl,rfl⟩)
theorem Jc (P:Program):∃ k,P.types.size+Made.depth=k+1:=by
 have:0<Made.depth:=by decide
 exact⟨P.types.size+(Made.depth - 1),by omega⟩
theorem Jd {P:Program}{T:TypeId}{n:String}{f:FuncId}(h:Jb P T n f)(k:Nat)(v:Value)(w:World):(method (k+1) T v n).run P w = .ok (f,v) w:=by obtain⟨i,m,e,h1,h2,h3,h4,h5⟩:=h;simp [method,h1,h2,h3,h4,follow,receiverAt,run_underlying h5,Place.get]
theorem cK {P:Program}{C:Cx}(hT:vY P C){T:TypeId}{t:TI}(h:ti C T=some t):L8 P T t:=by
 unfold ti at h;cases h1:C.tb[T]? with
 | none=>rw [h1] at h;cases h
 | some x =>
  rw [h1] at h;cases x with
  | none=>cases h
  | some y=>cases h;exact hT.1 T _ h1
section
variable {P:Program}{C:Cx}{R:Type}{F F':iH}{ι ι':Gh}{s s':St}{ρ:List Value}{d:D}{v:Value}{t:Nat}{L0:List gJ}{r:R}{dst:Option Tmp}{ty:TypeId}{p:String}{af:Array Edge}{gd:Option (Nat×Bool)}
theorem Rd.f2:∀ {ds:List D} {vs:List Value},Rd F ds vs->F2 (jM F ι) ds vs
 | [],vs,h=>by cases h;exact .nil
 | d::ds,vs,h=>by obtain⟨v,BA,rfl,h1,h2⟩:=h.az;exact .cons (.aU h1) h2.f2
theorem F2.rd:∀ {ds:List D} {vs:List Value},F2 (jM F ι) ds vs->ds.all D.plain=true->Rd F ds vs
 | _,_, .nil,_ => .nil
 | _,_, .cons h t,hp=>by simp only [List.all_cons,Bool.and_eq_true] at hp;exact (h.mn hp.1).cons (t.rd hp.2)
theorem F2.drop {α β:Type}{R:α->β->Prop}:∀ {l:List α} {m:List β} (n:Nat),F2 R l m->F2 R (l.drop n) (m.drop n)
 | _,_,0,h=>h
 | _,_,_+1, .nil => .nil
 | _,_,n+1, .cons _ t=>t.drop n
theorem F2.take {α β:Type}{R:α->β->Prop}:∀ {l:List α} {m:List β} (n:Nat),F2 R l m->F2 R (l.take n) (m.take n)
 | _,_,0,_ => .nil
 | _,_,_+1, .nil => .nil
 | _,_,n+1, .cons h t => .cons h (t.take n)
theorem F2.append {α β:Type}{R:α->β->Prop}:∀ {l l':List α} {m m':List β},F2 R l m->F2 R l' m'->F2 R (l++l') (m++m')
 | _,_,_,_, .nil,h=>h
 | _,_,_,_, .cons h t,h' => .cons h (t.append h')
theorem uz {h:Array Obj}{B:Nat}:∀ {cs:List Value} {off n:Nat},bm h B off cs->bm h B (off+n) (cs.drop n)
 | cs,off,0,hc=>hc
 | [],off,n+1,_=>trivial
 | c::cs,off,n+1,hc=>by rw [show off+(n+1)=off+1+n by omega];exact uz hc.2
theorem uA {h:Array Obj}{B:Nat}:∀ {cs:List Value} {off n:Nat},bm h B off cs->bm h B off (cs.take n)
 | cs,off,0,hc=>trivial
 | [],off,n+1,_=>trivial
 | c::cs,off,n+1,hc=>⟨hc.1,uA hc.2⟩
theorem wE {h:Array Obj}{B:Nat}{cs:List Value}{off i:Nat}{v:Value}(hc:bm h B off cs)(hi:cs[i]?=some v):K.cell h ⟨B,off+i,none⟩=some v:=rQ.1 hc i v hi
theorem ld {T:TypeId}{x:Operand}{K:D->Option R}{ds:List D}{off o B:Nat}{Tp:TI}{cs:List Value}(hk:L8 P T Tp)(nq:F2 (jM F ι) ds cs)(hx:ev ρ x = .pointer (some ⟨B,o+off,none⟩))(hB:∀ h,Hp h F (lv ι s.ow++L0)->bm h B o cs)(h:rA ds off Tp K=some r) :
  ∃ v d,(∀ h,Hp h F (lv ι s.ow++L0)->Pu P ρ ⟨dst, .load T x,ty,p,af,gd⟩ h v)/\kQ F ι d v/\K d=some r:=by
 unfold rA at h;cases ha:Tp.agg with
 | true =>
  rw [ha] at h;simp only [cond_true] at h;cases hc:(Nat.ble (off+Tp.size) ds.length && ((ds.drop off).take Tp.size).all D.plain) with
  | false=>rw [hc] at h;cases h
  | true =>
   rw [hc] at h;simp only [cond_true] at h;rw [Bool.and_eq_true,Nat.ble_eq] at hc;have hl:=bz nq
   haveI:V_ P T true:=⟨λw=>by rw [hk.agg w,ha]⟩
   haveI:se P T Tp.size:=⟨hk.sM⟩
   refine⟨.agg ((cs.drop off).take Tp.size).toArray,_,λhh hm=>?_, .aU (.agg ((nq.drop off).take Tp.size |>.rd hc.2) .nil),h⟩;exact IU hx (by simp;omega) (uA (uz (hB hh hm)))
 | false =>
  rw [ha] at h;simp only [cond_false] at h;cases hd:ds[off]? with
  | none=>rw [hd] at h;cases h
  | some d =>
   rw [hd] at h;obtain⟨v,hv,hr⟩:=gq nq hd
   haveI:V_ P T false:=⟨λw=>by rw [hk.agg w,ha]⟩
   exact⟨v,d,λhh hm=>J9 hx (wE (hB hh hm) hv), .jd hr,h⟩
theorem UP {T ft fo:Nat}{i:Nat}{fs:List (TypeId×Nat)}(hu:Ow P T (.struct fs))(hi:fs[i]?=some (ft,fo)):Fld P T i ft fo:=by
 obtain⟨a,h1,rfl⟩:=hu;rw [List.getElem?_map] at hi;cases hf:a.toList[i]? with
 | none=>rw [hf] at hi;cases hi
 | some f =>
  rw [hf] at hi;cases hi;exact⟨a,f,h1,by simpa using hf,rfl,rfl⟩
theorem Rd.qd {ds:List D}(h:Rd F [.agg ds] [v]):∃ cs:List Value,v = .agg cs.toArray/\Rd F ds cs:=by
 cases h with
 | agg h1 _=>exact⟨_,rfl,h1⟩
theorem Rd.c_ {k:IntKind}{n:Int}(h:Rd F [.int k n] [v]):v = .int k n:=by cases h;rfl
theorem Rd.iD {b:Bool}(h:Rd F [.bool b] [v]):v = .bool b:=by cases h;rfl
theorem Rd.Oy {c:UInt8}{vs:List Value}(h:Rd F (E.u8.enc c) vs):vs=[jY c]:=by obtain⟨v,BA,rfl,h1,h2⟩:=h.az;cases h2;rw [Rd.c_ h1];rfl
theorem x6 {h:Array Obj}{B:Nat}:∀ {l:List UInt8} {off:Nat},(∀ i c,l[i]?=some c->K.cell h ⟨B,off+i,none⟩=some (jY c))->bm h B off (l.map jY)
 | [],_,_=>trivial
 | c::l,off,hc=>⟨by have:=hc 0 c rfl;simpa using this,x6 λi c' hi=>by
  have:=hc (i+1) c' (by simpa using hi)
  rwa [show off+1+i=off+(i+1) by omega]⟩
theorem G5 {S T e:TypeId}[gD P S (.slice e)][gD P T .string][gD P e (.int .u8)]{h:Array Obj}{x:Operand}{q:Option Addr}{cp:Nat}{l:List UInt8}(hx:ev ρ x = .slice q l.length cp)(hc:∀ i c,l[i]?=some c->q=some ⟨lb q,ka q,none⟩/\K.cell h ⟨lb q,ka q+i,none⟩=some (jY c)):Pu P ρ ⟨dst, .convert S T x,ty,p,af,gd⟩ h (bs l):=by
 cases l with
 | nil =>
  cases q with
  | none=>exact Ka (e:=e) hx
  | some a =>
   obtain⟨B,off,sp⟩:=a;exact Ra (e:=e) hx
 | cons c l =>
  obtain⟨h1,_⟩:=hc 0 c rfl;refine Ux (e:=e) (B:=lb q) (off:=ka q) (by rw [hx];congr 1) (x6 λi c hi=>(hc i c hi).2)
theorem Rd.g_ {l:List UInt8}(h:Rd F [.str l] [v]):v=bs l:=by cases h;rfl
theorem Rd.nH (h:Rd F [.nil] [v]):v = .slice none 0 0:=by cases h;rfl
theorem za {h:Array Obj}{sz T n cp i B:Nat}{Lv:List gJ}{rows:List (List Value)}{r:List Value}(hs:yO sz T (some ⟨B,0,none⟩) n cp Lv rows)(hi:rows[i]?=some r)(hB:∀ p∈Lv,vW h[p.1]? p):bm h B (i*sz) r:=by
 obtain⟨pre,post,e1,e2⟩:=qG hs.row hi;rcases hs.sh with⟨he,_,_⟩ | ⟨B',n',cap,spare,he,hL,_,_,_⟩
 ·cases he
 ·cases he;obtain⟨fz,_,this⟩:=(hB (B,rows.flatten++spare,BT.c T) (by rw [hL];simp)).cells;simp only at this;rw [e1] at this;exact fg r pre (post++spare) _ (by show h[B]?=_;simpa using this) (by omega)
theorem jM.Oz {B o:Nat}(h:(ι t).1 = .pointer (some ⟨B,0,none⟩)):jM F ι (.op t o) (.pointer (some ⟨B,o,none⟩)):=⟨B,h,rfl⟩
theorem jM.UQ {B n cp z i o a:Nat}(h:(ι t).1 = .slice (some ⟨B,0,none⟩) n cp)(ha:a=i*z+o):jM F ι (.oe t z i o) (.pointer (some ⟨B,a,none⟩)):=⟨B,n,cp,h,by rw [ha]⟩
theorem jM.UR {B i o a:Nat}(hB:F.fF i=some B)(ha:a=o):jM F ι (.nf i o) (.pointer (some ⟨B,a,none⟩)):=⟨B,hB,by rw [ha]⟩
theorem jM.Ks {hd:List Value}{B n cp z i j o a:Nat}(h1:(ι NT).1 = .tuple hd.toArray)(h2:hd[i]?=some (.slice (some ⟨B,0,none⟩) n cp))(ha:a=j*z+o):jM F ι (.Ap z i j o) (.pointer (some ⟨B,a,none⟩)):=⟨hd,B,n,cp,h1,h2,by rw [ha]⟩
theorem Rd.zb {o:Option Nat}(h:Rd F [.np o] [v]):∃ a,v = .pointer a:=by
 cases h with
 | I_ _=>exact⟨_,rfl⟩
 | Gr _ _=>exact⟨_,rfl⟩
theorem OA {o o':Option Nat}{a a':Option Addr}(h:Rd F [.np o] [.pointer a])(h':Rd F [.np o'] [.pointer a']):(a=a')↔(o=o'):=by
 cases h with
 | I_ _ =>
  cases h' with
  | I_ _=>simp
  | Gr _ _=>simp
 | Gr hB _ =>
  cases h' with
  | I_ _=>simp
  | Gr L9 _ =>
   constructor
   ·intro e;cases e;rw [F.inj _ _ _ hB L9]
   ·intro e;cases e;rw [hB] at L9;cases L9;rfl
theorem G6 {kt e:TypeId}{n:Nat}[gD P kt (.pointer e)][se P e n](hn:n≠0){h:Array Obj}{L:List gJ}(hm:Hp h F L){w:World}(hw:w.heap=h){o o':Option Nat}{a a':Option Addr}(h1:Rd F [.np o] [.pointer a])(h2:Rd F [.np o'] [.pointer a']):(Op.equal kt (.pointer a) (.pointer a')).run P w = .ok (decide (a=a')) w:=by
 cases h1 with
 | I_ _ =>
  rw [LV (P:=P) (T:=kt) (e:=e) hn];simp [eq_comm]
 | Gr hB _ =>
  cases h2 with
  | I_ _=>exact IZ (P:=P) (T:=kt) (e:=e) hn _ w
  | Gr L9 _ =>
   obtain⟨c1,t1,l1,_⟩:=hm.live _ (F.Ol _ _ hB);obtain⟨c2,t2,l2,_⟩:=hm.live _ (F.Ol _ _ L9);rw [Bs (P:=P) (T:=kt) (e:=e) hn (ca:=c1.toList) (cb:=c2.toList) w (by rw [hw];simpa using l1) (by rw [hw];simpa using l2)];simp
def Kt (a:Option Addr):Value->Bool
 | .pointer a'=>decide (a=a')
 | _=>false
theorem Ku {o:Option Nat}{a:Option Addr}(ho:Rd F [.np o] [.pointer a]):∀ {l:List (Option Nat×Bool)} {cs:List Value} (i j:Nat),Rd F (QG l) cs->(match findD (Kt a) (jP cs i) j with | some r=>r.2 | none => .bool false) = .bool (yX l o)
 | [],_,i,j,h=>by cases h;rfl
 | p::l,_,i,j,h=>by
  obtain⟨k,cs,rfl,h1,h2⟩:=h.az;obtain⟨v,cs,rfl,h3,h4⟩:=h2.az;obtain⟨a',rfl⟩:=h1.zb;have h3:=Rd.iD h3;subst h3;obtain⟨o',b⟩:=p;have he:=OA ho h1;have hA:Kt a (.pointer a')=decide (o=o'):=by simp only [Kt,decide_eq_decide];exact he
  by_cases e:o=o'
  ·simp [jP,findD,hA,e,yX]
  ·have:=Ku ho (i+1) (j+1) h4
   simpa [jP,findD,hA,e,yX] using this
theorem EO {l:List (Option Nat×Bool)}:∀ {cs:List Value} (i:Nat),Rd F (QG l) cs->∀ m∈jP cs i,∃ o a,m.key = .pointer a/\Rd F [.np o] [.pointer a]:=by
 induction l with
 | nil=>intro cs i h;cases h;intro m hm;simp [jP] at hm
 | cons p l ih =>
  intro cs i h;obtain⟨k,cs,rfl,h1,h2⟩:=h.az;obtain⟨v,cs,rfl,h3,h4⟩:=h2.az;obtain⟨a',rfl⟩:=h1.zb;intro m hm;simp only [jP,List.mem_cons] at hm;rcases hm with rfl | hm
  ·exact⟨p.1,a',rfl,h1⟩
  ·exact ih (i+1) h4 m hm
theorem Rd.qe (h:Rd F [.np none] [v]):v = .pointer none:=by cases h;rfl
theorem Rd.sQ {i:Nat}(h:Rd F [.np (some i)] [v]):∃ B,F.fF i=some B/\v = .pointer (some ⟨B,0,none⟩):=by
 cases h with
 | Gr hB _=>exact⟨_,hB,rfl⟩
theorem Rd.lK (h:Rd F [.kA] [v]):v = .pointer none:=by cases h;rfl
theorem Rd.uB (h:Rd F [.mT] [v]):v = .map none:=by cases h;rfl
theorem G7 {T e:TypeId}[gD P T (.pointer e)](q:Option Addr)(w:World):(Op.equal T (.pointer none) (.pointer q)).run P w = .ok q.isNone w:=by unfold Op.equal Op.maxDepth Op.equalIn;cases q <;> simp [fA T w]
theorem qM {T e U:TypeId}[gD P T (.pointer e)]{q:Option Addr}{x y:Operand}{h:Array Obj}(hx:ev ρ x = .pointer none)(hy:ev ρ y = .pointer q):Pu P ρ ⟨dst, .binOp .eql T x y U,ty,p,af,gd⟩ h (.bool q.isNone):=⟨λw _=>by simp [execOp,m8,hx,hy,binOp,G7]⟩
theorem qN {T e U:TypeId}[gD P T (.pointer e)]{q:Option Addr}{x y:Operand}{h:Array Obj}(hx:ev ρ x = .pointer none)(hy:ev ρ y = .pointer q):Pu P ρ ⟨dst, .binOp .neq T x y U,ty,p,af,gd⟩ h (.bool (!q.isNone)):=⟨λw _=>by simp [execOp,m8,hx,hy,binOp,G7]⟩
theorem G8 {T k e:TypeId}[gD P T (.map k e)](w:World):(Op.equal T (.map none) (.map none)).run P w = .ok true w:=by unfold Op.equal Op.maxDepth Op.equalIn;simp [fA T w]
theorem L_ {T k e U:TypeId}[gD P T (.map k e)]{x y:Operand}{h:Array Obj}(hx:ev ρ x = .map none)(hy:ev ρ y = .map none):Pu P ρ ⟨dst, .binOp .eql T x y U,ty,p,af,gd⟩ h (.bool true):=⟨λw _=>by simp [execOp,eqGuard,hx,hy,binOp,G8]⟩
theorem Mc {T k e U:TypeId}[gD P T (.map k e)]{x y:Operand}{h:Array Obj}(hx:ev ρ x = .map none)(hy:ev ρ y = .map none):Pu P ρ ⟨dst, .binOp .neq T x y U,ty,p,af,gd⟩ h (.bool false):=⟨λw _=>by simp [execOp,eqGuard,hx,hy,binOp,G8]⟩
theorem Rd.G9 (h:Rd F [.mA] [v]):v = .nilIface:=by cases h;rfl
theorem Rd.Ro (h:Rd F [.vR] [v]):v = .nilFunc:=by cases h;rfl
theorem Rd.Kv {f:FuncId}{l:List D}(h:Rd F [.mq f l] [v]):∃ cs:List Value,v = .func (.func f) #[] cs.toArray/\Rd F l cs:=by
 cases h with
 | mq a _=>exact⟨_,rfl,a⟩
theorem Rd.Kw {T:TypeId}{l:List D}(h:Rd F [.zQ T l] [v]):∃ cs:List Value,v = .iface T (.agg cs.toArray)/\Rd F l cs:=by
 cases h with
 | zQ h1 _=>exact⟨_,rfl,h1⟩
theorem BC {T e:TypeId}{n:Nat}[gD P T (.pointer e)][se P e n](hn:n≠0)(a:Addr)(w:World):(Op.equal T (.pointer (some a)) (.pointer (some a))).run P w = .ok true w:=by unfold Op.equal Op.maxDepth Op.equalIn;simp only [Sem.run_bind,fA T w,Result.andThen_ok,sM e w,ne_eq,hn,not_false_eq_true,if_true];simp [run_sameAddr_same]
theorem G_ {T e U:TypeId}{n:Nat}[gD P T (.pointer e)][se P e n](hn:n≠0){a:Addr}{x y:Operand}{h:Array Obj}(hx:ev ρ x = .pointer (some a))(hy:ev ρ y = .pointer (some a)):Pu P ρ ⟨dst, .binOp .eql T x y U,ty,p,af,gd⟩ h (.bool true):=⟨λw _=>by simp [execOp,m8,hx,hy,binOp,BC (P:=P) (T:=T) (e:=e) hn]⟩
theorem Ha {T e U:TypeId}{n:Nat}[gD P T (.pointer e)][se P e n](hn:n≠0){a:Addr}{x y:Operand}{h:Array Obj}(hx:ev ρ x = .pointer (some a))(hy:ev ρ y = .pointer (some a)):Pu P ρ ⟨dst, .binOp .neq T x y U,ty,p,af,gd⟩ h (.bool false):=⟨λw _=>by simp [execOp,m8,hx,hy,binOp,BC (P:=P) (T:=T) (e:=e) hn]⟩
theorem cY {X U:TypeId}{op:BinOp}{x y:Operand}{b:Bool}{K:D->Option R}(h1:∀ h L,Hp h F L->Pu P ρ ⟨dst, .binOp .eql X x y U,ty,p,af,gd⟩ h (.bool b))(h2:∀ h L,Hp h F L->Pu P ρ ⟨dst, .binOp .neq X x y U,ty,p,af,gd⟩ h (.bool (!b)))(h:vU op b K=some r) :
  ∃ v d,(∀ h L,Hp h F L->Pu P ρ ⟨dst, .binOp op X x y U,ty,p,af,gd⟩ h v)/\kQ F ι d v/\K d=some r:=by
 unfold vU at h
 split at h
 ·exact⟨_,_,h1, .aU (.bool .nil),h⟩
 ·exact⟨_,_,h2, .aU (.bool .nil),h⟩
 ·cases h
theorem Rp {k:IntKind}{a b:Int}{X U:TypeId}{x y:Operand}{h:Array Obj}(hx:ev ρ x = .int k a)(hy:ev ρ y = .int k b)(hb:b≠0):Pu P ρ ⟨dst, .binOp .quo X x y U,ty,p,af,gd⟩ h (.int k (k.wrap (a.tdiv b))):=⟨λw _=>by simp [execOp,iR,hx,hy,binOp,Op.intDiv,hb]⟩
theorem US {k k':IntKind}{a b:Int}{X U:TypeId}{x y:Operand}{h:Array Obj}(hx:ev ρ x = .int k a)(hy:ev ρ y = .int k' b)(hb:¬ b<0):Pu P ρ ⟨dst, .binOp .shl X x y U,ty,p,af,gd⟩ h (.int k (k.wrap (a*2 ^ min b.toNat k.bits))):=⟨λw _=>by simp [execOp,eqGuard,hx,hy,binOp,Op.shift,hb]⟩
theorem UT {k k':IntKind}{a b:Int}{X U:TypeId}{x y:Operand}{h:Array Obj}(hx:ev ρ x = .int k a)(hy:ev ρ y = .int k' b)(hb:¬ b<0):Pu P ρ ⟨dst, .binOp .shr X x y U,ty,p,af,gd⟩ h (.int k (a.fdiv (2 ^ min b.toNat k.bits))):=⟨λw _=>by simp [execOp,eqGuard,hx,hy,binOp,Op.shift,hb]⟩
theorem Hb {op:BinOp}{X U:TypeId}{x y:Operand}{dx dy:D}{K:D->Option R}(hx:kQ F ι dx (ev ρ x))(hy:kQ F ι dy (ev ρ y))(hT:vY P C)(h:Oc C op X dx dy K=some r) :
  ∃ v d,(∀ h L,Hp h F L->Pu P ρ ⟨dst, .binOp op X x y U,ty,p,af,gd⟩ h v)/\kQ F ι d v/\K d=some r:=by
 unfold Oc at h
 split at h
 ·rename_i k a
  split at h
  ·rename_i k' b;have e1:=Rd.c_ hx;have e2:=Rd.c_ hy
   split at h
   ·obtain⟨n,hn,h⟩:=Option.bind_eq_some_iff.1 h;unfold Oa at hn
    split at hn
    ·cases hn
    ·rename_i hb;cases hn;exact⟨_,_,λ_ _ _=>US e1 e2 hb, .aU (.int .nil),h⟩
   ·obtain⟨n,hn,h⟩:=Option.bind_eq_some_iff.1 h;unfold WV at hn
    split at hn
    ·cases hn
    ·rename_i hb;cases hn;exact⟨_,_,λ_ _ _=>UT e1 e2 hb, .aU (.int .nil),h⟩
   ·skip
    cases hk:decide (k=k') with
    | false=>rw [hk] at h;cases h
    | true =>
     rw [hk] at h;have ud:k=k':=by simpa using hk
     subst ud;simp only [cond_true] at h;unfold Tk at h
     split at h
     ·exact⟨_,_,λ_ _ _=>T8 e1 e2, .aU (.int .nil),h⟩
     ·exact⟨_,_,λ_ _ _=>T_ e1 e2, .aU (.int .nil),h⟩
     ·exact⟨_,_,λ_ _ _=>Ua e1 e2, .aU (.int .nil),h⟩
     ·exact⟨_,_,λ_ _ _=>Ub e1 e2, .aU (.bool .nil),h⟩
     ·exact⟨_,_,λ_ _ _=>Uc e1 e2, .aU (.bool .nil),h⟩
     ·exact⟨_,_,λ_ _ _=>Ue e1 e2, .aU (.bool .nil),h⟩
     ·exact⟨_,_,λ_ _ _=>Uf e1 e2, .aU (.bool .nil),h⟩
     ·exact⟨_,_,λ_ _ _=>Ug e1 e2, .aU (.bool .nil),h⟩
     ·exact⟨_,_,λ_ _ _=>Uh e1 e2, .aU (.bool .nil),h⟩
     ·exact⟨_,_,λ_ _ _=>Ui e1 e2, .aU (.int .nil),h⟩
     ·exact⟨_,_,λ_ _ _=>WE e1 e2, .aU (.int .nil),h⟩
     ·obtain⟨n,hn,h⟩:=Option.bind_eq_some_iff.1 h;unfold L3 at hn
      split at hn
      ·cases hn
      ·rename_i hb;cases hn;exact⟨_,_,λ_ _ _=>Rp e1 e2 hb, .aU (.int .nil),h⟩
     ·obtain⟨n,hn,h⟩:=Option.bind_eq_some_iff.1 h;unfold WU at hn
      split at hn
      ·cases hn
      ·rename_i hb;cases hn;exact⟨_,_,λ_ _ _=>Uu e1 e2 hb, .aU (.int .nil),h⟩
     ·cases h
  ·cases h
 ·rename_i l
  split at h
  ·rename_i m;have e1:=Rd.g_ hx;have e2:=Rd.g_ hy
   split at h
   ·exact⟨_,_,λ_ _ _=>Um e1 e2, .aU (.bool .nil),h⟩
   ·exact⟨_,_,λ_ _ _=>Q3 e1 e2, .aU (.bool .nil),h⟩
   ·unfold mr at h
    split at h
    ·rename_i hl;exact⟨_,_,λ_ _ _=>Q4 e1 e2 hl, .aU (.str .nil),h⟩
    ·cases h
   ·cases h
  ·cases h
 ·rename_i a
  split at h
  ·rename_i b;have e1:=Rd.iD hx;have e2:=Rd.iD hy
   split at h
   ·rename_i ht
    haveI:gD P X .bool:=⟨(cK hT ht).fA⟩
    have hb:∀ a b:Bool,decide (a=b)=(a == b):=by decide
    exact cY (λ_ _ _=>by rw [<- hb];exact Ul e1 e2) (λ_ _ _=>by
     have:=Q2 (P:=P) (T:=X) (U:=U) (h:=‹Array Obj›) (d:=dst) (ty:=ty) (p:=p) (af:=af) (g:=gd) e1 e2
     have hn:∀ a b:Bool,decide (a≠b)=!(a == b):=by decide
     rwa [hn] at this) h
   ·cases h
  ·cases h
 ·rename_i o
  split at h
  ·rename_i e _ _ _ _ _ ht
   split at h
   ·rename_i te yP;cases hz:Nat.blt 0 te.size with
    | false=>rw [hz] at h;cases h
    | true =>
     rw [hz] at h;simp only [cond_true] at h;have hz:0<te.size:=by simpa [Nat.blt_eq] using hz
     haveI:gD P X (.pointer e):=⟨(cK hT ht).fA⟩
     haveI:se P e te.size:=⟨(cK hT yP).sM⟩
     split at h
     ·rename_i o';cases o with
      | none =>
       have e1:=Rd.qe hx;cases o' with
       | none=>exact cY (λ_ _ _=>qM e1 (Rd.qe hy)) (λ_ _ _=>qN e1 (Rd.qe hy)) h
       | some j =>
        obtain⟨B',L9,e2⟩:=Rd.sQ hy;exact cY (λ_ _ _=>qM e1 e2) (λ_ _ _=>qN e1 e2) h
      | some i =>
       obtain⟨B,hB,e1⟩:=Rd.sQ hx;cases o' with
       | none=>exact cY (λ_ _ _=>kb e1 (Rd.qe hy)) (λ_ _ _=>kc e1 (Rd.qe hy)) h
       | some j =>
        obtain⟨B',L9,e2⟩:=Rd.sQ hy;have hd:decide (B=B')=decide ((some i:Option Nat)=some j):=by
         by_cases e:i=j
         ·subst e;rw [hB] at L9;cases L9;simp
         ·have:B≠B':=λh=>by subst h;exact e (F.inj _ _ _ hB L9)
          simp [e,this]
        refine cY (λhh L hm=>?_) (λhh L hm=>?_) h
        ·obtain⟨c1,t1,l1,_⟩:=hm.live _ (F.Ol _ _ hB);obtain⟨c2,t2,l2,_⟩:=hm.live _ (F.Ol _ _ L9)
         have:=LR (P:=P) (T:=X) (U:=U) (h:=hh) (d:=dst) (ty:=ty) (p:=p) (af:=af) (g:=gd) (ca:=c1.toList) (cb:=c2.toList) e1 e2 (by simpa using l1) (by simpa using l2) (by omega)
         rwa [hd] at this
        ·obtain⟨c1,t1,l1,_⟩:=hm.live _ (F.Ol _ _ hB);obtain⟨c2,t2,l2,_⟩:=hm.live _ (F.Ol _ _ L9)
         have:=LS (P:=P) (T:=X) (U:=U) (h:=hh) (d:=dst) (ty:=ty) (p:=p) (af:=af) (g:=gd) (ca:=c1.toList) (cb:=c2.toList) e1 e2 (by simpa using l1) (by simpa using l2) (by omega)
         have hn:decide (B≠B')=!decide (B=B'):=by simp
         rwa [hn,hd] at this
     ·have e2:=Rd.lK hy;cases o with
      | none=>exact cY (λ_ _ _=>kb (Rd.qe hx) e2) (λ_ _ _=>kc (Rd.qe hx) e2) h
      | some i =>
       obtain⟨B,hB,e1⟩:=Rd.sQ hx;exact cY (λ_ _ _=>kb e1 e2) (λ_ _ _=>kc e1 e2) h
     ·cases h
   ·cases h
  ·cases h
 ·rename_i ds off
  split at h
  ·rename_i e _ _ _ _ _ ht
   haveI:gD P X (.pointer e):=⟨(cK hT ht).fA⟩
   split at h
   ·obtain⟨B,o,cs,e1,_,_⟩:=Rd.uu hx;have e2:=Rd.lK hy;exact cY (λ_ _ _=>kb e1 e2) (λ_ _ _=>kc e1 e2) h
   ·cases h
  ·cases h
 ·rename_i o
  split at h
  ·rename_i e _ _ _ _ _ ht
   haveI:gD P X (.pointer e):=⟨(cK hT ht).fA⟩
   split at h
   ·have e2:=Rd.lK hy;cases o with
    | none =>
     have e1:_=Value.pointer none:=hx;exact cY (λ_ _ _=>kb e1 e2) (λ_ _ _=>kc e1 e2) h
    | some q =>
     obtain⟨hd,B,n,cp,_,_,e1⟩:=hx;exact cY (λ_ _ _=>kb e1 e2) (λ_ _ _=>kc e1 e2) h
   ·cases h
  ·cases h
 ·rename_i z i j off
  split at h
  ·rename_i e _ _ _ _ _ ht
   haveI:gD P X (.pointer e):=⟨(cK hT ht).fA⟩
   split at h
   ·obtain⟨hd,B,n,cp,_,_,e1⟩:=hx;have e2:=Rd.lK hy;exact cY (λ_ _ _=>kb e1 e2) (λ_ _ _=>kc e1 e2) h
   ·cases h
  ·cases h
 ·rename_i t off
  split at h
  ·rename_i e _ _ _ _ _ ht
   haveI:gD P X (.pointer e):=⟨(cK hT ht).fA⟩
   split at h
   ·obtain⟨B,_,e1⟩:=hx;have e2:=Rd.lK hy;exact cY (λ_ _ _=>kb e1 e2) (λ_ _ _=>kc e1 e2) h
   ·cases h
  ·cases h
 ·rename_i t b
  split at h
  ·rename_i e _ _ _ _ _ ht
   haveI:gD P X (.pointer e):=⟨(cK hT ht).fA⟩
   obtain⟨B,g1,e1⟩:=hx
   split at h
   ·have e2:=Rd.lK hy;cases b with
    | true=>exact cY (λ_ _ _=>kb e1 e2) (λ_ _ _=>kc e1 e2) h
    | false=>exact cY (λ_ _ _=>kb e1 e2) (λ_ _ _=>kc e1 e2) h
   ·rename_i t'
    split at h
    ·rename_i te yP;cases hc:(Nat.blt 0 te.size && t' == t) with
     | false=>rw [hc] at h;cases h
     | true =>
      rw [hc] at h;simp only [cond_true] at h;rw [Bool.and_eq_true,Nat.blt_eq,beq_iff_eq] at hc;obtain⟨hs,rfl⟩:=hc
      haveI:se P e te.size:=⟨(cK hT yP).sM⟩
      obtain⟨B',g2,e2⟩:=hy;rw [g1] at g2;have hB:B=B':=by cases g2;rfl
      subst hB;cases b with
      | true=>exact cY (λ_ _ _=>G_ (e:=e) (n:=te.size) (by omega) e1 e2) (λ_ _ _=>Ha (e:=e) (n:=te.size) (by omega) e1 e2) h
      | false=>exact cY (λ_ _ _=>qM e1 e2) (λ_ _ _=>qN e1 e2) h
    ·cases h
   ·cases h
  ·cases h
 ·split at h
  ·rename_i e _ _ _ _ _ ht
   haveI:gD P X (.pointer e):=⟨(cK hT ht).fA⟩
   have e1:=Rd.lK hx
   split at h
   ·rename_i o';cases o' with
    | none=>exact cY (λ_ _ _=>qM e1 (Rd.qe hy)) (λ_ _ _=>qN e1 (Rd.qe hy)) h
    | some j =>
     obtain⟨B',L9,e2⟩:=Rd.sQ hy;exact cY (λ_ _ _=>qM e1 e2) (λ_ _ _=>qN e1 e2) h
   ·have e2:=Rd.lK hy;exact cY (λ_ _ _=>kb e1 e2) (λ_ _ _=>kc e1 e2) h
   ·cases h
  ·cases h
 ·split at h
  ·rename_i k v _ _ _ _ _ ht
   haveI:gD P X (.map k v):=⟨(cK hT ht).fA⟩
   split at h
   ·have e1:=Rd.uB hx;have e2:=Rd.uB hy;exact cY (λ_ _ _=>L_ e1 e2) (λ_ _ _=>Mc e1 e2) h
   ·cases h
  ·cases h
 ·cases h
theorem x7 {α:Type}{l:List α}{i:Int}{x:α}(h:bl l i=some x):∃ n:Nat,i=n/\l[n]?=some x/\n<l.length:=by
 unfold bl at h
 split at h
 ·rename_i hi;exact⟨i.toNat,by omega,h,(List.getElem?_eq_some_iff.1 h).1⟩
 ·cases h
theorem vv {α:Type}{l m:List α}{a b:Int}(h:gn l a b=some m):∃ x y:Nat,a=x/\b=y/\x<=y/\y<=l.length/\m=(l.take y).drop x:=by
 unfold gn at h
 split at h
 ·rename_i hi;cases h;exact⟨a.toNat,b.toNat,by omega,by omega,by omega,by omega,rfl⟩
 ·cases h
theorem BD {ZW:Bool}{n cp a b:Nat}{lo hi:Option Operand}(h1:b<=cp)(Bb:∀ y,lo=some y->∃ k,ev ρ y = .int k (a:Int))(OC:lo=none->a=0)(CZ:∀ y,hi=some y->∃ k,ev ρ y = .int k (b:Int))(Md:hi=none->b=n)(p_:a<=b)(w:World) :
  (Instr.sliceBounds ZW n cp (lo.map (ev ρ)) (hi.map (ev ρ)) none).run P w = .ok (a,b,cp) w:=by
 cases lo with
 | none =>
  have:=OC rfl
  subst this;cases hi with
  | none=>have:=Md rfl;subst this;simp [Instr.sliceBounds]
  | some y =>
   obtain⟨k,hy⟩:=CZ y rfl;simp [Instr.sliceBounds,Instr.sliceBound,asIntOf,hy,h1]
 | some y0 =>
  obtain⟨k0,Rq⟩:=Bb y0 rfl;cases hi with
  | none=>have:=Md rfl;subst this;simp [Instr.sliceBounds,Instr.sliceBound,asIntOf,Rq,p_]
  | some y =>
   obtain⟨k,hy⟩:=CZ y rfl;simp [Instr.sliceBounds,Instr.sliceBound,asIntOf,hy,Rq,h1,p_]
theorem sR {T e:TypeId}[gD P T (.slice e)]{sz:Nat}[se P e sz]{x:Operand}{lo hi:Option Operand}{q:Option Addr}{n cp a b:Nat}{ty':TypeId}{hh:Array Obj}(hx:ev ρ x = .slice q n cp)
  (Bb:∀ y,lo=some y->∃ k,ev ρ y = .int k (a:Int)) (OC:lo=none->a=0) (CZ:∀ y,hi=some y->∃ k,ev ρ y = .int k (b:Int)) (Md:hi=none->b=n) (p_:a<=b) (Wf:b<=cp) :
  Pu P ρ ⟨dst, .slice T x lo hi none,ty',p,af,gd⟩ hh (.slice (if cp=a then q else q.map (·.add (a*sz))) (b - a) (cp - a)):=⟨λw _=>by
 have:=BD (P:=P) (ZW:=true) Wf Bb OC CZ Md p_ w
 simp [execOp,hx,Instr.sliceAt,Instr.slice,fA T w,sM e w,this]⟩
theorem C0 {T:TypeId}[gD P T .string]{x:Operand}{lo hi:Option Operand}{l:List UInt8}{a b:Nat}{ty':TypeId}{hh:Array Obj}(hx:ev ρ x=bs l)
  (Bb:∀ y,lo=some y->∃ k,ev ρ y = .int k (a:Int)) (OC:lo=none->a=0) (CZ:∀ y,hi=some y->∃ k,ev ρ y = .int k (b:Int)) (Md:hi=none->b=l.length) (p_:a<=b) (Wf:b<=l.length) :
  Pu P ρ ⟨dst, .slice T x lo hi none,ty',p,af,gd⟩ hh (bs ((l.take b).drop a)):=⟨λw _=>by
 have:=BD (P:=P) (ZW:=false) Wf Bb OC CZ Md p_ w
 simp [execOp,hx,Instr.sliceAt,Instr.slice,fA T w,pZ,this,extract_mk]⟩
theorem DK (off:Nat):∀ (l pre post tail:List Value) (k:Nat),post.length=l.length->off+k=pre.length->(l.zipIdx k).foldl (λ(cs:Array Value) (x:Value×Nat)=>cs.setIfInBounds (off+x.2) x.1) (pre++post++tail).toArray=(pre++l++tail).toArray
 | [],pre,post,tail,k,h,_=>by
  have:post=[]:=by simpa using h
  simp [this]
 | c::l,pre,post,tail,k,h,hk=>by
  match post,h with
  | q::post,h =>
   simp only [List.zipIdx_cons,List.foldl_cons];have h1:(pre++q::post++tail).toArray.setIfInBounds (off+k) c=((pre++[c])++post++tail).toArray:=by rw [hk];simp
   rw [h1,DK off l (pre++[c]) post tail (k+1) (by simpa using h) (by simp;omega)];simp
theorem zd {pl:Nat->Option (Nat×Nat)}{i off size:Nat}{v:Value}{rest:List (Nat×Value)}{zv cs:List Value}(hp:pl i=some (off,size))(hv:v.cells=cs.toArray)(hl:cs.length=size)(hb:off+size<=zv.length):Instr.fill pl zv.toArray ((i,v)::rest)=Instr.fill pl (zv.take off++cs++zv.drop (off+size)).toArray rest:=by
 have hc:(decide (v.cells.size≠size) || decide (off+v.cells.size > zv.toArray.size))=false:=by rw [hv];simp [hl];omega
 have h2:v.cells.zipIdx.foldl (λ(cs:Array Value) (x:Value×Nat)=>cs.setIfInBounds (off+x.2) x.1) zv.toArray=(zv.take off++cs++zv.drop (off+size)).toArray:=by
  have h3:=DK off cs (zv.take off) ((zv.drop off).take size) (zv.drop (off+size)) 0 (by simp;omega) (by simp;omega);rw [hv,<- h3,<- Array.foldl_toList]
  congr 1
  ·rw [List.append_assoc,<- List.drop_drop,List.take_append_drop,List.take_append_drop]
  ·simp
 rw [<- h2,Instr.fill,hp];simp only [hc];rw [if_neg (by simp)]
theorem Me (hr:Rel F ι s ρ)(h:kQ F ι d v)(hc:Kf s d=true):v.oneCell'=true/\jM F ι d v:=by
 unfold Kf at hc;cases hp:d.plain with
 | true=>exact⟨(h.mn hp).one hp, .aU (h.mn hp)⟩
 | false =>
  rw [hp,Bool.false_or] at hc
  split at hc
  ·rename_i t b;obtain⟨B,g1,g2⟩:=h;refine⟨?_,⟨B,g1,g2⟩⟩;rw [g2];cases b <;> rfl
  ·rename_i t
   split at hc
   ·rename_i e T xs dB;obtain⟨q,n,cp,rows,g1,_⟩:=hr.look dB;have h':v=(ι t).1:=h;exact⟨by rw [h',g1];rfl,h'⟩
   ·cases hc
  ·cases hc
theorem sS {fs:List (TypeId×Nat)}(hT:vY P C)(hr:Rel F ι s ρ):∀ {parts:List (Nat×Operand)} {z ds:List D} {zv:List Value},Bw fs C s (parts.map λq=>(q.1,g s q.2)) z=some ds->(∀ q∈parts,kQ F ι (g s q.2) (ev ρ q.2))->F2 (jM F ι) z zv ->
  ∀ {pl:Nat->Option (Nat×Nat)},(∀ i ft fo,fs[i]?=some (ft,fo)->∀ t,ti C ft=some t->pl i=some (fo,t.size))->∃ cs:List Value,Instr.fill pl zv.toArray (parts.map λq=>(q.1,ev ρ q.2))=some cs.toArray/\F2 (jM F ι) ds cs
 | [],z,ds,zv,h,_,hz,pl,_=>by cases h;exact⟨zv,rfl,hz⟩
 | (i,x)::parts,z,ds,zv,h,hp,hz,pl,tJ=>by
  simp only [List.map_cons,Bw] at h;cases hi:fs[i]? with
  | none=>rw [hi] at h;cases h
  | some q =>
   obtain⟨ft,fo⟩:=q;rw [hi] at h;simp only at h;cases ht:(C.tb[ft]?).join with
   | none=>rw [ht] at h;cases h
   | some t =>
    rw [ht] at h;simp only at h;have hx:=hp (i,x) (by simp);have hzl:=bz hz;have hpi:=tJ i ft fo hi t ht
    split at h
    ·rename_i l hl;simp only at hx;rw [hl] at hx;cases hc:(l.length == t.size && Nat.ble (fo+t.size) z.length && l.all D.plain) with
     | false=>rw [hc] at h;cases h
     | true =>
      rw [hc] at h;simp only [cond_true] at h;simp only [Bool.and_eq_true,beq_iff_eq,Nat.ble_eq] at hc;obtain⟨cs,hv,nq⟩:=Rd.qd hx;obtain⟨CO,h1,h2⟩:=sS hT hr (zv:=zv.take fo++cs++zv.drop (fo+t.size)) h (λq hq=>hp q (by simp [hq])) (((hz.take fo).append nq.f2).append (hz.drop _)) tJ;refine⟨CO,?_,h2⟩;have l6:=nq.length;simp only [List.map_cons];rw [zd (cs:=cs) hpi (by rw [hv];rfl) (by omega) (by omega),<- h1]
    ·rename_i Rr;cases hc:(t.size == 1 && Nat.blt fo z.length && Kf s (g s x)) with
     | false=>rw [hc] at h;cases h
     | true =>
      rw [hc] at h;simp only [cond_true] at h;simp only [Bool.and_eq_true,beq_iff_eq,Nat.blt_eq] at hc;obtain⟨mW,tI⟩:=Me hr hx hc.2;have tD:(ev ρ x).cells=#[ev ρ x]:=by generalize ev ρ x=v at *;cases v <;> first | rfl | (simp [Value.oneCell'] at mW;done)
      obtain⟨CO,h1,h2⟩:=sS hT hr (zv:=zv.set fo (ev ρ x)) h (λq hq=>hp q (by simp [hq])) (by
       have:=((hz.take fo).append (F2.cons tI .nil)).append (hz.drop (fo+1))
       rw [List.append_assoc,List.singleton_append] at this;rw [List.append_assoc,List.singleton_append] at this;rw [List.set_eq_take_append_cons_drop,if_pos (by omega),List.set_eq_take_append_cons_drop,if_pos (by omega)];exact this) tJ
      refine⟨CO,?_,h2⟩;simp only [List.map_cons];rw [zd (cs:=[ev ρ x]) hpi tD (by simp;omega) (by omega),<- h1,hc.1.1,List.set_eq_take_append_cons_drop,if_pos (by omega)];simp
theorem vw:∀ l:List Value,F2 (jM F ι) (l.map tG) l
 | [] => .nil
 | v::l => .cons (G0 v) (vw l)
theorem Hc {α β:Type}{f:α->Sem β}{gf:α->β}{w:World}:∀ {l:List α},(∀ a∈l,(f a).run P w = .ok (gf a) w)->(l.mapM f).run P w = .ok (l.map gf) w
 | [],_=>by simp [List.mapM_nil]
 | a::l,h=>by rw [List.mapM_cons];simp [h a (by simp),Hc (l:=l) λb hb=>h b (by simp [hb])]
theorem Mf {e:E}{xs:List e.T}{q:Option Addr}{cp a b:Nat}(hr:Rd F [.aB e xs] [.slice q xs.length cp])(p_:a<=b)(hb:b<=xs.length):Rd F [.aB e ((xs.take b).drop a)] [.slice (if cp=a then q else q.map (·.add (a*e.sz))) (b - a) (cp - a)]:=by
 obtain⟨q',sT,he,pb,mC⟩:=hr.at;cases he;have hlen:((xs.take b).drop a).length=b - a:=by simp;omega
 rw [<- hlen];refine Rd.GZ (by rw [hlen];omega) λi x hx=>?_
 rw [List.getElem?_drop,List.getElem?_take] at hx
 split at hx
 ·rename_i hi;obtain⟨cs,h1,h2,h3⟩:=mC _ _ hx;have eH:¬ (cp=a):=by
   have:=(List.getElem?_eq_some_iff.1 hx).1
   omega
  rw [if_neg eH];rw [h1];refine⟨cs,?_,?_,h3⟩
  ·simp [pJ,lb,ka]
  ·simp only [Option.map_some,pJ,lb,ka,Option.getD_some] at h2 ⊢;rw [Nat.add_assoc,<- Nat.add_mul];exact h2
 ·cases hx
theorem NR.get {c:Cl}{T A:TypeId}{hole:Option Nat}:∀ {k:Nat} {hs:List c.R} {j6:List Value} {L:List gJ} {i:Nat} {n:c.R},NR F T A hole k hs j6 L->hs[i]?=some n->∃ B cs hd Lv,F.fF (k+i)=some B/\Rd F (c.enc n) cs/\j6[i]?=some hd/\hd.oneCell'=true/\(B,cs++[hd],BT.c T)∈L/\(∀ q∈Lv,q∈L)/\(hole≠some (k+i)->L6 F c A n hd Lv)
 | _,_,_,_,i,n, .nil,h=>by simp at h
 | k,_,_,_,0,n, .cons (Lv:=Lv) hB hc h1 ha hh t,h=>by simp at h;subst h;exact⟨_,_,_,Lv,hB,hc,rfl,h1,by simp,λq hq=>by simp [hq],ha⟩
 | k,_,_,_,i+1,n, .cons hB hc h1 ha hh t,h=>by obtain⟨B,cs,hd,Lv,a,b,c,d,e,f,g⟩:=t.get (i:=i) (by simpa using h);rw [show k+1+i=k+(i+1) by omega] at a g;exact⟨B,cs,hd,Lv,a,b,by simpa using c,d,by simp [e],λq hq=>by simp [f q hq],g⟩
theorem Hd {c:Cl}{own:Bool}{hs:List c.R}{i B:Nat}{n:c.R}(hr:Rel F ι s ρ)(hn:s.nodes=some (own,⟨c,hs⟩))(hi:hs[i]?=some n)(hB:F.fF i=some B):∃ cs c9,Rd F (c.enc n) cs/\(∀ hh,Hp hh F (lv ι s.ow++L0)->bm hh B 0 (cs++[c9]))/\(own=true->kQ F ι (.na i) c9)/\(own=false->Rd F [.aB c.e (c.xs n)] [c9]):=by
 unfold St.nodes at hn
 split at hn
 ·rename_i c' xm hl;cases hn;obtain⟨B',cs,h1,h2,h3⟩:=(hr.look hl).2 i n hi;rw [hB] at h1;cases h1;have l6:=h3.length;obtain⟨l9,c9,rfl⟩:∃ l9 c9,cs=l9++[c9]:=⟨cs.dropLast,cs.getLast (by intro e;rw [e] at l6;simp [Cl.mQ] at l6),by rw [List.dropLast_concat_getLast]⟩;have h9:l9.length=c.n:=by simp [Cl.mQ] at l6;omega
  have ha:=h3.take c.n;have hb:=h3.drop c.n;rw [List.take_left' (Cl.mQ n),List.take_left' h9] at ha;rw [List.drop_left' (Cl.mQ n),List.drop_left' h9] at hb;exact⟨l9,c9,ha,λhh hm=>hm.cells h2,λh=>(by cases h),λ_=>hb⟩
 ·split at hn
  ·rename_i c' T A xm hole hl;cases hn;obtain⟨_,j6,h1,h2,h3⟩:=hr.look hl;obtain⟨B',cs,hd,Lv,a,b,c,d,e,f,g⟩:=h2.get hi;rw [Nat.zero_add,hB] at a;cases a;refine⟨cs,hd,b,λhh hm=>?_,λ_=>⟨j6,h1,c⟩,λh=>(by cases h)⟩;obtain⟨fz,_,this⟩:=(hm.own _ (List.mem_append_left _ (rS hl e))).cells;exact fg (cs++[hd]) [] [] 0 (by simpa using this) rfl
  ·cases hn
theorem zT {c:Cl}{T A:TypeId}{hs:List c.R}{i:Nat}{n:c.R}(hr:Rel F ι s ρ)(hl:s.look NT=some (.nodes c T A hs none))(hi:hs[i]?=some n)(hv:kQ F ι (.na i) v):∃ q n' cp rows Lv,v = .slice q n' cp/\n'=(c.xs n).length/\yO c.e.sz A q n' cp Lv rows/\F2 (λx r=>Rd F (c.e.enc x) r) (c.xs n) rows/\∀ {h:Array Obj} {L0:List gJ},Hp h F (lv ι s.ow++L0)->∀ p∈Lv,vW h[p.1]? p:=by
 obtain⟨j6,h1,h2⟩:=hv;obtain⟨_,ZX,h3,h4,h5⟩:=hr.look hl;rw [h1] at h3;have h3:j6=ZX:=by simpa using h3
 subst h3;obtain⟨B',cs,hd,Lv,a,b,c',d,e,f,g⟩:=h4.get hi;obtain⟨q,n',cp,rows,nC,g1,g2,g3,g4⟩:=g (by simp);rw [h2] at c';cases c';refine⟨q,n',cp,rows,nC,g1,by rw [g2.len,<- bz g3],g2,g3,λ{hh L0} hm p hp=>?_⟩;rcases g4 with⟨_,rfl⟩ | ⟨_,_,g4⟩
 ·exact hm.own _ (List.mem_append_left _ (rS hl (f p hp)))
 ·exact (g4 p hp).tH hm
theorem qO {h:Array Obj}{B:Nat}:∀ {cs ds:List Value} {off:Nat},bm h B off (cs++ds)->bm h B off cs
 | [],_,_,_=>trivial
 | _::_,_,_,hc=>⟨hc.1,qO hc.2⟩
set_option maxHeartbeats 2000000 in
theorem l7 {K:D->Option R}{o:Op}(hT:vY P C)(C1:Gl F.m)(hr:Rel F ι s ρ)(h:nF C s o K=some r):∃ v d,(∀ h,Hp h F (lv ι s.ow++L0)->Pu P ρ ⟨dst,o,ty,p,af,gd⟩ h v)/\kQ F ι d v/\K d=some r:=by
 unfold nF at h
 split at h
 ·exact⟨_,_,λ_ _=>Q0 rfl,eR hr _,h⟩
 ·exact⟨_,_,λ_ _=>LK rfl,eR hr _,h⟩
 ·rename_i c x y
  split at h
  ·rename_i b hb;have hc:=eR hr c;rw [hb] at hc;have hc:=Rd.iD hc;cases b with
   | true=>exact⟨_,_,λ_ _=>LL hc rfl,eR hr x,h⟩
   | false=>exact⟨_,_,λ_ _=>LM hc rfl,eR hr y,h⟩
  ·cases h
 ·rename_i op X x y Y
  split at h
  ·split at h
   ·rename_i kt vt _ _ _ _ _ ht
    haveI:gD P X (.map kt vt):=⟨(cK hT ht).fA⟩
    split at h
    ·rename_i hg;have hx:=eR hr x;rw [hg] at hx;have e1:=Rd.uB hx;obtain⟨v,d,h1,h2,h3⟩:=cY (P:=P) (dst:=dst) (ty:=ty) (p:=p) (af:=af) (gd:=gd) (X:=X) (U:=Y) (x:=x) (y := .const (.map none)) (b:=true) (λ_ _ _=>Bt e1 rfl) (λ_ _ _=>Bu e1 rfl) h;exact⟨v,d,λh hm=>h1 h _ hm,h2,h3⟩
    ·rename_i t hg;have hx:=eR hr x;rw [hg] at hx
     split at h
     ·rename_i l dB;obtain⟨B,cs,g1,_,_⟩:=hr.look dB;have e1:ev ρ x = .map (some B):=by have:ev ρ x=(ι t).1:=hx;rw [this,g1]
      obtain⟨v,d,h1,h2,h3⟩:=cY (P:=P) (dst:=dst) (ty:=ty) (p:=p) (af:=af) (gd:=gd) (X:=X) (U:=Y) (x:=x) (y := .const (.map none)) (b:=false) (λ_ _ _=>Bt e1 rfl) (λ_ _ _=>Bu e1 rfl) h;exact⟨v,d,λh hm=>h1 h _ hm,h2,h3⟩
     ·cases h
    ·cases h
   ·cases h
  ·obtain⟨v,d,h1,h2,h3⟩:=Hb (P:=P) (dst:=dst) (ty:=ty) (p:=p) (af:=af) (gd:=gd) (X:=X) (U:=Y) (eR hr x) (eR hr y) hT h;exact⟨v,d,λh hm=>h1 h _ hm,h2,h3⟩
 ·rename_i T x
  split at h
  ·rename_i b hb;have hc:=eR hr x;rw [hb] at hc;exact⟨_,_,λ_ _=>Uj (Rd.iD hc), .aU (.bool .nil),h⟩
  ·cases h
 ·rename_i x i
  split at h
  ·rename_i l hl
   split at h
   ·rename_i d hd;have hx:=eR hr x;rw [hl] at hx;obtain⟨vs,h1,h2⟩:=hx;obtain⟨v,hv,hvr⟩:=gq h2 hd;exact⟨v,d,λ_ _=>IT h1 (by simpa using hv), .jd hvr,h⟩
   ·cases h
  ·cases h
 ·rename_i T x y
  split at h
  ·rename_i ht
   split at h
   ·rename_i l hl
    split at h
    ·rename_i k i hi;have hx:=eR hr x;have hy:=eR hr y;rw [hl] at hx;rw [hi] at hy;have hx:=Rd.g_ hx;have hy:=Rd.c_ hy;obtain⟨c,hc,rG⟩:=Option.bind_eq_some_iff.1 h;obtain⟨n,rfl,hn,jC⟩:=x7 hc
     haveI:gD P T .string:=⟨(cK hT ht).fA⟩
     have ZY:l.getD n 0=c:=by rw [List.getD_eq_getElem?_getD,hn];rfl
     exact⟨_,_,λ_ _=>(by rw [<- ZY];exact NP hx hy jC:Pu P ρ _ _ (.int .u8 (c.toNat:Int))), .aU (.int .nil),rG⟩
    ·cases h
   ·cases h
  ·cases h
 ·rename_i T x y
  split at h
  ·rename_i et _ _ _ _ _ ht
   split at h
   ·rename_i te yP
    split at h
    ·rename_i k i hi;have hy:=eR hr y;rw [hi] at hy;have hy:=Rd.c_ hy;have hx:=eR hr x
     haveI:gD P T (.slice et):=⟨(cK hT ht).fA⟩
     split at h
     ·rename_i e xs hl;rw [hl] at hx;cases hz:(te.size == e.sz) with
      | false=>rw [hz] at h;cases h
      | true =>
       rw [hz] at h;simp only [cond_true] at h;have hz:te.size=e.sz:=by simpa using hz
       haveI:se P et e.sz:=⟨λw=>by rw [<- hz];exact (cK hT yP).sM w⟩
       obtain⟨c,hc,rG⟩:=Option.bind_eq_some_iff.1 h;obtain⟨n,rfl,hn,jC⟩:=x7 hc;obtain⟨q,cp,hv,pb,mC⟩:=Rd.at hx;obtain⟨cs,h1,h2,h3⟩:=mC _ _ hn;exact⟨_,_,λ_ _=>CR hv hy jC h1, .aU (by
        have:=Rd.fp (F:=F) (off:=0) (ds:=[]) (vs:=[]) h2 h3 .nil
        exact this),rG⟩
     ·rename_i t hl
      split at h
      ·rename_i e T' xs dB;rw [hl] at hx;cases hz:(te.size == e.sz) with
       | false=>rw [hz] at h;cases h
       | true =>
        rw [hz] at h;simp only [cond_true] at h;have hz:te.size=e.sz:=by simpa using hz
        haveI:se P et e.sz:=⟨λw=>by rw [<- hz];exact (cK hT yP).sM w⟩
        obtain⟨c,hc,rG⟩:=Option.bind_eq_some_iff.1 h;obtain⟨n,rfl,hn,jC⟩:=x7 hc;obtain⟨q,m,cp,rows,g1,g2,g3⟩:=hr.look dB;have hx:ev ρ x=(ι t).1:=hx;rw [g1] at hx;have Gs:m=xs.length:=by rw [g2.len,<- bz g3]
        rcases g2.sh with⟨he,_,hv⟩ | ⟨B,n',cap,spare,he,hL,_,_,_⟩
        ·have hz:m=0:=by cases he;rfl
         omega
        ·cases he;refine⟨_,_,λ_ _=>sN (B:=B) (off:=0) hx hy (by omega), .jd (jM.UQ g1 ?_),rG⟩;simp
      ·cases h
     ·rename_i j hl;rw [hl] at hx
      split at h
      ·rename_i cl T0 A hs dB;cases hz:(te.size == cl.e.sz) with
       | false=>rw [hz] at h;cases h
       | true =>
        rw [hz] at h;simp only [cond_true] at h;have hz:te.size=cl.e.sz:=by simpa using hz
        haveI:se P et cl.e.sz:=⟨λw=>by rw [<- hz];exact (cK hT yP).sM w⟩
        obtain⟨nd,my,h⟩:=Option.bind_eq_some_iff.1 h;obtain⟨c,hc,rG⟩:=Option.bind_eq_some_iff.1 h;obtain⟨n,rfl,hn,jC⟩:=x7 hc;obtain⟨q,n',cp,rows,Lv,e1,e2,e3,e4,e5⟩:=zT hr dB my hx;rcases e3.sh with⟨he,_,hv⟩ | ⟨B,W8,cap,spare,he,hL,_,_,_⟩
        ·have:n'=0:=by cases he;rfl
         omega
        ·cases he;obtain⟨j6,g1,g2⟩:=hx;refine⟨_,_,λ_ _=>sN (B:=B) (off:=0) e1 hy (by omega), .jd (jM.Ks g1 (by rw [g2,e1]) (by simp)),rG⟩
      ·cases h
     ·cases h
    ·cases h
   ·cases h
  ·cases h
 ·rename_i T x i
  split at h
  ·rename_i fs _ _ _ _ _ ht
   split at h
   ·rename_i ft fo hf
    split at h
    ·rename_i t hft;cases hz:(Nat.blt 0 t.size) with
     | false=>rw [hz] at h;cases h
     | true =>
      rw [hz] at h;simp only [cond_true] at h;have hz:0<t.size:=by simpa [Nat.blt_eq] using hz
      haveI:=UP (cK hT ht).fA hf
      have qF:∀ w,(sizeOf ft).run P w = .ok (t.size - 1+1) w:=λw=>by rw [show t.size - 1+1=t.size by omega];exact (cK hT hft).sM w
      have hx:=eR hr x
      split at h
      ·rename_i ds off hl;rw [hl] at hx;obtain⟨B,o,cs,hv,h1,h2⟩:=Rd.uu hx;exact⟨_,_,λ_ _=>lZ hv qF, .aU (by rw [Nat.add_assoc];exact .fp h1 h2 .nil),h⟩
      ·rename_i t' off hl;rw [hl] at hx;obtain⟨B,h1,hv⟩:=hx;exact⟨_,_,λ_ _=>lZ hv qF, .jd (jM.Oz h1),h⟩
      ·rename_i t' z j off hl;rw [hl] at hx;obtain⟨B,n,cp,h1,hv⟩:=hx;exact⟨_,_,λ_ _=>lZ hv qF, .jd (jM.UQ h1 (by rw [Nat.add_assoc])),h⟩
      ·rename_i o hl;rw [hl] at hx;obtain⟨i0,rfl,h⟩:=Option.bind_eq_some_iff.1 h;obtain⟨B,hB,hv⟩:=Rd.sQ hx;exact⟨_,_,λ_ _=>lZ hv qF, .jd (jM.UR hB (by rw [Nat.zero_add])),h⟩
      ·rename_i z0 i0 j0 off hl;rw [hl] at hx;obtain⟨hd,B,n,cp,g1,g2,hv⟩:=hx;exact⟨_,_,λ_ _=>lZ hv qF, .jd (jM.Ks g1 g2 (by rw [Nat.add_assoc])),h⟩
      ·rename_i i0 off hl;rw [hl] at hx;obtain⟨B,hB,hv⟩:=hx;exact⟨_,_,λ_ _=>lZ hv qF, .jd (jM.UR hB rfl),h⟩
      ·cases h
    ·cases h
   ·cases h
  ·cases h
 ·rename_i T x
  split at h
  ·rename_i t ht;have hk:=cK hT ht;have hx:=eR hr x
   split at h
   ·rename_i ds off hl;rw [hl] at hx;obtain⟨B,o,cs,hv,h1,h2⟩:=Rd.uu hx;exact ld (P:=P) (s:=s) hk h2.f2 hv (λhh hm=>hm.cells h1) h
   ·rename_i b off hl;rw [hl] at hx
    split at h
    ·rename_i T' ds dB;obtain⟨B,h1,hv⟩:=hx;obtain⟨B',cs,g1,g2,g3⟩:=hr.look dB;rw [h1] at g1;cases g1;refine ld (P:=P) (s:=s) (o:=0) hk g3 (by simpa using hv) (λhh hm=>?_) h;obtain⟨fz,_,this⟩:=(hm.own (B,cs,BT.c T') (List.mem_append_left _ (rS dB (by rw [g2];simp)))).cells;exact fg cs [] [] 0 (by simpa using this) rfl
    ·cases h
   ·rename_i b z i off hl;rw [hl] at hx
    split at h
    ·rename_i e T' xs dB;cases hz:(z == e.sz) with
     | false=>rw [hz] at h;cases h
     | true =>
      rw [hz] at h;simp only [cond_true] at h;have hz:z=e.sz:=by simpa using hz
      subst hz;obtain⟨v,hv,rG⟩:=Option.bind_eq_some_iff.1 h;obtain⟨B,n,cp,h1,WJ⟩:=hx;obtain⟨q,m,sT,rows,g1,g2,g3⟩:=hr.look dB;rw [h1] at g1;cases g1;obtain⟨row,rl,tI⟩:=gq g3 hv;exact ld (P:=P) (s:=s) hk tI.f2 WJ (λhh hm=>za g2 rl λp hp=>hm.own p (List.mem_append_left _ (rS dB hp))) rG
    ·cases h
   ·rename_i i0 off hl;rw [hl] at hx;obtain⟨B,hB,hv⟩:=hx
    split at h
    ·rename_i own cl hs hn;cases h9:(off == cl.n) with
     | true =>
      have UU:off=cl.n:=by simpa using h9
      subst UU;rw [h9] at h;simp only [cond_true] at h;cases ha:t.agg with
      | true=>rw [ha] at h;cases h
      | false =>
       rw [ha] at h;simp only [cond_false] at h
       haveI:V_ P T false:=⟨λw=>by rw [hk.agg w,ha]⟩
       obtain⟨n,hi,h⟩:=Option.bind_eq_some_iff.1 h;obtain⟨cs,c9,g1,g2,g3,g4⟩:=Hd (L0:=L0) hr hn hi hB;have l6:cs.length=cl.n:=by rw [g1.length,Cl.mQ]
       have ZJ:∀ hh,Hp hh F (lv ι s.ow++L0)->Pu P ρ ⟨dst, .load T x,ty,p,af,gd⟩ hh c9:=λhh hm=>J9 hv (by
        have:=wE (g2 hh hm) (i:=cl.n) (v:=c9) (by rw [List.getElem?_append_right (by omega),l6,Nat.sub_self];rfl)
        rwa [Nat.zero_add] at this)
       cases own with
       | true=>exact⟨c9,_,ZJ,g3 rfl,h⟩
       | false=>exact⟨c9,_,ZJ, .aU (g4 rfl),h⟩
     | false =>
      rw [h9] at h;simp only [cond_false] at h;obtain⟨n,hi,h⟩:=Option.bind_eq_some_iff.1 h;obtain⟨cs,c9,g1,g2,g3,g4⟩:=Hd (L0:=L0) hr hn hi hB;exact ld (P:=P) (s:=s) (o:=0) hk g1.f2 (by simpa using hv) (λhh hm=>qO (g2 hh hm)) h
    ·cases h
   ·rename_i z0 i0 j0 off hl;rw [hl] at hx
    split at h
    ·rename_i cl T0 A hs dB;cases hz:(z0 == cl.e.sz) with
     | false=>rw [hz] at h;cases h
     | true =>
     rw [hz] at h;simp only [cond_true] at h;have hz:z0=cl.e.sz:=by simpa using hz
     subst hz;obtain⟨n,hi,h⟩:=Option.bind_eq_some_iff.1 h;obtain⟨a,ha,h⟩:=Option.bind_eq_some_iff.1 h;obtain⟨j6,B,n',cp,g1,g2,hv⟩:=hx;obtain⟨q,W8,sT,rows,Lv,e1,e2,e3,e4,e5⟩:=zT hr dB hi ⟨j6,g1,g2⟩;cases e1;obtain⟨row,rl,tI⟩:=gq e4 ha;exact ld (P:=P) (s:=s) hk tI.f2 hv (λhh hm=>za e3 rl λp hp=>e5 hm p hp) h
    ·cases h
   ·cases h
  ·cases h
 ·rename_i x;have hx:=eR hr x
  split at h
  ·rename_i ds off hl;rw [hl] at hx;obtain⟨B,o,cs,hv,h1,h2⟩:=Rd.uu hx;exact⟨_,_,λ_ _=>jN hv, .aU (.fp h1 h2 .nil),h⟩
  ·rename_i t off hl;rw [hl] at hx;obtain⟨B,h1,hv⟩:=hx;exact⟨_,_,λ_ _=>jN hv, .jd (jM.Oz h1),h⟩
  ·rename_i o hl;rw [hl] at hx;obtain⟨i0,rfl,h⟩:=Option.bind_eq_some_iff.1 h;obtain⟨B,hB,hv⟩:=Rd.sQ hx;exact⟨_,_,λ_ _=>jN hv, .aU (.Gr hB .nil),h⟩
  ·rename_i z0 i0 j0 off hl;rw [hl] at hx;obtain⟨hd,B,n,cp,g1,g2,hv⟩:=hx;exact⟨_,_,λ_ _=>jN hv, .jd (jM.Ks g1 g2 rfl),h⟩
  ·rename_i o hl;rw [hl] at hx;obtain⟨q0,rfl,h⟩:=Option.bind_eq_some_iff.1 h;obtain⟨hd,B,n,cp,g1,g2,hv⟩:=hx;exact⟨_,_,λ_ _=>jN hv, .jd (jM.Ks g1 g2 (by omega)),h⟩
  ·rename_i i0 off hl;rw [hl] at hx;obtain⟨B,hB,hv⟩:=hx;exact⟨_,_,λ_ _=>jN hv, .jd (jM.UR hB rfl),h⟩
  ·rename_i t z i0 off hl;rw [hl] at hx;obtain⟨B,n,cp,g1,hv⟩:=hx;exact⟨_,_,λ_ _=>jN hv, .jd (jM.UQ g1 rfl),h⟩
  ·cases h
 ·rename_i T parts
  split at h
  ·rename_i fs sz ag z Rs el ht;cases xV:(fs.all λf=>(C.tb[f.1]?).join.isSome) with
   | false=>rw [xV] at h;cases h
   | true =>
    rw [xV] at h;simp only [cond_true] at h
    split at h
    ·rename_i ds hp;have hk:=cK hT ht;obtain⟨a,hu,CP⟩:=hk.fA;have hz:F2 (jM F ι) (z.cells.toList.map tG) z.cells.toList:=vw _;have qF:∀ f∈a.toList,∃ t,ti C f.type=some t:=λf hf=>by have h1:=List.all_eq_true.1 xV (f.type,f.offset) (by rw [CP];exact List.mem_map.2 ⟨f,hf,rfl⟩);obtain⟨t,ht⟩:=Option.isSome_iff_exists.1 h1;exact⟨t,ht⟩
     let gf:Field->Nat×Nat:=λf=>(f.offset,((ti C f.type).map (·.size)).getD 0)
     have nI:∀ w,(a.mapM (m:=Sem) λf=>do pure (f.offset,<- sizeOf f.type)).run P w = .ok (a.toList.map gf).toArray w:=λw=>by
      rw [Array.mapM_eq_mapM_toList]
      have:=Hc (P:=P) (f:=λf:Field=>(do pure (f.offset,<- sizeOf f.type):Sem (Nat×Nat))) (gf:=gf) (w:=w) (l:=a.toList) λf hf=>by obtain⟨t,ht⟩:=qF f hf;simp [(cK hT ht).sM w,gf,ht]
      simp only [map_eq_pure_bind,Sem.run_bind,Sem.run_pure] at this ⊢;rw [this];rfl
     obtain⟨cs,h1,h2⟩:=sS (ι:=ι) (F:=F) (ρ:=ρ) (parts:=parts.toList) (zv:=z.cells.toList) hT hr hp (λq _=>eR hr q.2) hz (pl:=λi=>(a.toList.map gf).toArray[i]?) (λi ft fo hi t ht=>by
      rw [CP,List.getElem?_map] at hi;cases hf:a.toList[i]? with
      | none=>rw [hf] at hi;cases hi
      | some f =>
       rw [hf] at hi;cases hi;simp only [List.getElem?_toArray,List.getElem?_map,hf,Option.map_some,gf,ht,Option.getD_some])
     have run:∀ h',Pu P ρ ⟨dst, .build T parts,ty,p,af,gd⟩ h' (.agg cs.toArray):=λ_=>⟨λw _=>by
      have Wg:=hk.J7 w;simp only at Wg;have CQ:Instr.fill (λi=>(a.toList.map gf).toArray[i]?) z.cells (parts.toList.map λq=>(q.1,ev ρ q.2))=some cs.toArray:=by simpa using h1
      simp only [execOp,Instr.build,Sem.run_bind,Wg,Result.andThen_ok,run_underlying hu,nI w,Array.toList_map,CQ,Sem.run_pure]⟩
     cases tJ:ds.all D.plain with
     | false =>
      rw [tJ] at h;simp only [cond_false] at h
      split at h
      ·rename_i t rn;cases ZZ:(ds.take 9).all D.plain with
       | false=>rw [ZZ] at h;cases h
       | true =>
        rw [ZZ] at h;simp only [cond_true] at h;have e1:ds=ds.take 9++[.own t]:=by rw [<- rn,List.take_append_drop]
        have k9:=h2.drop 9;rw [rn] at k9;have nq:cs.drop 9=[(ι t).1]:=by
         generalize cs.drop 9=c9 at k9;cases k9 with
         | cons a b =>
          cases b;have a':_=(ι t).1:=a;rw [a']
        refine⟨.agg cs.toArray,_,λh' _=>run h', .jd (show jM F ι (.vS (ds.take 9) t) (.agg cs.toArray) from⟨cs.take 9,by rw [<- nq,List.take_append_drop],(h2.take 9).rd ZZ⟩),h⟩
      ·split at h
       ·rename_i t rest ac8;cases Z3:rest.all D.plain with
        | false=>rw [Z3] at h;cases h
        | true =>
         rw [Z3] at h;simp only [cond_true] at h;cases h2 with
         | cons ha hb =>
          have IF:_=(ι t).1:=ha;refine⟨_,_,λh' _=>run h', .jd (show jM F ι (.xi t rest) _ from⟨_,by rw [IF],hb.rd Z3⟩),h⟩
       ·cases h
     | true =>
      rw [tJ] at h;simp only [cond_true] at h;exact⟨.agg cs.toArray,_,λh' _=>run h', .aU (.agg (h2.rd tJ) .nil),h⟩
    ·cases h
  ·cases h
 ·rename_i T x lo hi;have Bb:∀ {k a n},(match lo with | none=>D.int .i64 n | some y=>g s y)=D.int k a->(∀ y,lo=some y->ev ρ y = .int k a)/\(lo=none->a=n):=λ{k a n} he=>by
   cases lo with
   | none=>cases he;exact⟨λy hy=>(by cases hy),λ_=>rfl⟩
   | some y =>
    simp only at he
    have:=eR hr y
    rw [he] at this;exact⟨λy' hy=>(by cases hy;exact Rd.c_ this),λh=>(by cases h)⟩
  have CZ:∀ {k a n},(match hi with | none=>D.int .i64 n | some y=>g s y)=D.int k a->(∀ y,hi=some y->ev ρ y = .int k a)/\(hi=none->a=n):=λ{k a n} he=>by
   cases hi with
   | none=>cases he;exact⟨λy hy=>(by cases hy),λ_=>rfl⟩
   | some y =>
    simp only at he
    have:=eR hr y
    rw [he] at this;exact⟨λy' hy=>(by cases hy;exact Rd.c_ this),λh=>(by cases h)⟩
  split at h
  ·rename_i ht
   split at h
   ·rename_i l hl
    split at h
    ·rename_i k1 a ha
     split at h
     ·rename_i k2 b hb;have hx:=eR hr x;rw [hl] at hx;have hx:=Rd.g_ hx
      haveI:gD P T .string:=⟨(cK hT ht).fA⟩
      obtain⟨m,hm,rG⟩:=Option.bind_eq_some_iff.1 h;obtain⟨a',b',rfl,rfl,h1,h2,rfl⟩:=vv hm;obtain⟨q1,q2⟩:=Bb ha;obtain⟨q3,q4⟩:=CZ hb;exact⟨_,_,λ_ _=>C0 hx (λy hy=>⟨_,q1 y hy⟩) (λhn=>by have:=q2 hn;omega) (λy hy=>⟨_,q3 y hy⟩) (λhn=>by have:=q4 hn;omega) h1 h2, .aU (.str .nil),rG⟩
     ·cases h
    ·cases h
   ·cases h
  ·rename_i et _ _ _ _ _ ht
   split at h
   ·rename_i te yP
    split at h
    ·rename_i e xs hl;cases hz:(te.size == e.sz) with
     | false=>rw [hz] at h;cases h
     | true =>
      rw [hz] at h;simp only [cond_true] at h;have hz:te.size=e.sz:=by simpa using hz
      split at h
      ·rename_i k1 a ha
       split at h
       ·rename_i k2 b hb;have hx:=eR hr x;rw [hl] at hx;obtain⟨q,cp,hv,pb,mC⟩:=Rd.at hx
        haveI:gD P T (.slice et):=⟨(cK hT ht).fA⟩
        haveI:se P et e.sz:=⟨λw=>by rw [<- hz];exact (cK hT yP).sM w⟩
        obtain⟨m,hm,rG⟩:=Option.bind_eq_some_iff.1 h;obtain⟨a',b',rfl,rfl,h1,h2,rfl⟩:=vv hm;obtain⟨q1,q2⟩:=Bb ha;obtain⟨q3,q4⟩:=CZ hb;have Rt:Rd F [.aB e xs] [.slice q xs.length cp]:=by rw [<- hv];exact hx
        exact⟨_,_,λ_ _=>sR hv (λy hy=>⟨_,q1 y hy⟩) (λhn=>by have:=q2 hn;omega) (λy hy=>⟨_,q3 y hy⟩) (λhn=>by have:=q4 hn;omega) h1 (by omega), .aU (Mf Rt h1 h2),rG⟩
       ·cases h
      ·cases h
    ·rename_i j0 hl
     split at h
     ·rename_i cl T0 A hs dB;cases hz:(te.size == cl.e.sz) with
      | false=>rw [hz] at h;cases h
      | true =>
       rw [hz] at h;simp only [cond_true] at h;have hz:te.size=cl.e.sz:=by simpa using hz
       obtain⟨n,my,h⟩:=Option.bind_eq_some_iff.1 h
       split at h
       ·rename_i k1 a ha
        split at h
        ·rename_i k2 b hb;have hx:=eR hr x;rw [hl] at hx;obtain⟨q,n',cp,rows,Lv,e1,e2,e3,e4,e5⟩:=zT hr dB my hx;obtain⟨j6,g1,g2⟩:=hx
         haveI:gD P T (.slice et):=⟨(cK hT ht).fA⟩
         haveI:se P et cl.e.sz:=⟨λw=>by rw [<- hz];exact (cK hT yP).sM w⟩
         obtain⟨m,hm,rG⟩:=Option.bind_eq_some_iff.1 h;obtain⟨a',b',rfl,rfl,h1,h2,rfl⟩:=vv hm;obtain⟨q1,q2⟩:=Bb ha;obtain⟨q3,q4⟩:=CZ hb;have hle:=e3.le;rw [e1] at g2;exact⟨_,_,λ_ _=>sR (sz:=cl.e.sz) e1 (λy hy=>⟨_,q1 y hy⟩) (λhn=>by have:=q2 hn;omega) (λy hy=>⟨_,q3 y hy⟩) (λhn=>by have:=q4 hn;omega) h1 (by omega), .jd (show jM F ι (.DD cl.e.sz j0 (a':Int).toNat (b':Int).toNat) _ from⟨j6,q,n',cp,g1,g2,by simpa using h1,by simpa [e2] using h2,by simp⟩),rG⟩
        ·cases h
       ·cases h
     ·cases h
    ·cases h
   ·cases h
  ·cases h
 ·rename_i S T x
  split at h
  ·rename_i k0 _ _ _ _ _ hS
   split at h
   ·rename_i k _ _ _ _ _ hD
    split at h
    ·rename_i k' a ha;have hx:=eR hr x;rw [ha] at hx
     haveI:gD P S (.int k0):=⟨(cK hT hS).fA⟩
     haveI:gD P T (.int k):=⟨(cK hT hD).fA⟩
     exact⟨_,_,λ_ _=>Q8 (Rd.c_ hx) rfl, .aU (.int .nil),h⟩
    ·cases h
   ·cases h
  ·rename_i et _ _ _ _ _ hS
   split at h
   ·rename_i _ _ _ _ hE
    split at h
    ·rename_i _ _ _ _ _ hD
     haveI:gD P S (.slice et):=⟨(cK hT hS).fA⟩
     haveI:gD P et (.int .u8):=⟨(cK hT hE).fA⟩
     haveI:gD P T .string:=⟨(cK hT hD).fA⟩
     have hx:=eR hr x
     split at h
     ·rename_i hg;rw [hg] at hx;exact⟨_,_,λ_ _=>Ka (e:=et) (Rd.nH hx), .aU (.str .nil),h⟩
     ·rename_i e xs hg;obtain⟨IG,hc,h⟩:=Option.bind_eq_some_iff.1 h;obtain⟨rfl,hc⟩:=jc hc;have hc:xs=IG:=hc;subst hc;rw [hg] at hx;obtain⟨q,cp,hv,pb,mC⟩:=Rd.at hx;refine⟨bs xs,_,λhh hm=>?_, .aU (.str .nil),h⟩;exact G5 (e:=et) hv (λi c hc=>by obtain⟨cs,a,b,c'⟩:=mC i c hc;have h1:=(Rd.Oy c').symm ▸ b;exact⟨a,hm.cell (by simpa [E.sz] using h1.1)⟩)
     ·rename_i t hg;rw [hg] at hx
      split at h
      ·rename_i e T' xs dB;obtain⟨IG,hc,h⟩:=Option.bind_eq_some_iff.1 h;obtain⟨rfl,hc⟩:=jc hc;have hc:xs=IG:=hc;subst hc;obtain⟨q,n,cp,rows,g1,g2,g3⟩:=hr.look dB;have hx:ev ρ x=(ι t).1:=hx;rw [g1] at hx;have hn:n=xs.length:=by rw [g2.len,<- bz g3]
       refine⟨bs xs,_,λhh hm=>?_, .aU (.str .nil),h⟩;refine G5 (e:=et) (by rw [hx,hn]) λi c hc=>?_
       rcases g2.sh with⟨he,_,_⟩ | ⟨B,n',cap,spare,he,hL,IH,As,hle⟩
       ·have hz:n=0:=by cases he;rfl
        have:=(List.getElem?_eq_some_iff.1 hc).1
        omega
       ·cases he;obtain⟨row,rl,tI⟩:=gq g3 hc;have h2:=za g2 rl λp hp=>hm.own p (List.mem_append_left _ (rS dB hp))
        rw [Rd.Oy tI] at h2;exact⟨rfl,by have:=h2.1;simpa [E.sz,lb,ka] using this⟩
      ·cases h
     ·cases h
    ·cases h
   ·cases h
  ·cases h
 ·rename_i T x y
  split at h
  ·rename_i kt vt _ _ _ _ _ ht
   split at h
   ·rename_i e _ _ _ _ _ hk
    split at h
    ·rename_i te yP;cases hz:Nat.blt 0 te.size with
     | false=>rw [hz] at h;cases h
     | true =>
      rw [hz] at h;simp only [cond_true] at h;have hz:0<te.size:=by simpa [Nat.blt_eq] using hz
      haveI:gD P T (.map kt vt):=⟨(cK hT ht).fA⟩
      haveI:gD P kt (.pointer e):=⟨(cK hT hk).fA⟩
      haveI:se P e te.size:=⟨(cK hT yP).sM⟩
      split at h
      ·rename_i hv
       haveI:IS P vt (.bool false):=⟨(cK hT hv).J7⟩
       split at h
       ·rename_i o ho;have hy:=nG ho (kQ.mn (eR hr y) (by
         have:=ho
         unfold qH at this
         split at this
         ·rename_i hd;rw [hd];rfl
         ·rename_i hd;rw [hd];rfl
         ·cases this))
        obtain⟨a,ha⟩:=hy.zb;rw [ha] at hy;have hx:=eR hr x
        split at h
        ·rename_i hg;rw [hg] at hx;exact⟨_,_,λ_ _=>I0 (kt:=kt) (vt:=vt) (e:=e) (Rd.uB hx) ha, .aU (.bool .nil),h⟩
        ·rename_i t hg;rw [hg] at hx
         split at h
         ·rename_i l dB;obtain⟨B,cs,g1,g2,g3⟩:=hr.look dB;have hx:ev ρ x=(ι t).1:=hx;rw [g1] at hx;have hf:=Ku hy 0 0 g3;refine⟨_,_,λhh hm=>?_, .aU (.bool .nil),h⟩;have hb:hh[B]?=some (GY cs):=hm.own (B,cs,BT.map) (List.mem_append_left _ (rS dB (by rw [g2];simp)))
          have:=LX (P:=P) (T:=T) (kt:=kt) (vt:=vt) (e:=e) (u := .bool false) (d:=dst) (ty:=ty) (p:=p) (af:=af) (g:=gd) (Kt a) hx ha hb (λw hw m tE=>by obtain⟨o',a',e1,e2⟩:=EO 0 g3 m (by simpa using tE);rw [e1];exact G6 (P:=P) (kt:=kt) (e:=e) (n:=te.size) (by omega) hm hw hy e2)
          rw [<- hf];exact this
         ·cases h
        ·cases h
       ·cases h
      ·cases h
    ·cases h
   ·cases h
  ·cases h
 ·rename_i f fs cs;cases tF:fs.isEmpty with
  | false=>rw [tF] at h;cases h
  | true =>
   rw [tF] at h;simp only [cond_true] at h;have CP:fs=#[]:=by simpa using tF
   subst CP;have e:cs.map (ev ρ)=(cs.toList.map (ev ρ)).toArray:=Array.ext' (by rw [Array.toList_map]);have xV:∀ l:List Operand,(l.map (g s)).all D.plain=true->Rd F (l.map (g s)) (l.map (ev ρ)):=λl hl=>by
    induction l with
    | nil=>exact .nil
    | cons x l ih =>
     simp only [List.map_cons,List.all_cons,Bool.and_eq_true] at hl;exact (kQ.mn (eR hr x) hl.1).cons (ih hl.2)
   split at h
   ·rename_i t ds hl;cases Wh:(ds.all D.plain && Nat.blt f 1000000) with
    | false=>rw [Wh] at h;cases h
    | true =>
     rw [Wh] at h;simp only [cond_true] at h;rw [Bool.and_eq_true] at Wh;obtain⟨hp,hfb⟩:=Wh;rw [Nat.blt_eq] at hfb;cases nq:cs.toList with
     | nil=>rw [nq] at hl;cases hl
     | cons x l =>
      rw [nq,List.map_cons] at hl;injection hl with h1 h2
      subst h2;have hx:=eR hr x;rw [h1] at hx;obtain⟨B,g1,g2⟩:=hx;refine⟨.func (.func f) #[] (cs.toList.map (ev ρ)).toArray, .mU f t (l.map (g s)),λ_ _=>⟨λw _=>by simp [execOp,Instr.makeFunc,e]⟩,?_,h⟩;exact kQ.jd ⟨B,l.map (ev ρ),g1,by rw [nq,List.map_cons,g2];exact .W6 hfb,xV l hp⟩
   ·cases hp:(cs.toList.map (g s)).all D.plain with
    | false=>rw [hp] at h;cases h
    | true =>
     rw [hp] at h;simp only [cond_true] at h;exact⟨.func (.func f) #[] (cs.toList.map (ev ρ)).toArray,_,λ_ _=>⟨λw _=>by simp [execOp,Instr.makeFunc,e]⟩, .aU (Rd.mq (xV _ hp) .nil),h⟩
 ·rename_i T x
  split at h
  ·rename_i t ht;cases hc:t.sh.UC with
   | false=>rw [hc] at h;cases h
   | true =>
    rw [hc] at h;simp only [cond_true] at h;have hu:=(cK hT ht).fA;have N4:∃ U,P.underlying T=some U/\∀ ms,U ≠ .interface ms:=by cases hs:t.sh <;> rw [hs] at hc hu <;> first | (simp [Sh.UC] at hc;done) | exact⟨_,hu,λ_ e=>by cases e⟩ | (obtain⟨a,hu,_⟩:=hu;exact⟨_,hu,λ_ e=>by cases e⟩)
    obtain⟨U,hU,eH⟩:=N4
    haveI:gD P T U:=⟨hU⟩
    have nI:∀ hh,Pu P ρ ⟨dst, .makeInterface T x,ty,p,af,gd⟩ hh (.iface T (ev ρ x)):=λhh=>⟨λw _=>by cases U <;> first | (exact absurd rfl (eH _)) | simp [execOp,Instr.makeInterface,fA T w]⟩
    split at h
    ·rename_i l hl;cases hp:l.all D.plain with
     | false =>
      rw [hp] at h;exact⟨_, .err true,λ_ _=>nI _, .aU (.err (b:=true) ⟨_,_,rfl⟩ .nil),h⟩
     | true =>
      rw [hp] at h;have hx:=eR hr x;rw [hl] at hx;obtain⟨cs,e1,e2⟩:=Rd.qd hx;exact⟨_, .zQ T l,λ_ _=>nI _, .aU (by rw [e1];exact .zQ e2 .nil),h⟩
    ·rename_i b0 hl;cases hc:(C.ID.any λq=>q.1 == T) with
     | false =>
      rw [hc] at h;exact⟨_, .err true,λ_ _=>nI _, .aU (.err (b:=true) ⟨_,_,rfl⟩ .nil),h⟩
     | true =>
      rw [hc] at h;have hx:=eR hr x;rw [hl] at hx;obtain⟨B,e1,e2⟩:=hx;exact⟨_, .mU (I4 T) b0 [],λ_ _=>nI _, .jd (show jM F ι (.mU (I4 T) b0 []) _ from⟨B,[],e1,by rw [e2];exact .W7, .nil⟩),h⟩
    ·exact⟨_, .err true,λ_ _=>nI _, .aU (.err (b:=true) ⟨_,_,rfl⟩ .nil),h⟩
  ·cases h
 ·rename_i c;obtain⟨callee,args,Tq⟩:=c
  split at h
  ·rename_i b hb;simp only at hb;subst hb;unfold UE at h
   split at h
   ·split at h
    ·rename_i x Kx
     split at h
     ·rename_i T Z4;have ea:args=#[x]:=Array.ext' Kx;have et:Tq=#[T]:=Array.ext' Z4;subst ea;have hx:=eR hr x
      split at h
      ·rename_i ht
       haveI:gD P T .string:=⟨(cK hT ht).fA⟩
       split at h
       ·rename_i l hl;rw [hl] at hx;exact⟨_,_,λ_ _=>Q5 (Rd.g_ hx) et, .aU (.int .nil),h⟩
       ·cases h
      ·rename_i e0 _ _ _ _ _ ht
       haveI:gD P T (.slice e0):=⟨(cK hT ht).fA⟩
       split at h
       ·rename_i e xs hl;rw [hl] at hx;obtain⟨q,cp,hv,pb,mC⟩:=Rd.at hx;exact⟨_,_,λ_ _=>uf hv et, .aU (.int .nil),h⟩
       ·rename_i hl;rw [hl] at hx;exact⟨_,_,λ_ _=>uf (Rd.nH hx) et, .aU (.int .nil),h⟩
       ·rename_i t hl;rw [hl] at hx
        split at h
        ·rename_i e T' xs dB;obtain⟨q,n,cp,rows,g1,g2,g3⟩:=hr.look dB;have hx:ev ρ x=(ι t).1:=hx;rw [g1] at hx;have Gs:n=xs.length:=by rw [g2.len,<- bz g3]
         exact⟨_,_,λ_ _=>uf hx et,by rw [Gs];exact .aU (.int .nil),h⟩
        ·cases h
       ·rename_i i0 hl;rw [hl] at hx
        split at h
        ·rename_i cl T0 A hs dB;obtain⟨n,hi,h⟩:=Option.bind_eq_some_iff.1 h;obtain⟨q,n',cp,rows,Lv,e1,e2,e3,e4,e5⟩:=zT hr dB hi hx;exact⟨_,_,λ_ _=>uf e1 et,by rw [e2];exact .aU (.int .nil),h⟩
        ·cases h
       ·cases h
      ·cases h
     ·cases h
    ·cases h
   ·split at h
    ·rename_i x y Kx;have ea:args=#[x,y]:=Array.ext' Kx;subst ea;have hx:=eR hr x;have hy:=eR hr y
     split at h
     ·rename_i k a ha
      split at h
      ·rename_i k' b hb;rw [ha] at hx;rw [hb] at hy;cases hk:decide (k=k') with
       | false=>rw [hk] at h;cases h
       | true =>
        rw [hk] at h;have ud:k=k':=by simpa using hk
        subst ud;exact⟨_,_,λ_ _=>Uo (Rd.c_ hx) (Rd.c_ hy), .aU (.int .nil),h⟩
      ·cases h
     ·cases h
    ·cases h
   ·split at h
    ·rename_i x y Kx;have ea:args=#[x,y]:=Array.ext' Kx;subst ea;have hx:=eR hr x;have hy:=eR hr y
     split at h
     ·rename_i k a ha
      split at h
      ·rename_i k' b hb;rw [ha] at hx;rw [hb] at hy;cases hk:decide (k=k') with
       | false=>rw [hk] at h;cases h
       | true =>
        rw [hk] at h;have ud:k=k':=by simpa using hk
        subst ud;exact⟨_,_,λ_ _=>Up (Rd.c_ hx) (Rd.c_ hy), .aU (.int .nil),h⟩
      ·cases h
     ·cases h
    ·cases h
   ·cases h
  ·cases h
 ·cases h
theorem EP {K:D->Option R}{o:Op}(hT:vY P C)(hr:Rel F ι s ρ)(hf:GW s o=true)(h:nF C s o K=some r):∃ v d,(∀ h,Pu P ρ ⟨dst,o,ty,p,af,gd⟩ h v)/\kQ F ι d v/\K d=some r:=by
 unfold GW at hf
 split at hf
 ·rename_i T x lo hi
  split at hf
  ·rename_i j0 hl;simp only [nF,hl] at h;have Bb:∀ {k a n},(match lo with | none=>D.int .i64 n | some y=>g s y)=D.int k a->(∀ y,lo=some y->ev ρ y = .int k a)/\(lo=none->a=n):=λ{k a n} he=>by
    cases lo with
    | none=>cases he;exact⟨λy hy=>(by cases hy),λ_=>rfl⟩
    | some y =>
     simp only at he
     have:=eR hr y
     rw [he] at this;exact⟨λy' hy=>(by cases hy;exact Rd.c_ this),λh=>(by cases h)⟩
   have CZ:∀ {k a n},(match hi with | none=>D.int .i64 n | some y=>g s y)=D.int k a->(∀ y,hi=some y->ev ρ y = .int k a)/\(hi=none->a=n):=λ{k a n} he=>by
    cases hi with
    | none=>cases he;exact⟨λy hy=>(by cases hy),λ_=>rfl⟩
    | some y =>
     simp only at he
     have:=eR hr y
     rw [he] at this;exact⟨λy' hy=>(by cases hy;exact Rd.c_ this),λh=>(by cases h)⟩
   split at h
   ·cases h
   ·rename_i et _ _ _ _ _ ht
    split at h
    ·rename_i te yP
     split at h
     ·rename_i cl T0 A hs dB;cases hz:(te.size == cl.e.sz) with
      | false=>rw [hz] at h;cases h
      | true =>
       rw [hz] at h;simp only [cond_true] at h;have hz:te.size=cl.e.sz:=by simpa using hz
       obtain⟨n,my,h⟩:=Option.bind_eq_some_iff.1 h
       split at h
       ·rename_i k1 a ha
        split at h
        ·rename_i k2 b hb;have hx:=eR hr x;rw [hl] at hx;obtain⟨q,n',cp,rows,Lv,e1,e2,e3,e4,e5⟩:=zT hr dB my hx;obtain⟨j6,g1,g2⟩:=hx
         haveI:gD P T (.slice et):=⟨(cK hT ht).fA⟩
         haveI:se P et cl.e.sz:=⟨λw=>by rw [<- hz];exact (cK hT yP).sM w⟩
         obtain⟨m,hm,rG⟩:=Option.bind_eq_some_iff.1 h;obtain⟨a',b',rfl,rfl,h1,h2,rfl⟩:=vv hm;obtain⟨q1,q2⟩:=Bb ha;obtain⟨q3,q4⟩:=CZ hb;have hle:=e3.le;rw [e1] at g2;exact⟨_,_,λ_=>sR (sz:=cl.e.sz) e1 (λy hy=>⟨_,q1 y hy⟩) (λhn=>by have:=q2 hn;omega) (λy hy=>⟨_,q3 y hy⟩) (λhn=>by have:=q4 hn;omega) h1 (by omega), .jd (show jM F ι (.DD cl.e.sz j0 (a':Int).toNat (b':Int).toNat) _ from⟨j6,q,n',cp,g1,g2,by simpa using h1,by simpa [e2] using h2,by simp⟩),rG⟩
        ·cases h
       ·cases h
     ·cases h
    ·cases h
   ·cases h
  ·cases hf
 ·rename_i xs Tq
  split at hf
  ·rename_i x Kx
   split at hf
   ·rename_i i0 hl;simp only [nF] at h;unfold UE at h;simp only [Kx] at h
    split at h
    ·rename_i T Z4;have ea:xs=#[x]:=Array.ext' Kx;have et:Tq=#[T]:=Array.ext' Z4;subst ea;have hx:=eR hr x;rw [hl] at hx;simp only [hl] at h
     split at h
     ·cases h
     ·rename_i e0 _ _ _ _ _ ht
      haveI:gD P T (.slice e0):=⟨(cK hT ht).fA⟩
      split at h
      ·rename_i cl T0 A hs dB;obtain⟨n,hi,h⟩:=Option.bind_eq_some_iff.1 h;obtain⟨q,n',cp,rows,Lv,e1,e2,e3,e4,e5⟩:=zT hr dB hi hx;exact⟨_,_,λ_=>uf e1 et,by rw [e2];exact .aU (.int .nil),h⟩
      ·cases h
     ·cases h
    ·cases h
   ·cases hf
  ·cases hf
 ·cases hf
end
theorem He {P:Program}{S X e ty:TypeId}{X':TypeId}{i:TypeInfo}{z:Value}{sz n:Nat}{xv:Value}{v:Value}{il new:List Value}{Lv L1 L2 Lf:List gJ}{F:iH}{E:Env}{h:Array Obj}
  [gD P S (.slice e)] [gD P X (.slice X')] [se P e sz] [Gm P e i] [IS P e z] (hz:z.cells.size=sz) (hm:Hp h F Lf) (hL:Lf=L1++(Lv++L2)) (sh:Ao sz e v Lv il) (QH:∀ w:World,(Builtin.lenOf xv).run P w = .ok n w) (rH:∀ w:World,w.heap=h->(Builtin.firstCells sz n xv).run P w = .ok new.toArray w) (hn:new.length=n*sz) (mW:∀ u∈new,u.oneCell'=true)
  (hr:(il.length+new.length)*(i.bytes+1)<=2 ^ 46) (qF:0<sz) (w:World) (hw:At E h w) (j4:0<n) :
  ∃ v' w' nC h',(Builtin.append_ #[S,X] ty #[v,xv]).run P w = .ok v' w'/\At E h' w'/\Ao sz e v' nC (il++new)/\Hp h' F (L1++(nC++L2)):=by
 have hlen:new.length ≥ n:=by rw [hn];exact Nat.le_mul_of_pos_right n qF
 have key:∀ (q:Option Addr) (fS uC:Nat) (fe:List Value),v = .slice q fS uC->uC<fS+n->fS<=il.length->fe=il->(∀ w:World,w.heap=h->(Builtin.firstCells sz fS v).run P w = .ok fe.toArray w)->fS*sz=il.length ->
   ∃ v' w' nC h',(Builtin.append_ #[S,X] ty #[v,xv]).run P w = .ok v' w'/\At E h' w'/\Ao sz e v' nC (il++new)/\Hp h' F (L1++(nC++L2)):=by
  intro q fS uC fe hv As Bc hold Je mD;subst hold;have UW:(fS+n)*i.bytes<=2 ^ 46:=Nat.le_trans (Nat.mul_le_mul (by omega) (by omega)) hr;have CM:¬ Builtin.nextslicecap (fS+n) uC*i.bytes > 2 ^ 48:=by
   have h1:=K.nextslicecap_le (fS+n) uC As;have h2:Builtin.nextslicecap (fS+n) uC*i.bytes<=2*(fS+n)*i.bytes:=Nat.mul_le_mul_right _ h1;have h3:2*(fS+n)*i.bytes=2*((fS+n)*i.bytes):=by rw [Nat.mul_assoc]
   omega
  have Bd:¬ (((fS+n:Nat):Int) > IntKind.i64.max/\(false=true∨i.bytes=0)):=by have h4:(fS+n)<=(fe.length+new.length)*(i.bytes+1):=Nat.le_trans (by omega) (Nat.le_mul_of_pos_right _ (by omega));simp only [IntKind.max,IntKind.signed,IntKind.bits];simp;omega
  let q':Question := .appendCap (fS+n) uC e
  let nc:=q'.cut (w.tape w.drawn q')
  have Q_:fS+n<=nc:=Nat.le_add_right _ _
  let w1:World:=w.drew
  let cs:=fe++new++(Builtin.zeroCells z.cells (nc - (fS+n))).toList
  have IX:w.heap=h:=hw.1;refine⟨.slice (some ⟨h.size,0,none⟩) (fS+n) nc,{ w1 with heap:=w1.heap.push (.cells cs.toArray e (0,0)) },[(h.size,cs,BT.c e)],h.push (.cells cs.toArray e (0,0)),?_,⟨by rw [<- IX];rfl,hw.2.1,hw.2.2.1,hw.2.2.2⟩, .inr ⟨h.size,fS+n,nc,(Builtin.zeroCells z.cells (nc - (fS+n))).toList,rfl,rfl,?_,?_,Q_⟩,?_⟩
  ·have OD:¬ (fS+n<=uC):=by omega
   subst hv;simp only [Builtin.append_];simp [fA S w,fA X w,sM e w,QH,OD,λw=>inf (P:=P) e w,CM];have UX:¬ (9223372036854775807<((fS:Int)+(n:Int))/\i.bytes=0):=by simp only [IntKind.max,IntKind.signed,IntKind.bits] at Bd;simp at Bd;omega
   simp only [IntKind.max,IntKind.signed,IntKind.bits] at *;simp [UX,Question.forced];have h5:=Je w1 IX;have h6:=rH w1 IX;simp only [w1] at h5 h6;simp [h5,h6,λw=>J7 (P:=P) e w,newRow,IX,cs,nc,q',w1];exact congrArg (λa=>w.drew.alloc (Obj.cells a e)) (Array.ext' (by simp))
  ·simp [Nat.add_mul,hn];omega
  ·simp only [List.length_append,Array.length_toList,sm,hz];rw [hn,<- mD,Nat.sub_mul,Nat.add_mul]
   have:=Nat.mul_le_mul_right sz Q_
   rw [Nat.add_mul] at this;omega
  ·have h7:=hm.push cs e;have h8:Hp _ F ((h.size,cs,BT.c e)::(L1++L2)):=h7.sub (by rw [hL];exact List.Sublist.cons_cons _ ((List.Sublist.refl _).append (List.sublist_append_right _ _)));exact h8.perm List.perm_middle
 rcases sh with⟨rfl,rfl,rfl⟩ | ⟨B,fS,cap,spare,rfl,rfl,mD,W9,hle⟩
 ·exact key none 0 0 [] rfl (by omega) (Nat.le_refl _) rfl (λw _=>by simp [Builtin.firstCells]) (by simp)
 ·by_cases BE:fS+n<=cap
  ·have sj:(B,il++spare,BT.c e)∈Lf:=by rw [hL];simp
   obtain⟨fz,A7,hb⟩:=(hm.own _ sj).cells;have lC:new.length<=spare.length:=by
    have:=Nat.mul_le_mul_right sz BE
    rw [Nat.add_mul] at this;omega
   obtain⟨w',h1,h2,h3,h4,h5,h6,h7⟩:=kR (P:=P) new il spare w B 0 e A7 mW (by rw [hw.1];exact hb) lC (fS*sz) (by rw [mD];rfl);refine⟨.slice (some ⟨B,0,none⟩) (fS+n) cap,w',[(B,(il++new)++spare.drop new.length,BT.c e)],w'.heap,?_,⟨rfl,by rw [h2];exact hw.2.1,by rw [h3];exact hw.2.2.1,by rw [h4];exact hw.2.2.2⟩, .inr ⟨B,fS+n,cap,spare.drop new.length,rfl,rfl,by simp [Nat.add_mul,hn];omega,by simp;omega,BE⟩,?_⟩
   ·have h8:=rH w hw.1;simp only [Builtin.append_];simp [fA S w,fA X w,sM e w,QH,BE,h8,pJ,h1]
   ·have Gs:Lf[L1.length]?=some (B,il++spare,BT.c e):=by rw [hL];simp
    have UY:((il++new)++spare.drop new.length).length=(il++spare).length:=by simp;omega
    have hp:=hm.put (h':=w'.heap) (cs':=(il++new)++spare.drop new.length) Gs (λb Dy=>by rw [h6 b Dy,hw.1]) hb (by rw [UY];exact A7) (by rw [h7]);rw [hL,List.set_append_right _ _ (Nat.le_refl _)] at hp;simpa using hp
  ·refine key (some ⟨B,0,none⟩) fS cap il rfl (by omega) ?_ rfl (λw Z5=>?_) mD
   ·rw [<- mD];exact Nat.le_mul_of_pos_right _ qF
   ·have sj:(B,il++spare,BT.c e)∈Lf:=by rw [hL];simp
    obtain⟨fz,_,hb⟩:=(hm.own _ sj).cells;have hc:=fg il [] spare 0 (by simpa using hb) rfl;subst Z5
    have:=K.run_loadCellsFrom (P:=P) w B 0 il 0 #[] (by simpa using hc)
    simpa [Builtin.firstCells,loadCells,mD] using this
theorem Hf {P:Program}{S X e ty:TypeId}{X':TypeId}{i:TypeInfo}{z:Value}{sz n:Nat}{xv:Value}{v:Value}{il new:List Value}{Lv L1 L2 Lf:List gJ}{F:iH}{E:Env}{h:Array Obj}
  [gD P S (.slice e)] [gD P X .string] [se P e sz] [Gm P e i] [IS P e z] (hz:z.cells.size=sz) (hm:Hp h F Lf) (hL:Lf=L1++(Lv++L2)) (sh:Ao sz e v Lv il) (QH:∀ w:World,(Builtin.lenOf xv).run P w = .ok n w) (rH:∀ w:World,w.heap=h->(Builtin.firstCells sz n xv).run P w = .ok new.toArray w) (hn:new.length=n*sz) (mW:∀ u∈new,u.oneCell'=true)
  (hr:(il.length+new.length)*(i.bytes+1)<=2 ^ 46) (qF:0<sz) (w:World) (hw:At E h w) (j4:0<n) :
  ∃ v' w' nC h',(Builtin.append_ #[S,X] ty #[v,xv]).run P w = .ok v' w'/\At E h' w'/\Ao sz e v' nC (il++new)/\Hp h' F (L1++(nC++L2)):=by
 have hlen:new.length ≥ n:=by rw [hn];exact Nat.le_mul_of_pos_right n qF
 have key:∀ (q:Option Addr) (fS uC:Nat) (fe:List Value),v = .slice q fS uC->uC<fS+n->fS<=il.length->fe=il->(∀ w:World,w.heap=h->(Builtin.firstCells sz fS v).run P w = .ok fe.toArray w)->fS*sz=il.length ->
   ∃ v' w' nC h',(Builtin.append_ #[S,X] ty #[v,xv]).run P w = .ok v' w'/\At E h' w'/\Ao sz e v' nC (il++new)/\Hp h' F (L1++(nC++L2)):=by
  intro q fS uC fe hv As Bc hold Je mD;subst hold;have UW:(fS+n)*i.bytes<=2 ^ 46:=Nat.le_trans (Nat.mul_le_mul (by omega) (by omega)) hr;have CM:¬ Builtin.nextslicecap (fS+n) uC*i.bytes > 2 ^ 48:=by
   have h1:=K.nextslicecap_le (fS+n) uC As;have h2:Builtin.nextslicecap (fS+n) uC*i.bytes<=2*(fS+n)*i.bytes:=Nat.mul_le_mul_right _ h1;have h3:2*(fS+n)*i.bytes=2*((fS+n)*i.bytes):=by rw [Nat.mul_assoc]
   omega
  have Bd:¬ (((fS+n:Nat):Int) > IntKind.i64.max/\(false=true∨i.bytes=0)):=by have h4:(fS+n)<=(fe.length+new.length)*(i.bytes+1):=Nat.le_trans (by omega) (Nat.le_mul_of_pos_right _ (by omega));simp only [IntKind.max,IntKind.signed,IntKind.bits];simp;omega
  let q':Question := .appendCap (fS+n) uC e
  let nc:=q'.cut (w.tape w.drawn q')
  have Q_:fS+n<=nc:=Nat.le_add_right _ _
  let w1:World:=w.drew
  let cs:=fe++new++(Builtin.zeroCells z.cells (nc - (fS+n))).toList
  have IX:w.heap=h:=hw.1;refine⟨.slice (some ⟨h.size,0,none⟩) (fS+n) nc,{ w1 with heap:=w1.heap.push (.cells cs.toArray e (0,0)) },[(h.size,cs,BT.c e)],h.push (.cells cs.toArray e (0,0)),?_,⟨by rw [<- IX];rfl,hw.2.1,hw.2.2.1,hw.2.2.2⟩, .inr ⟨h.size,fS+n,nc,(Builtin.zeroCells z.cells (nc - (fS+n))).toList,rfl,rfl,?_,?_,Q_⟩,?_⟩
  ·have OD:¬ (fS+n<=uC):=by omega
   subst hv;simp only [Builtin.append_];simp [fA S w,fA X w,sM e w,QH,OD,λw=>inf (P:=P) e w,CM];have UX:¬ (9223372036854775807<((fS:Int)+(n:Int))/\i.bytes=0):=by simp only [IntKind.max,IntKind.signed,IntKind.bits] at Bd;simp at Bd;omega
   simp only [IntKind.max,IntKind.signed,IntKind.bits] at *;simp [UX,Question.forced];have h5:=Je w1 IX;have h6:=rH w1 IX;simp only [w1] at h5 h6;simp [h5,h6,λw=>J7 (P:=P) e w,newRow,IX,cs,nc,q',w1];exact congrArg (λa=>w.drew.alloc (Obj.cells a e)) (Array.ext' (by simp))
  ·simp [Nat.add_mul,hn];omega
  ·simp only [List.length_append,Array.length_toList,sm,hz];rw [hn,<- mD,Nat.sub_mul,Nat.add_mul]
   have:=Nat.mul_le_mul_right sz Q_
   rw [Nat.add_mul] at this;omega
  ·have h7:=hm.push cs e;have h8:Hp _ F ((h.size,cs,BT.c e)::(L1++L2)):=h7.sub (by rw [hL];exact List.Sublist.cons_cons _ ((List.Sublist.refl _).append (List.sublist_append_right _ _)));exact h8.perm List.perm_middle
 rcases sh with⟨rfl,rfl,rfl⟩ | ⟨B,fS,cap,spare,rfl,rfl,mD,W9,hle⟩
 ·exact key none 0 0 [] rfl (by omega) (Nat.le_refl _) rfl (λw _=>by simp [Builtin.firstCells]) (by simp)
 ·by_cases BE:fS+n<=cap
  ·have sj:(B,il++spare,BT.c e)∈Lf:=by rw [hL];simp
   obtain⟨fz,A7,hb⟩:=(hm.own _ sj).cells;have lC:new.length<=spare.length:=by
    have:=Nat.mul_le_mul_right sz BE
    rw [Nat.add_mul] at this;omega
   obtain⟨w',h1,h2,h3,h4,h5,h6,h7⟩:=kR (P:=P) new il spare w B 0 e A7 mW (by rw [hw.1];exact hb) lC (fS*sz) (by rw [mD];rfl);refine⟨.slice (some ⟨B,0,none⟩) (fS+n) cap,w',[(B,(il++new)++spare.drop new.length,BT.c e)],w'.heap,?_,⟨rfl,by rw [h2];exact hw.2.1,by rw [h3];exact hw.2.2.1,by rw [h4];exact hw.2.2.2⟩, .inr ⟨B,fS+n,cap,spare.drop new.length,rfl,rfl,by simp [Nat.add_mul,hn];omega,by simp;omega,BE⟩,?_⟩
   ·have h8:=rH w hw.1;simp only [Builtin.append_];simp [fA S w,fA X w,sM e w,QH,BE,h8,pJ,h1]
   ·have Gs:Lf[L1.length]?=some (B,il++spare,BT.c e):=by rw [hL];simp
    have UY:((il++new)++spare.drop new.length).length=(il++spare).length:=by simp;omega
    have hp:=hm.put (h':=w'.heap) (cs':=(il++new)++spare.drop new.length) Gs (λb Dy=>by rw [h6 b Dy,hw.1]) hb (by rw [UY];exact A7) (by rw [h7]);rw [hL,List.set_append_right _ _ (Nat.le_refl _)] at hp;simpa using hp
  ·refine key (some ⟨B,0,none⟩) fS cap il rfl (by omega) ?_ rfl (λw Z5=>?_) mD
   ·rw [<- mD];exact Nat.le_mul_of_pos_right _ qF
   ·have sj:(B,il++spare,BT.c e)∈Lf:=by rw [hL];simp
    obtain⟨fz,_,hb⟩:=(hm.own _ sj).cells;have hc:=fg il [] spare 0 (by simpa using hb) rfl;subst Z5
    have:=K.run_loadCellsFrom (P:=P) w B 0 il 0 #[] (by simpa using hc)
    simpa [Builtin.firstCells,loadCells,mD] using this
theorem Hg {P:Program}{S X e ty:TypeId}{X':TypeId}{i:TypeInfo}{z:Value}{sz n cx:Nat}{v:Value}{il new:List Value}{Lv L1 L2 Lf:List gJ}{F:iH}{Bx ox:Nat}{E:Env}{h:Array Obj}
  [gD P S (.slice e)] [gD P X (.slice X')] [se P e sz] [Gm P e i] [IS P e z] (hz:z.cells.size=sz) (hm:Hp h F Lf) (hL:Lf=L1++(Lv++L2)) (sh:Ao sz e v Lv il) (hx:bm h Bx ox new) (hn:new.length=n*sz) (mW:∀ u∈new,u.oneCell'=true)
  (hr:(il.length+new.length)*(i.bytes+1)<=2 ^ 46) (qF:0<sz) (w:World) (hw:At E h w) (j4:0<n) :
  ∃ v' w' nC h',(Builtin.append_ #[S,X] ty #[v, .slice (some ⟨Bx,ox,none⟩) n cx]).run P w = .ok v' w'/\At E h' w'/\Ao sz e v' nC (il++new)/\Hp h' F (L1++(nC++L2)) :=
 He (X':=X') hz hm hL sh (λw=>by simp [Builtin.lenOf]) (λw hw=>by
  subst hw
  have:=K.run_loadCellsFrom (P:=P) w Bx ox new 0 #[] (by simpa using hx)
  rw [hn] at this;simpa [Builtin.firstCells,loadCells] using this) hn mW hr qF w hw j4
def pf {R:Type}(K:D->St->Option R)(r:R)(F:iH)(ι:Gh)(s:St)(ρ:List Value)(L0:List gJ)(dt:Nat)(v:Value)(h':Array Obj):Prop :=
 ∃ F' ι' d' s',F.le F'/\Rel F' ι' s' ρ/\Hp h' F' (lv ι' s'.ow++L0)/\kQ F' ι' d' v/\K d' s'=some r/\s'.n=s.n/\s'.np=s.np/\s'.nw=s.nw/\(s.nw=false->F'.fF=F.fF)/\(∀ t,(s.np / 1000<=t/\t<s.np % 1000)->(ι' t).1=(ι t).1)/\∀ t,(∀ p∈s.ow,p.1≠t)->t≠dt->t / 1000≠dt+1->(SB<=t->(∀ p∈s.ow,p.1≠(t - SB) / 64)/\(t - SB) / 64 / 1000≠dt+1)->ι' t=ι t
section
variable {P:Program}{C:Cx}{R:Type}{F F':iH}{ι ι':Gh}{s s':St}{ρ:List Value}{d:D}{v:Value}{t dt:Nat}{L0:List gJ}{r:R}{dst:Option Tmp}{ty:TypeId}{p:String}{af:Array Edge}{gd:Option (Nat×Bool)}{h:Array Obj}
theorem BF {b:OB}(hn:(s.ow.map (·.1)).Nodup)(hl:s.look t=some b):∃ l1 l2,lv ι s.ow=l1++((ι t).2++l2)/\lv ι (s.au t).ow=l1++l2:=by obtain⟨A,B,hs,hA,hB⟩:=xZ hn hl;refine⟨lv ι A,lv ι B,by rw [hs,eX,vu],?_⟩;rw [uv (mV s t),hs,List.filter_append,List.filter_cons,ng hA,ng hB];simp [eX]
theorem DL {α β:Type}{R:α->β->Prop}:∀ {xs:List α} {Q:Nat->β->Prop},(∀ i x,xs[i]?=some x->∃ r,R x r/\Q i r)->∃ rows,F2 R xs rows/\∀ i r,rows[i]?=some r->Q i r
 | [],Q,_=>⟨[], .nil,λi r hr=>by simp at hr⟩
 | x::xs,Q,hq=>by
  obtain⟨r,h1,h2⟩:=hq 0 x rfl;obtain⟨rows,h3,h4⟩:=DL (xs:=xs) (Q:=λi=>Q (i+1)) λi y hy=>hq (i+1) y (by simpa using hy)
  refine⟨r::rows, .cons h1 h3,λi q hi=>?_⟩
  match i with
  | 0=>simp at hi;subst hi;exact h2
  | i+1=>exact h4 i q (by simpa using hi)
theorem xn {e:E}:∀ {xs:List e.T} {rows:List (List Value)},F2 (λx r=>Rd F (e.enc x) r) xs rows->∀ r∈rows,r.length=e.sz
 | _,_, .nil,r,hr=>by cases hr
 | _,_, .cons h t,r,hr=>by
  rcases List.mem_cons.1 hr with rfl | hr
  ·rw [h.length,mQ]
  ·exact xn t r hr
theorem x8 {e:E}:∀ {xs:List e.T} {rows:List (List Value)},F2 (λx r=>Rd F (e.enc x) r) xs rows->∀ r∈rows,∀ u∈r,u.oneCell'=true
 | _,_, .nil,r,hr=>by cases hr
 | _,_, .cons h t,r,hr=>by
  rcases List.mem_cons.1 hr with rfl | hr
  ·exact h.Rj (y_ _ _)
  ·exact x8 t r hr
theorem Ky {i:Nat}{e:E}{xs:List e.T}(h:Wb s i e=some xs):∃ (c:Cl) (T A:TypeId) (hs:List c.R) (n:c.R),s.look NT=some (.nodes c T A hs none)/\hs[i]?=some n/\lq c.e e (c.xs n)=some xs:=by
 unfold Wb at h
 split at h
 ·rename_i c T A hs dB
  split at h
  ·rename_i n hn;exact⟨c,T,A,hs,n,dB,hn,h⟩
  ·cases h
 ·cases h
theorem qf {e:E}{ys:List e.T}(hr:Rel F ι s ρ)(hm:Hp h F (lv ι s.ow++L0))(hd:kQ F ι d v)(hl:yZ s d e=some ys) :
  ∃ qx nx cx rows,v = .slice qx nx cx/\nx=ys.length/\nx<=cx/\(0<nx->qx=some ⟨lb qx,ka qx,none⟩)/\F2 (λx r=>Rd F (e.enc x) r) ys rows/\bm h (lb qx) (ka qx) rows.flatten:=by
 unfold yZ at hl
 split at hl
 ·cases hl;exact⟨none,0,0,[],Rd.nH hd,rfl,Nat.le_refl _,λh=>by omega, .nil,trivial⟩
 ·rename_i e' xs;obtain⟨rfl,rfl⟩:=jc hl;obtain⟨q,cp,hv,pb,mC⟩:=Rd.at hd;obtain⟨rows,h1,h2⟩:=DL (R:=λx r=>Rd F (e'.enc x) r) (Q:=λi cs=>q=some ⟨lb q,ka q,none⟩/\jO F (lb q) (ka q+i*e'.sz) cs) λi x hx=>by obtain⟨cs,a,b,c⟩:=mC i x hx;exact⟨cs,c,a,b⟩
  refine⟨q,xs.length,cp,rows,hv,rfl,pb,λj4=>?_,h1,GJ.all (xn h1) λi r hi=>hm.cells (h2 i r hi).2⟩;obtain⟨cs,a,_⟩:=mC 0 xs[0] (by simp);exact a
 ·rename_i t'
  split at hl
  ·rename_i e' T xs dB;obtain⟨rfl,rfl⟩:=jc hl;obtain⟨q,n,cp,rows,g1,g2,g3⟩:=hr.look dB;have hd:v=(ι t').1:=hd;have Gs:n=xs.length:=by rw [g2.len,<- bz g3]
   refine⟨q,n,cp,rows,by rw [hd,g1],Gs,g2.le,λj4=>?_,g3,?_⟩
   ·rcases g2.sh with⟨he,_,_⟩ | ⟨B,n',cap,spare,he,_,_,_,_⟩
    ·cases he;omega
    ·cases he;rfl
   ·rcases g2.sh with⟨he,_,hv⟩ | ⟨B,n',cap,spare,he,hL,_,_,_⟩
    ·rw [hv];trivial
    ·cases he;obtain⟨fz,_,this⟩:=(hm.own (B,rows.flatten++spare,BT.c T) (List.mem_append_left _ (rS dB (by rw [hL];simp)))).cells;exact fg rows.flatten [] spare 0 (by show h[B]?=_;simpa using this) rfl
  ·cases hl
 ·rename_i i;obtain⟨c,T,A,hs,n,dB,hn,hl⟩:=Ky hl;obtain⟨he,hl⟩:=jc hl;subst he;have hl:c.xs n=ys:=hl;subst hl;obtain⟨q,n',cp,rows,Lv,e1,e2,e3,e4,e5⟩:=zT hr dB hn hd;refine⟨q,n',cp,rows,e1,e2,e3.le,λj4=>?_,e4,?_⟩
  ·rcases e3.sh with⟨he,_,_⟩ | ⟨B,W8,cap,spare,he,_,_,_,_⟩
   ·cases he;omega
   ·cases he;rfl
  ·rcases e3.sh with⟨he,_,hv⟩ | ⟨B,W8,cap,spare,he,hL,_,_,_⟩
   ·rw [hv];trivial
   ·cases he;obtain⟨fz,_,this⟩:=(e5 hm (B,rows.flatten++spare,BT.c A) (by rw [hL];simp)).cells;exact fg rows.flatten [] spare 0 (by show h[B]?=_;simpa using this) rfl
 ·rename_i z i a b;cases hz:(z == e.sz) with
  | false=>rw [hz] at hl;cases hl
  | true =>
   rw [hz] at hl;simp only [cond_true] at hl;have hz:z=e.sz:=by simpa using hz
   subst hz
   split at hl
   ·rename_i xs Rr;cases hl;obtain⟨c,T,A,hs,n,dB,hn,hc⟩:=Ky Rr;obtain⟨he,hc⟩:=jc hc;subst he;have hc:c.xs n=xs:=hc;subst hc;obtain⟨j6,q0,n0,cp0,g1,g2,p_,Wf,hv⟩:=hd;obtain⟨q,n',cp,rows,Lv,e1,e2,e3,e4,e5⟩:=zT (v := .slice q0 n0 cp0) hr dB hn ⟨j6,g1,g2⟩;cases e1;have hle:=e3.le;have WQ:rows.length=n0:=e3.len.symm;have QH:(c.xs n).length=n0:=e2.symm;have W_:F2 (λx r=>Rd F (c.e.enc x) r) (((c.xs n).take b).drop a) ((rows.take b).drop a):=(e4.take b).drop a;have hlen:(((c.xs n).take b).drop a).length=b - a:=by simp;omega
    refine⟨_,b - a,cp0 - a,(rows.take b).drop a,hv,hlen.symm,by omega,λj4=>?_,W_,?_⟩
    ·rw [if_neg (by omega)];rcases e3.sh with⟨he,_,_⟩ | ⟨B,W8,cap,spare,he,_,_,_,_⟩
     ·have:n0=0:=by cases he;rfl
      omega
     ·have:q0=some ⟨B,0,none⟩:=by cases he;rfl
      subst this;simp [pJ,lb,ka]
    ·rcases Nat.eq_or_lt_of_le p_ with h0 | jC
     ·have:(rows.take b).drop a=[]:=by
       apply List.eq_nil_of_length_eq_zero
       simp;omega
      rw [this];trivial
     ·rw [if_neg (by omega)];rcases e3.sh with⟨he,_,_⟩ | ⟨B,W8,cap,spare,he,hL,_,_,_⟩
      ·have:n0=0:=by cases he;rfl
       omega
      ·have:q0=some ⟨B,0,none⟩:=by cases he;rfl
       subst this;obtain⟨fz,_,this⟩:=(e5 hm (B,rows.flatten++spare,BT.c A) (by rw [hL];simp)).cells;have lC:rows=rows.take a++((rows.take b).drop a++rows.drop b):=by
        have h1:rows.take b=rows.take a++(rows.take b).drop a:=by
         conv=>lhs;rw [<- List.take_append_drop a (rows.take b)]
         rw [List.take_take,Nat.min_eq_left p_]
        rw [<- List.append_assoc,<- h1,List.take_append_drop]
       have sn:rows.flatten++spare=(rows.take a).flatten++((rows.take b).drop a).flatten++((rows.drop b).flatten++spare):=by
        conv=>lhs;rw [lC]
        simp only [List.flatten_append,List.append_assoc]
       simp only at this;rw [sn] at this;have Y0:(rows.take a).flatten.length=a*c.e.sz:=by rw [fR (sz:=c.e.sz) (λr hr=>e3.row r (List.mem_of_mem_take hr))];simp only [List.length_take];rw [Nat.min_eq_left (by omega)]
       have:=fg ((rows.take b).drop a).flatten (rows.take a).flatten ((rows.drop b).flatten++spare) (a*c.e.sz) (by show h[B]?=_;simpa using this) Y0.symm
       simpa [lb,ka,pJ] using this
   ·cases hl
 ·cases hl
theorem vx {R:Type}{r:R}{e:E}{k:List e.T->Option R}(h:DE s d e k=some r):∃ ys,yZ s d e=some ys/\k ys=some r:=by
 unfold DE at h
 split at h
 ·split at h
  ·rename_i i c T A hs dB;obtain⟨n,hn,h⟩:=Option.bind_eq_some_iff.1 h
   split at h
   ·rename_i xs hc;exact⟨xs,by simp only [yZ,Wb,dB,hn,hc],h⟩
   ·cases h
  ·cases h
 ·rename_i z i a b;cases hz:(z == e.sz) with
  | false=>rw [hz] at h;cases h
  | true =>
   rw [hz] at h;simp only [cond_true] at h
   split at h
   ·rename_i c T A hs dB;obtain⟨n,hn,h⟩:=Option.bind_eq_some_iff.1 h
    split at h
    ·rename_i xs hc;exact⟨(xs.take b).drop a,by simp only [yZ,Wb,dB,hn,hc,hz,cond_true],h⟩
    ·cases h
   ·cases h
 ·split at h
  ·rename_i xs hl;exact⟨xs,hl,h⟩
  ·cases h
theorem ze {S X et X':TypeId}{e:E}{x y:Operand}{q qx:Option Addr}{n cp nx cx:Nat}{Lv L1 L2 Lf:List gJ}{rows news:List (List Value)}{i:TypeInfo}{z:Value}[gD P S (.slice et)][gD P X (.slice X')][se P et e.sz][Gm P et i][IS P et z](hz:z.cells.size=e.sz)(hx:ev ρ x = .slice q n cp)(hy:ev ρ y = .slice qx nx cx)(hm:Hp h F Lf)(hL:Lf=L1++(Lv++L2))(hs:yO e.sz et q n cp Lv rows)
  (tI:bm h (lb qx) (ka qx) news.flatten) (hq:0<nx->qx=some ⟨lb qx,ka qx,none⟩) (II:nx=news.length) (hn:∀ r∈news,r.length=e.sz) (mW:∀ r∈news,∀ u∈r,u.oneCell'=true) (hb:e.sz*(i.bytes+1)<=32768) (hr:n+nx<=2147483648) :
  Ef P ρ ⟨dst, .call ⟨.builtin .append,#[x,y],#[S,X]⟩,ty,p,af,gd⟩ h λv h'=>∃ q' sT nC,v = .slice q' (n+nx) sT/\yO e.sz et q' (n+nx) sT nC (rows++news)/\Hp h' F (L1++(nC++L2)):=by
 have sn:=fR hs.row;have Hh:=hs.len;have Np:=fR hn;have qF:=EH e;rcases Nat.eq_zero_or_pos nx with h0 | j4
 ·have OE:news=[]:=List.eq_nil_of_length_eq_zero (by omega);subst OE;have hle:=hs.le;refine⟨λE w hA=>?_⟩;have UZ:(Builtin.firstCells e.sz 0 (.slice qx 0 cx)).run P w = .ok #[] w:=by cases qx <;> simp [Builtin.firstCells,loadCells,loadCellsFrom]
  have nI:(Builtin.append_ #[S,X] ty #[.slice q n cp, .slice qx 0 cx]).run P w = .ok (.slice q n cp) w:=by simp only [Builtin.append_];cases q <;> simp [fA S w,fA X w,sM et w,Builtin.lenOf,hle,UZ,storeCells]
  refine⟨.value (.slice q n cp),w,h, .slice q n cp,by simp [execOp,resolve,hx,hy,h0,invoke,builtin,nI],hA, .inl rfl,q,cp,Lv,by rw [h0];rfl,by simpa [h0] using hs,by rw [<- hL];exact hm⟩
 ·have hya:ev ρ y = .slice (some ⟨lb qx,ka qx,none⟩) nx cx:=by rw [hy,<- hq j4]
  refine⟨λE w hA=>?_⟩;obtain⟨v',w',nC,h',nI,xT,Ns,tE⟩:=Hg (P:=P) (ty:=ty) hz hm hL hs.sh tI (by rw [Np,II]) (λu hu=>by
   obtain⟨r,sK,BG⟩:=List.mem_flatten.1 hu;exact mW r sK u BG) (by
    rw [sn,Np,<- Hh,<- II,<- Nat.add_mul];have h2:(n+nx)*(e.sz*(i.bytes+1))<=2147483648*32768:=Nat.mul_le_mul hr hb;rw [Nat.mul_assoc]
    omega) qF w hA j4 (S:=S) (X:=X) (cx:=cx)
  have hv:∃ q' sT,v' = .slice q' (n+nx) sT:=by
   rcases Ns with⟨rfl,_,h1⟩ | ⟨B,n',cap,spare,rfl,_,h1,_,_⟩
   ·have:=congrArg List.length h1
    have h3:0<nx*e.sz:=Nat.mul_pos j4 qF;simp [Np,<- II] at this;omega
   ·have h2:n'*e.sz=(n+nx)*e.sz:=by rw [h1,List.length_append,sn,Np,<- Hh,<- II,Nat.add_mul]
    have:=Nat.eq_of_mul_eq_mul_right qF h2
    exact⟨_,_,by rw [this]⟩
  obtain⟨q',sT,rfl⟩:=hv;refine⟨.value (.slice q' (n+nx) sT),w',h', .slice q' (n+nx) sT,by simp [execOp,resolve,hx,hya,invoke,builtin,nI],xT, .inl rfl,q',sT,nC,rfl,⟨by simpa using Ns,by simp [Hh,II],λr hr=>?_⟩,tE⟩;rcases List.mem_append.1 hr with hr | hr
  ·exact hs.row r hr
  ·exact hn r hr
theorem Mg {z:Array Value}{sz:Nat}(hz:z.size=sz)(hp:0<sz)(m:Nat):(Array.range (m*sz)).map (λx=>z[x % z.size]!)=(List.replicate m z.toList).flatten.toArray:=by
 have hl:∀ r∈List.replicate m z.toList,r.length=sz:=λr hr=>by rw [(List.mem_replicate.1 hr).2];simpa using hz
 have sn:=fR hl;rw [List.length_replicate] at sn;apply Array.ext
 ·simp [sn]
 ·intro i h1 h2;simp only [Array.size_map,Array.size_range] at h1;have hq:i / sz<m:=Nat.div_lt_of_lt_mul (by rw [Nat.mul_comm];exact h1);have hr:i % sz<sz:=Nat.mod_lt _ hp;obtain⟨pre,post,e1,e2⟩:=qG (i:=i / sz) (r:=z.toList) hl (by rw [List.getElem?_replicate,if_pos hq]);have hi:i=pre.length+i % sz:=by rw [e2,Nat.mul_comm];exact (Nat.div_add_mod i sz).symm
  have hg:(List.replicate m z.toList).flatten[i]?=some z[i % sz]:=by rw [e1,List.append_assoc,List.getElem?_append_right (by omega),show i - pre.length=i % sz by omega,List.getElem?_append_left (by simpa [hz] using hr)];simp [hz,hr]
  have YZ:(List.replicate m z.toList).flatten.toArray[i]?=some z[i % sz]:=by simpa using hg
  have h3:(List.replicate m z.toList).flatten.toArray[i]=z[i % sz]:=by
   have:=Array.getElem?_eq_getElem h2
   rw [this] at YZ;exact Option.some.inj YZ
  rw [h3];simp [hz,hr]
theorem C2 {T e ty':TypeId}{i:TypeInfo}{zv:Value}{n m sz:Nat}{d:Option Tmp}{g:Option (Nat×Bool)}{x y:Operand}[gD P T (.slice e)][se P e sz][Gm P e i][IS P e zv](qF:0<sz)(hz:zv.cells.size=sz)(hx:ev ρ x = .int .i64 (n:Int))(hy:ev ρ y = .int .i64 (m:Int))(hb:i.bytes<=300)(hnm:n<=m)(hm:m<=2 ^ 20):Ex P ρ ⟨d, .makeSlice T x y,ty',p,af,g⟩ h (.slice (some ⟨h.size,0,none⟩) n m) (h.push (.cells (List.replicate m zv.cells.toList).flatten.toArray e (0,0))):=⟨λE w hw=>by
 have QI:IntKind.wrap .i64 (m:Int)=(m:Int):=GL (by omega);have hw2:IntKind.wrap .i64 (n:Int)=(n:Int):=GL (by omega);have h2:(i.bytes:Int)*(m:Int)<=2 ^ 48:=by
  have:=Nat.mul_le_mul hb hm
  have h3:((i.bytes*m:Nat):Int)<=((300*2 ^ 20:Nat):Int):=by exact_mod_cast this
  rw [Int.natCast_mul] at h3;omega
 have As:¬ (281474976710656<(i.bytes:Int)*(m:Int)):=by omega
 have IX:w.heap=h:=hw.1;have OD:¬ ((m:Int)<0):=by omega
 have Xa:¬ ((n:Int)<0):=by omega
 have hle:¬ ((m:Int)<(n:Int)):=by omega
 have Y1:m*sz=0↔m=0:=by
  constructor
  ·intro h0;rcases Nat.mul_eq_zero.1 h0 with h0 | h0
   ·exact h0
   ·omega
  ·intro h0;rw [h0,Nat.zero_mul]
 refine⟨.value (.slice (some ⟨w.heap.size,0,none⟩) n m),{ w with heap:=w.heap.push (.cells (List.replicate m zv.cells.toList).flatten.toArray e (0,0)) },?_,by rw [<- IX];exact⟨rfl,hw.2.1,hw.2.2.1,hw.2.2.2⟩, .inl (by rw [IX])⟩;simp only [execOp,Instr.makeSlice,hx,hy];rcases Nat.eq_zero_or_pos m with h0 | h0
 ·subst h0;obtain rfl:n=0:=by omega
  have Xb:IntKind.wrap .i64 0=0:=by rfl
  simp [fA T w,sM e w,λw=>inf (P:=P) e w,asInt,asIntOf,Xb,askRoom,newRow];exact congrArg (λa=>w.alloc (Obj.cells a e)) (Array.ext' (by simp))
 ·have eH:¬ (m*sz=0):=λe=>by rw [Y1] at e;omega
  simp [fA T w,sM e w,λw=>inf (P:=P) e w,λw=>J7 (P:=P) e w,asInt,asIntOf,QI,hw2,askRoom,As,OD,Xa,hle,hnm,newRow,show m≠0 by omega,show sz≠0 by omega];rw [if_neg eH]
  have:=Mg hz qF m
  rw [this]⟩
theorem Ru {S et:TypeId}{tl:List TypeId}{sz:Nat}{x y:Operand}{q qx:Option Addr}{n cp nx cx:Nat}{Lv L:List gJ}{rows news:List (List Value)}[gD P S (.slice et)][se P et sz](hx:ev ρ x = .slice q n cp)(hy:ev ρ y = .slice qx nx cx)(hm:Hp h F (Lv++L))(hs:yO sz et q n cp Lv rows)(tI:bm h (lb qx) (ka qx) news.flatten)(hq:0<nx->qx=some ⟨lb qx,ka qx,none⟩)(II:nx=news.length)(hn:∀ r∈news,r.length=sz)(mW:∀ r∈news,∀ u∈r,u.oneCell'=true) :
  Ef P ρ ⟨dst, .call ⟨.builtin .copy,#[x,y],(S::tl).toArray⟩,ty,p,af,gd⟩ h λv h'=>v = .int .i64 ((min nx n:Nat):Int)/\∃ nC,yO sz et q n cp nC (news.take (min nx n)++rows.drop (min nx n))/\Hp h' F (nC++L):=by
 have Hh:=hs.len;generalize Y2:min nx n=m;have pK:m<=nx:=by omega
 have vn:m<=n:=by omega
 have qP:news.flatten=(news.take m).flatten++(news.drop m).flatten:=by rw [<- List.flatten_append,List.take_append_drop]
 have Xc:=tI;rw [qP] at Xc;have Z6:=qO Xc;have jC:(news.take m).flatten.length=m*sz:=by rw [fR (sz:=sz) λr hr=>hn r (List.mem_of_mem_take hr)];simp only [List.length_take];rw [Nat.min_eq_left (by omega)]
 have UZ:∀ w:World,w.heap=h->(Builtin.firstCells sz m (.slice qx nx cx)).run P w = .ok (news.take m).flatten.toArray w:=λw hw=>by
  rcases Nat.eq_zero_or_pos m with h0 | h0
  ·subst h0;cases qx <;> simp [Builtin.firstCells,loadCells,loadCellsFrom]
  ·rw [hq (by omega)]
   have:=K.run_loadCellsFrom (P:=P) w (lb qx) (ka qx) (news.take m).flatten 0 #[] (by rw [hw];simpa using Z6)
   rw [jC] at this;simpa [Builtin.firstCells,loadCells] using this
 refine⟨λE w hw=>?_⟩;rcases hs.sh with⟨he,hLv,hv⟩ | ⟨B,n',cap,spare,he,hL,Nt,Mh,Y3⟩
 ·have Y4:n=0:=by cases he;rfl
  have IC:q=none:=by cases he;rfl
  have QJ:m=0:=by omega
  subst Y4 IC QJ;refine⟨.value (.int .i64 0),w,h, .int .i64 0,?_,hw, .inl rfl,by simp,Lv,by simpa using hs,hm⟩;have hf:=UZ w hw.1;have OF:Nat.min nx 0=0:=Nat.min_zero _;simp [execOp,resolve,hx,hy,invoke,builtin,Builtin.copy_,fA S w,sM et w,Builtin.lenOf,OF,hf,goInt]
 ·have Ut:q=some ⟨B,0,none⟩:=by cases he;rfl
  have eH:n=n':=by cases he;rfl
  have Xd:cp=cap:=by cases he;rfl
  subst Ut eH Xd hL;obtain⟨fz,A7,hb⟩:=(hm.own (B,rows.flatten++spare,BT.c et) (by simp)).cells;simp only at hb A7;have sn:=fR hs.row;obtain⟨w',h1,h2,h3,h4,h5,h6,h7⟩:=kR (P:=P) (news.take m).flatten [] (rows.flatten++spare) w B 0 et (by simpa using A7) (λu hu=>by
   obtain⟨r,sK,BG⟩:=List.mem_flatten.1 hu;exact mW r (List.mem_of_mem_take sK) u BG) (by rw [hw.1,hb];simp) (by
    rw [jC,List.length_append,sn,<- Hh]
    have:=Nat.mul_le_mul_right sz vn
    omega) 0 rfl
  have Rv:rows.flatten=(rows.take m).flatten++(rows.drop m).flatten:=by rw [<- List.flatten_append,List.take_append_drop]
  have Z7:(rows.take m).flatten.length=m*sz:=by rw [fR (sz:=sz) λr hr=>hs.row r (List.mem_of_mem_take hr)];simp only [List.length_take];rw [Nat.min_eq_left (by omega)]
  have rn:(rows.flatten++spare).drop (m*sz)=(rows.drop m).flatten++spare:=by rw [Rv,List.append_assoc,List.drop_left' Z7]
  have rl:∀ r∈news.take m++rows.drop m,r.length=sz:=λr hr=>by
   rcases List.mem_append.1 hr with hr | hr
   ·exact hn r (List.mem_of_mem_take hr)
   ·exact hs.row r (List.mem_of_mem_drop hr)
  have hlen:(news.take m++rows.drop m).length=n:=by simp;omega
  have Rw:=fR rl;rw [hlen] at Rw;refine⟨.value (.int .i64 (m:Int)),w',w'.heap, .int .i64 (m:Int),?_,⟨rfl,by rw [h2];exact hw.2.1,by rw [h3];exact hw.2.2.1,by rw [h4];exact hw.2.2.2⟩, .inl rfl,rfl,[(B,(news.take m++rows.drop m).flatten++spare,BT.c et)],⟨.inr ⟨B,n,cp,spare,rfl,rfl,Rw.symm,by rw [Rw];rw [sn,<- Hh] at Mh;exact Mh,Y3⟩,hlen.symm,rl⟩,?_⟩
  ·have OF:Nat.min nx n=m:=Y2;have hf:=UZ w hw.1;simp [execOp,resolve,hx,hy,invoke,builtin,Builtin.copy_,fA S w,sM et w,Builtin.lenOf,OF,hf,goInt,h1]
  ·refine hm.put (j:=0) (cs':=(news.take m++rows.drop m).flatten++spare) (fz:=fz) rfl (λb Dy=>by rw [h6 b Dy,hw.1]) hb ?_ ?_
   ·rw [List.length_append,Rw];rw [List.length_append,sn,<- Hh] at A7;exact A7
   ·rw [h7,jC,rn];simp
theorem BH {T:TypeId}{n:Nat}[se P T n]{x y:Operand}{u:Value}{B off j:Nat}{pre fe post new:List Value}{fz:TypeId}{L:List gJ}(hx:ev ρ x = .pointer (some ⟨B,off,none⟩))(hy:ev ρ y=u)(hc:u.cells=new.toArray)(hn:new.length=n)(mW:∀ u∈new,u.oneCell'=true)(hm:Hp h F L)(hj:L[j]?=some (B,pre++fe++post,BT.c fz))(ho:off=pre.length)(Xe:fe.length=n) :
  Ef P ρ ⟨dst, .store T x y,ty,p,af,gd⟩ h λv h'=>v=undef/\Hp h' F (L.set j (B,pre++new++post,BT.c fz)):=⟨λE w hw=>by
 obtain⟨fzz,A7,hb⟩:=(hm.own _ (List.mem_of_getElem? hj)).cells;simp only at hb;obtain⟨w',h1,h2,h3,h4,h5,h6,h7⟩:=kR (P:=P) new pre (fe++post) w B 0 fz (by simpa using A7) mW (by rw [hw.1,hb];simp) (by simp;omega) off (by omega);refine⟨.skip,w',w'.heap,undef,?_,⟨rfl,by rw [h2];exact hw.2.1,by rw [h3];exact hw.2.2.1,by rw [h4];exact hw.2.2.2⟩, .inr ⟨rfl,rfl⟩,rfl,?_⟩
 ·simp [execOp,hx,hy,Instr.storeAt,Instr.sureAddr,storeVar,sM T w,hc,hn,h1]
 ·have Hh:(pre++new++post).length=(pre++fe++post).length:=by simp;omega
  refine hm.put hj (λb Dy=>by rw [h6 b Dy,hw.1]) hb (by rw [Hh];exact A7) ?_;rw [h7]
  have:(fe++post).drop new.length=post:=by rw [hn,<- Xe];simp
  rw [this]⟩
theorem vy {T:TypeId}{n:Nat}[se P T n]{x y:Operand}{u:Value}{B off:Nat}{pre fe post new:List Value}{fz:TypeId}{L:List gJ}(hx:ev ρ x = .pointer (some ⟨B,off,none⟩))(hy:ev ρ y=u)(hc:u.cells=new.toArray)(hn:new.length=n)(mW:∀ u∈new,u.oneCell'=true)(hm:Hp h F ((B,pre++fe++post,BT.c fz)::L))(ho:off=pre.length)(Xe:fe.length=n) :
  Ef P ρ ⟨dst, .store T x y,ty,p,af,gd⟩ h λv h'=>v=undef/\Hp h' F ((B,pre++new++post,BT.c fz)::L) :=
 BH (j:=0) hx hy hc hn mW hm rfl ho Xe
theorem qg {b:OB}(hn:(s.ow.map (·.1)).Nodup)(hl:s.look t=some b):(lv ι s.ow).Perm ((ι t).2++lv ι (s.au t).ow):=by obtain⟨l1,l2,h1,h2⟩:=BF (ι:=ι) hn hl;rw [h1,h2];exact List.perm_append_comm_assoc _ _ _
theorem uD {t':Nat}(eH:t'≠t):∀ l:List (Nat×OB),(l.filter λp=>!(p.1 == t)).find? (λp=>p.1 == t')=l.find? λp=>p.1 == t'
 | []=>rfl
 | p::l=>by
  rw [List.filter_cons,List.find?_cons]
  by_cases h:p.1=t
  ·have h1:(p.1 == t')=false:=by simp;exact λe=>eH (e.symm.trans h)
   have h2:(!(p.1 == t))=false:=by simp [h]
   rw [h2,h1];simp only [Bool.false_eq_true,if_false];exact uD eH l
  ·have h2:(!(p.1 == t))=true:=by simp [h]
   rw [h2];simp only [if_true];rw [List.find?_cons,uD eH l]
theorem BI {b:OB}{t':Nat}(eH:t'≠t)(hl:s.look t'=some b):(s.au t).look t'=some (b.au (s.gone t) t):=by
 unfold St.look at *;simp only [St.au];rw [List.find?_map];have h1:((λp:Nat×OB=>p.1 == t') ∘ λp:Nat×OB=>(p.1,p.2.au (s.gone t) t))=λp=>p.1 == t':=rfl
 rw [h1,uD eH];cases hf:s.ow.find? (λp=>p.1 == t') with
 | none=>rw [hf] at hl;cases hl
 | some p =>
  rw [hf] at hl;cases hl;rfl
theorem NR.len {c:Cl}{T A:TypeId}{hole:Option Nat}:∀ {k:Nat} {hs:List c.R} {j6:List Value} {L:List gJ},NR F T A hole k hs j6 L->j6.length=hs.length
 | _,_,_,_, .nil=>rfl
 | _,_,_,_, .cons _ _ _ _ _ t=>by simp [t.len]
theorem NR.append {c:Cl}{T A:TypeId}{hole:Option Nat}{tN:List c.R}{qh:List Value}{L2:List gJ}:∀ {k:Nat} {hs:List c.R} {j6:List Value} {L:List gJ},NR F T A hole k hs j6 L->NR F T A hole (k+hs.length) tN qh L2->NR F T A hole k (hs++tN) (j6++qh) (L++L2)
 | _,_,_,_, .nil,h=>h
 | k,_::hs,_,_, .cons hB hc h1 ha hh t,h=>by
  have:=t.append (by rw [show k+1+hs.length=k+(hs.length+1) by omega];exact h)
  have h2:=NR.cons hB hc h1 ha hh this;simpa using h2
theorem NR.other {c:Cl}{T A:TypeId}{hole Tr:Option Nat}:∀ {k:Nat} {hs:List c.R} {j6:List Value} {L:List gJ},NR F T A hole k hs j6 L->(∀ i,k<=i->i<k+hs.length->hole≠some i/\Tr≠some i)->NR F T A Tr k hs j6 L
 | _,_,_,_, .nil,_ => .nil
 | k,_::hs,_,_, .cons hB hc h1 ha hh t,hn=>by have h0:=hn k (Nat.le_refl _) (by simp);exact .cons hB hc h1 (λ_=>ha h0.1) (λe=>absurd e h0.2) (t.other λi h1 h2=>hn i (by omega) (by simp at h2 ⊢;omega))
structure N1 (F:iH){c:Cl}(T A:TypeId)(hole:Option Nat)(i:Nat)(n:c.R)(hd:Value)(B:Nat)(cs:List Value)(Lv:List gJ):Prop where
 hB:F.fF i=some B
 hc:Rd F (c.enc n) cs
 h1:hd.oneCell'=true
 ha:hole≠some i->L6 F c A n hd Lv
 hh:hole=some i->Lv=[]
theorem N1.nr {c:Cl}{T A:TypeId}{hole:Option Nat}{i B:Nat}{n:c.R}{hd:Value}{cs:List Value}{Lv:List gJ}(h:N1 F T A hole i n hd B cs Lv):NR F T A hole i [n] [hd] ((B,cs++[hd],BT.c T)::Lv):=by
 have:=NR.cons (T:=T) h.hB h.hc h.h1 h.ha h.hh .nil
 simpa using this
theorem NR.split {c:Cl}{T A:TypeId}{hole:Option Nat}:∀ {k:Nat} {hs:List c.R} {j6:List Value} {L:List gJ} {i:Nat} {n:c.R},NR F T A hole k hs j6 L->hs[i]?=some n->∃ qQ tN su qh L1 L2 hd B cs Lv,hs=qQ++n::tN/\qQ.length=i/\j6=su++hd::qh/\su.length=i/\L=L1++((B,cs++[hd],BT.c T)::Lv++L2)/\NR F T A hole k qQ su L1/\N1 F T A hole (k+i) n hd B cs Lv/\NR F T A hole (k+i+1) tN qh L2
 | _,_,_,_,_,_, .nil,h=>by simp at h
 | k,x::hs,_,_,0,n, .cons hB hc h1 ha hh t,h=>by simp at h;subst h;exact⟨[],hs,[],_,[],_,_,_,_,_,rfl,rfl,rfl,rfl,rfl, .nil,⟨hB,hc,h1,ha,hh⟩,t⟩
 | k,x::hs,Y5::j6,_,i+1,n, .cons (Lv:=Lv0) (L:=L) (cs:=Nu) (B:=B0) hB hc h1 ha hh t,h=>by
  obtain⟨qQ,tN,su,qh,L1,L2,hd,B,cs,Lv,e1,e2,e3,e4,e5,e6,e7,e8⟩:=t.split (by simpa using h);refine⟨x::qQ,tN,Y5::su,qh,(B0,Nu++[Y5],BT.c T)::(Lv0++L1),L2,hd,B,cs,Lv,by simp [e1],by simp [e2],by simp [e3],by simp [e4],by simp [e5], .cons hB hc h1 ha hh e6,?_,?_⟩
  ·rw [show k+(i+1)=k+1+i by omega];exact e7
  ·rw [show k+(i+1)+1=k+1+i+1 by omega];exact e8
theorem NR.join {c:Cl}{T A:TypeId}{hole:Option Nat}{k i B:Nat}{qQ tN:List c.R}{su qh:List Value}{L1 L2 Lv:List gJ}{n:c.R}{hd:Value}{cs:List Value}(h1:NR F T A hole k qQ su L1)(hi:qQ.length=i)(h2:N1 F T A hole (k+i) n hd B cs Lv)(h3:NR F T A hole (k+i+1) tN qh L2):NR F T A hole k (qQ++n::tN) (su++hd::qh) (L1++((B,cs++[hd],BT.c T)::Lv++L2)):=by
 subst hi
 have:=h2.nr.append (tN:=tN) (qh:=qh) (L2:=L2) (by simpa using h3)
 have:=h1.append this
 simpa using this
end
section
variable {P:Program}{C:Cx}{R:Type}{F F':iH}{ι ι':Gh}{s s':St}{ρ:List Value}{d:D}{v:Value}{t dt:Nat}{L0:List gJ}{r:R}{dst:Option Tmp}{ty:TypeId}{p:String}{af:Array Edge}{gd:Option (Nat×Bool)}{h:Array Obj}{K:D->St->Option R}
theorem jM.wF (h1:∀ t',(ι' t').1=(ι t').1)(h:jM F ι d v):jM F ι' d v:=by
 cases d with
 | own t'=>show v=_;rw [h1];exact h
 | op t' o=>obtain⟨B,a,c⟩:=h;exact⟨B,by rw [h1];exact a,c⟩
 | oe t' z i o=>obtain⟨B,n,cp,a,c⟩:=h;exact⟨B,n,cp,by rw [h1];exact a,c⟩
 | na i=>obtain⟨hd,a,c⟩:=h;exact⟨hd,by rw [h1];exact a,c⟩
 | Ap z i j o=>obtain⟨hd,B,n,cp,a,c⟩:=h;exact⟨hd,B,n,cp,by rw [h1];exact a,c⟩
 | DD z i x y=>obtain⟨hd,B,n,cp,a,c⟩:=h;exact⟨hd,B,n,cp,by rw [h1];exact a,c⟩
 | vS ds t'=>obtain⟨cs,a,c⟩:=h;exact⟨cs,by rw [h1];exact a,c⟩
 | xi t' ds=>obtain⟨cs,a,c⟩:=h;exact⟨cs,by rw [h1];exact a,c⟩
 | mU f t' ds=>obtain⟨B,cs,a,c⟩:=h;exact⟨B,cs,by rw [h1];exact a,c⟩
 | CN t' b=>obtain⟨B,a,c⟩:=h;exact⟨B,by rw [h1];exact a,c⟩
 | vo o=>show L5 _ o v;rw [h1];exact h
 | _=>exact h
theorem qy (h:v.oneCell'=true):v.cells=#[v]:=by cases v <;> first | rfl | (simp [Value.oneCell'] at h)
theorem mE {ds:List D}(hr:Rel F ι s ρ)(hd:kQ F ι d v)(h:cellsOf s d=some ds):∃ cs:List Value,v.cells=cs.toArray/\F2 (jM F ι) ds cs/\∀ u∈cs,u.oneCell'=true:=by
 unfold cellsOf at h
 split at h
 ·rename_i l;cases hp:l.all D.plain with
  | false=>rw [hp] at h;cases h
  | true =>
   rw [hp] at h;cases h;obtain⟨cs,rfl,h1⟩:=Rd.qd hd;exact⟨cs,rfl,h1.f2,h1.Rj hp⟩
 ·cases h;obtain⟨B,h1,rfl⟩:=hd;exact⟨[_],rfl, .cons ⟨B,h1,rfl⟩ .nil,by simp [Value.oneCell']⟩
 ·rename_i t' b;cases h;obtain⟨B,h1,h2⟩:=hd;have h3:v.oneCell'=true:=by rw [h2];cases b <;> rfl
  exact⟨[v],qy h3, .cons ⟨B,h1,h2⟩ .nil,by simpa using h3⟩
 ·rename_i t'
  split at h
  ·rename_i dB;cases h;have hd:v=(ι t').1:=hd;obtain⟨q,n,cp,rows,g1,_⟩:=hr.look dB;have h1:(ι t').1.oneCell'=true:=by rw [g1];rfl
   rw [<- hd] at h1;exact⟨[v],qy h1, .cons hd .nil,by simpa using h1⟩
  ·cases h
 ·rename_i t' l
  split at h
  ·rename_i dB;cases hp:l.all D.plain with
   | false=>rw [hp] at h;cases h
   | true =>
    rw [hp] at h;cases h;obtain⟨cs,rfl,tI⟩:=hd;obtain⟨q,n,cp,rows,g1,_⟩:=hr.look dB;have h1:(ι t').1.oneCell'=true:=by rw [g1];rfl
    refine⟨(ι t').1::cs,rfl, .cons rfl tI.f2,λu hu=>?_⟩;rcases List.mem_cons.1 hu with rfl | hu
    ·exact h1
    ·exact tI.Rj hp u hu
  ·cases h
 ·rename_i Rr _ _ _;cases hp:d.plain with
  | false=>rw [hp] at h;cases h
  | true =>
   rw [hp] at h;cases h;have h1:=kQ.mn hd hp;have h2:=h1.one hp;exact⟨[v],qy h2, .cons (.aU h1) .nil,by simpa using h2⟩
theorem jA {b:OB}{x:Value×List gJ}{h':Array Obj}{d':D}{s1:St}(iB:s.np % 1000<=dt)(hn:s1.n=s.n)(IH:s1.np=s.np)(nu:s1.nw=s.nw)(hr:Rel F ι s1 ρ)(hm:Hp h' F (x.2++(lv ι (s1.au dt).ow++L0)))(hb:kS F (ι.dq dt x) dt b)(hd:kQ F (ι.dq dt x) d' v)(hk:K d' ((s1.au dt).make dt b)=some r):pf K r F ι s ρ L0 dt v h':=by obtain⟨h1,h2⟩:=(hr.au (t:=dt)).make hb;refine⟨F,ι.dq dt x,d',_, .refl F,h1,?_,hd,hk,hn,IH,nu,λ_=>rfl,λt ht=>by rw [Gh.bJ (by omega)],λt _ ht _ _=>Gh.bJ ht⟩;rw [h2,List.append_assoc];exact hm
theorem uE {sz:Nat}:∀ {rows:List (List Value)} {i:Nat} {r:List Value},(∀ r∈rows,r.length=sz)->rows[i]?=some r->∃ pre post,rows.flatten=pre++r++post/\pre.length=i*sz/\∀ r',(rows.set i r').flatten=pre++r'++post
 | [],i,r,_,h=>by simp at h
 | x::rows,0,r,hl,h=>by simp at h;subst h;exact⟨[],rows.flatten,by simp,by simp,λr'=>by simp⟩
 | x::rows,i+1,r,hl,h=>by obtain⟨pre,post,h1,h2,h3⟩:=uE (rows:=rows) (i:=i) (λr hr=>hl r (by simp [hr])) (by simpa using h);exact⟨x++pre,post,by simp [h1],by simp [h2,hl x (by simp),Nat.add_mul];omega,λr'=>by simp [h3]⟩
theorem F2.set {α β:Type}{R:α->β->Prop}:∀ {l:List α} {m:List β} {i:Nat} {a:α} {b:β},F2 R l m->R a b->F2 R (l.set i a) (m.set i b)
 | _,_,_,_,_, .nil,_ => .nil
 | _,_,0,_,_, .cons _ t,h => .cons h t
 | _,_,_+1,_,_, .cons h0 t,h => .cons h0 (t.set h)
theorem xo {o:Option Nat}(h:qH d=some o):d.plain=true:=by
 unfold qH at h
 split at h <;> first | rfl | cases h
theorem Jf {e:E}{xs:List e.T}(h:Aq e d=some xs):d.plain=true:=by
 unfold Aq at h
 split at h <;> first | rfl | cases h
theorem Mi {x:Unit}(h:cond d.plain (some ()) none=some x):d.plain=true:=by
 cases hp:d.plain with
 | false=>rw [hp] at h;cases h
 | true=>rfl
theorem uF:∀ {f:Fl} {x:f.T},f.dec d=some x->d.plain=true:=by
 intro f x h;unfold Fl.dec at h
 split at h <;> first | rfl | exact xo h | exact Jf h | exact Mi h | cases h
theorem x9:∀ {f:Fl} {fs:List Fl} {k:Nat} {ds:List D} {x:CT f fs},rR f fs k ds=some x->ds.all D.plain=true
 | f,[],k,d::ds,x,h=>by
  simp only [rR] at h;cases hp:(ds.length == k && ds.all D.plain) with
  | false=>rw [hp] at h;cases h
  | true =>
   rw [hp] at h;simp only [cond_true] at h;rw [Bool.and_eq_true] at hp;simp only [List.all_cons,uF h,hp.2,Bool.and_self]
 | f,g::fs,k,d::ds,x,h=>by
  simp only [rR] at h;cases h1:f.dec d with
  | none=>rw [h1] at h;cases h
  | some a =>
   rw [h1] at h;simp only at h;cases h2:rR g fs k ds with
   | none=>rw [h2] at h;cases h
   | some b=>simp only [List.all_cons,uF h1,x9 h2,Bool.and_self]
 | _,[],_,[],_,h=>by cases h
 | _,_::_,_,[],_,h=>by cases h
theorem DM:∀ {e:E} {ds:List D} {x:e.T},e.dec ds=some x->ds.all D.plain=true:=by
 intro e ds x h;unfold E.dec at h
 split at h <;> first | rfl | (cases h;done) | skip
 ·rename_i k tg tx d z;cases hd:uj d with
  | none=>rw [hd] at h;cases h
  | some CU =>
   unfold uj at hd
   split at hd <;> first | rfl | cases hd
 ·simp [xo h]
 ·exact x9 h
theorem ER {e:E}{ds:List D}{k:e.T->Option R}:Od e ds k=(e.dec ds).bind k:=by
 unfold Od;split
 ·rfl
 ·rename_i h;cases h1:E.dec _ ds <;> rfl
theorem x_ {e:E}{r:R}:∀ {rs:List (List D)} {k:List e.T->Option R},A_ e rs k=some r->∃ xs,y6 e rs=some xs/\k xs=some r
 | [],k,h=>⟨[],rfl,h⟩
 | a::rs,k,h=>by
  unfold A_ at h;rw [ER] at h;cases h1:e.dec a with
  | none=>rw [h1] at h;cases h
  | some x =>
   rw [h1] at h;obtain⟨xs,h2,h3⟩:=x_ (k:=λxs=>k (x::xs)) h;exact⟨x::xs,by simp only [y6,h1,h2],h3⟩
theorem ya {e:E}:∀ {rs:List (List D)} {xs:List e.T} {vs:List (List Value)},y6 e rs=some xs->F2 (λr v=>Rd F r v) rs vs->F2 (λx v=>Rd F (e.enc x) v) xs vs
 | [],xs,_,h, .nil=>by cases h;exact .nil
 | r::rs,xs,_,h, .cons hr ht=>by
  unfold y6 at h;cases h1:e.dec r with
  | none=>rw [h1] at h;cases h
  | some x =>
   rw [h1] at h;simp only at h;cases h2:y6 e rs with
   | none=>rw [h2] at h;cases h
   | some ys =>
    rw [h2] at h;cases h;exact .cons (kB h1 hr) (ya h2 ht)
theorem DN {sz:Nat}:∀ {parts:List (Nat×Value)} {rows:List (List Value)} (k:Nat) (pre:List Value) (tail:List Value),F2 (λ(q:Nat×Value) r=>q.2.cells=r.toArray) parts rows->parts.map (·.1)=(List.range' k parts.length)->(∀ r∈rows,r.length=sz)->pre.length=k*sz->tail.length=rows.length*sz ->
  Instr.fill (λi=>some (i*sz,sz)) (pre++tail).toArray parts=some (pre++rows.flatten).toArray
 | _,_,k,pre,tail, .nil,_,_,_,ht=>by
  have:tail=[]:=List.eq_nil_of_length_eq_zero (by simpa using ht)
  subst this;simp [Instr.fill]
 | (i,v)::parts,rr::rows,k,pre,tail, .cons hv t,hk,hl,hp,ht=>by
  have U0:i=k/\parts.map (·.1)=List.range' (k+1) parts.length:=by simpa [List.range'_succ] using hk
  obtain⟨rfl,Jg⟩:=U0;have WQ:=hl rr (by simp);have htl:tail.length=rows.length*sz+sz:=by rw [ht];simp [Nat.add_mul]
  rw [zd (cs:=rr) rfl hv WQ (by simp;omega)];have e1:(pre++tail).take (i*sz)=pre:=by rw [<- hp];simp
  have e2:(pre++tail).drop (i*sz+sz)=tail.drop sz:=by rw [<- hp,<- List.drop_drop];simp
  rw [e1,e2,DN (i+1) (pre++rr) (tail.drop sz) t Jg (λr hr=>hl r (by simp [hr])) (by simp [WQ,hp,Nat.add_mul]) (by simp;omega)];simp
theorem Kz {α β:Type}{f:α->Option β}:∀ {l:List α} {ys:List β},l.mapM f=some ys->F2 (λa b=>f a=some b) l ys
 | [],ys,h=>by rw [List.mapM_nil] at h;cases h;exact .nil
 | a::l,ys,h=>by
  rw [List.mapM_cons] at h;cases ha:f a with
  | none=>rw [ha] at h;cases h
  | some b =>
   rw [ha] at h;cases hl:l.mapM f with
   | none=>rw [hl] at h;cases h
   | some bs=>rw [hl] at h;cases h;exact .cons ha (Kz hl)
theorem zU {T:TypeId}{x:Operand}(hr:Rel F ι s ρ)(hm:Hp h F (lv ι s.ow++L0))(iB:s.np % 1000<=dt)(h0:DF s dt T x K=some r):Ef P ρ ⟨dst, .box T x,ty,p,af,gd⟩ h (pf K r F ι s ρ L0 dt):=by
 unfold DF at h0;simp only at h0
 split at h0
 ·rename_i ds j6;have yQ:Rel F (ι.dq dt (.pointer (some ⟨h.size,0,none⟩),[(h.size,(ev ρ x).cells.toList,BT.c T)])) (s.au dt) ρ:=hr.EM λt' ht=>Gh.bJ ht
  obtain⟨cs,h1,h2,h3⟩:=mE yQ (eR yQ x) j6;refine .DI (IV (P:=P) (T:=T) (u:=ev ρ x) rfl) ?_;have nq:(ev ρ x).cells.toList=cs:=by rw [h1]
  rw [nq] at h2 yQ;rw [h1];exact jA (b := .cells T ds) (x:=(.pointer (some ⟨h.size,0,none⟩),[(h.size,cs,BT.c T)])) iB rfl rfl rfl hr ((hm.au (t:=dt)).push _ T) ⟨h.size,cs,by rw [Gh.ao],by rw [Gh.ao],h2⟩ (.jd (jM.Oz (by rw [Gh.ao]))) h0
 ·cases h0
theorem ES {T:TypeId}{x:Operand}(hr:Rel F ι s ρ)(hm:Hp h F (lv ι s.ow++L0))(iB:s.np % 1000<=dt)(h0:(match s.look NT with
  | some (.nodes c TN A hs hole)=>cond (T == TN) (match g s x with
    | .agg l=>(match l.drop c.n with
     | [.nil]=>(match c.dec [] (l.take c.n) with
      | some h=>cond (s.nw && Nat.ble (s.np % 1000) NT && !(T == uT)) (K (.np (some hs.length)) ((s.au NT).make NT (.nodes c TN A (hs++[h]) hole))) none
      | none=>none)
     | _=>none)
    | .vS l t=>(match s.look t with
     | some (.rows e A' xs)=>(match lq e c.e xs with
      | some xs=>(match c.dec xs l with
       | some h=>cond (s.nw && Nat.ble (s.np % 1000) NT && A' == A && !(t == NT) && hole.isNone && !(T == uT)) (K (.np (some hs.length)) (((s.au t).au NT).make NT (.nodes c TN A (hs++[h]) hole))) none
       | none=>none)
      | none=>none)
     | _=>none)
    | _=>none) (DF s dt T x K)
  | _=>DF s dt T x K)=some r):Ef P ρ ⟨dst, .box T x,ty,p,af,gd⟩ h (pf K r F ι s ρ L0 dt):=by
 split at h0
 ·rename_i cl TN A hs hole dB;cases hT:(T == TN) with
  | false =>
   rw [hT] at h0;exact zU hr hm iB h0
  | true =>
   rw [hT] at h0;simp only [cond_true] at h0;have hT:T=TN:=by simpa using hT
   subst hT
   split at h0
   ·rename_i l hl
    split at h0
    ·rename_i rn
     split at h0
     ·rename_i n hn;cases hc:(s.nw && Nat.ble (s.np % 1000) NT && !(T == uT)) with
      | false=>rw [hc] at h0;cases h0
      | true =>
       rw [hc] at h0;simp only [cond_true] at h0;simp only [Bool.and_eq_true,Nat.ble_eq] at hc;obtain⟨hc,Xf⟩:=hc;have Xf:T≠uT:=by simpa using Xf
       have hx:=eR hr x;rw [hl] at hx;obtain⟨cs,nq,tI⟩:=Rd.qd hx;obtain⟨_,j6,o1,o2,o3⟩:=hr.look dB;have U1:=tI.drop cl.n;rw [rn] at U1;have Gt:cs.drop cl.n=[.slice none 0 0]:=by generalize cs.drop cl.n=c9 at U1;obtain⟨v9,vs9,rfl,g1,g2⟩:=U1.az;cases g2;rw [Rd.nH g1]
       obtain⟨rp,BJ⟩:=Cl.kB hn (tI.take cl.n);have qP:cs=cs.take cl.n++[.slice none 0 0]:=by rw [<- Gt,List.take_append_drop]
       have qR:=hm.fresh;have BL:F.fF hs.length=none:=o3 _ (Nat.le_refl _);have hle:F.le (F.node hs.length h.size qR):=iH.Km BL;have pK:=(hm.push cs T).node (i:=hs.length) (B:=h.size) (hB:=qR) ⟨cs.toArray,T,by simp,Xf⟩;have sK:Rel (F.node hs.length h.size qR) ι (s.au NT) ρ:=(hr.au (t:=NT)).Ou hle λp hp=>sr hp
       refine .DI (IV (P:=P) (T:=T) (u:=ev ρ x) rfl) ?_;rw [nq];have Jh:kS (F.node hs.length h.size qR) (ι.dq NT (.tuple (j6++[Value.slice none 0 0]).toArray,(ι NT).2++[(h.size,cs,BT.c T)])) NT (.nodes cl T A (hs++[n]) hole):=by
        refine⟨rfl,j6++[Value.slice none 0 0],by rw [Gh.ao],?_,λj hj=>?_⟩
        ·rw [Gh.ao];refine (o2.mono hle).append ?_;have h1:N1 (F.node hs.length h.size qR) T A hole (0+hs.length) n (.slice none 0 0) h.size (cs.take cl.n) []:=⟨by simp [iH.node],rp.mono hle,rfl,λ_ => .mk (q:=none) (m:=0) (cp:=0) (rows:=[]) rfl (yO.nil _ _) (by rw [BJ];exact .nil) (Cl.Ot hn),λ_=>rfl⟩
         have:=h1.nr
         rw [<- qP] at this;exact this
        ·simp at hj;show (if j=hs.length then some h.size else F.fF j)=none;rw [if_neg (by omega)];exact o3 j (by omega)
       obtain⟨k1,k2⟩:=sK.make Jh;refine⟨_,_,_,_,hle,k1,?_, .aU (.Gr (i:=hs.length) (B:=h.size) (by simp [iH.node]) .nil),h0,rfl,rfl,rfl,(λe=>by rw [e] at hc;cases hc.1),λt ht=>by rw [Gh.bJ (by omega)],λt ht _ _ _=>Gh.bJ λe=>ht _ (gR dB) e.symm⟩;rw [k2];refine pK.perm ?_;have h2:=(qg (ι:=ι) hr.nd dB).symm;have h3:((ι NT).2++[(h.size,cs,BT.c T)]++lv ι (s.au NT).ow++L0).Perm ((h.size,cs,BT.c T)::((ι NT).2++lv ι (s.au NT).ow++L0)):=by simp only [List.append_assoc,List.cons_append,List.nil_append];exact List.perm_middle
       exact h3.trans ((h2.append_right L0).cons _)
     ·cases h0
    ·cases h0
   ·rename_i l t hl
    split at h0
    ·rename_i e A' xs jC
     split at h0
     ·rename_i IG lL;obtain⟨rfl,lL⟩:=jc lL;have lL:xs=IG:=lL;subst lL
      split at h0
      ·rename_i n hn;cases hc:(s.nw && Nat.ble (s.np % 1000) NT && A' == A && !(t == NT) && hole.isNone && !(T == uT)) with
       | false=>rw [hc] at h0;cases h0
       | true =>
        rw [hc] at h0;simp only [cond_true] at h0;simp only [Bool.and_eq_true,Nat.ble_eq,beq_iff_eq,Bool.not_eq_true',beq_eq_false_iff_ne] at hc;obtain⟨⟨⟨⟨⟨nu,hc⟩,rfl⟩,Xg⟩,Z8⟩,Xf⟩:=hc;obtain rfl:hole=none:=by simpa using Z8
        have hx:=eR hr x;rw [hl] at hx;obtain⟨cs,nq,tI⟩:=hx;obtain⟨_,j6,o1,o2,o3⟩:=hr.look dB;obtain⟨q,n2,cp,rows,g1,g2,g3⟩:=hr.look jC;obtain⟨rp,BJ⟩:=Cl.kB hn tI;have qR:=hm.fresh;have BL:F.fF hs.length=none:=o3 _ (Nat.le_refl _);have hle:F.le (F.node hs.length h.size qR):=iH.Km BL;have pK:=(hm.push (cs++[(ι t).1]) T).node (i:=hs.length) (B:=h.size) (hB:=qR) ⟨(cs++[(ι t).1]).toArray,T,by simp,Xf⟩;have Hi:=BI (t:=t) (λe=>Xg e.symm) dB;have sK:Rel (F.node hs.length h.size qR) ι ((s.au t).au NT) ρ:=((hr.au (t:=t)).au (t:=NT)).Ou hle λp hp=>sr hp
        refine .DI (IV (P:=P) (T:=T) (u:=ev ρ x) rfl) ?_;rw [nq];have Jh:kS (F.node hs.length h.size qR) (ι.dq NT (.tuple (j6++[(ι t).1]).toArray,(ι NT).2++((h.size,cs++[(ι t).1],BT.c T)::(ι t).2))) NT (.nodes cl T A' (hs++[n]) none):=by
         refine⟨rfl,j6++[(ι t).1],by rw [Gh.ao],?_,λj hj=>?_⟩
         ·rw [Gh.ao];refine (o2.mono hle).append ?_;have h1:N1 (F.node hs.length h.size qR) T A' none (0+hs.length) n (ι t).1 h.size cs (ι t).2:=⟨by simp [iH.node],rp.mono hle,by rw [g1];rfl,λ_ => .mk g1 g2 (by rw [BJ];exact cT (λ_ _ h=>h.mono hle) g3) (Cl.Ot hn),λe=>by cases e⟩;exact h1.nr
         ·simp at hj;show (if j=hs.length then some h.size else F.fF j)=none;rw [if_neg (by omega)];exact o3 j (by omega)
        obtain⟨k1,k2⟩:=sK.make Jh;refine⟨_,_,_,_,hle,k1,?_, .aU (.Gr (i:=hs.length) (B:=h.size) (by simp [iH.node]) .nil),h0,rfl,rfl,rfl,(λe=>by rw [e] at nu;cases nu),λt ht=>by rw [Gh.bJ (by omega)],λt ht _ _ _=>Gh.bJ λe=>ht _ (gR dB) e.symm⟩;rw [k2];refine pK.perm ?_;have p1:=qg (ι:=ι) hr.nd jC;have p2:=qg (ι:=ι) (hr.au (t:=t)).nd Hi;have h2:=p1.trans (p2.append_left _);have h3:((ι NT).2++((h.size,cs++[(ι t).1],BT.c T)::(ι t).2)++lv ι ((s.au t).au NT).ow++L0).Perm ((h.size,cs++[(ι t).1],BT.c T)::((ι t).2++((ι NT).2++lv ι ((s.au t).au NT).ow)++L0)):=by simp only [List.append_assoc,List.cons_append];refine List.perm_middle.trans (List.Perm.cons _ ?_);exact List.perm_append_comm_assoc _ _ _
        exact h3.trans ((h2.symm.append_right L0).cons _)
      ·cases h0
     ·cases h0
    ·cases h0
   ·cases h0
 ·exact zU hr hm iB h0
theorem Ji {T:TypeId}[se P T 1]{x y:Operand}{i off:Nat}(hr:Rel F ι s ρ)(hm:Hp h F (lv ι s.ow++L0))(hx:kQ F ι (.nf i off) (ev ρ x))(hy:kQ F ι d (ev ρ y))(h0:UF s i off d K=some r):Ef P ρ ⟨dst, .store T x y,ty,p,af,gd⟩ h (pf K r F ι s ρ L0 dt):=by
 unfold UF at h0
 split at h0
 ·rename_i cl TN A hs hole dB;obtain⟨_,j6,o1,o2,o3⟩:=hr.look dB;obtain⟨B0,Z9,hx⟩:=hx;cases h9:Nat.blt off cl.n with
  | true =>
   rw [h9] at h0;simp only [cond_true] at h0;have h9:off<cl.n:=by simpa [Nat.blt_eq] using h9
   cases tJ:d.plain with
   | false=>rw [tJ] at h0;cases h0
   | true =>
    rw [tJ] at h0;simp only [cond_true] at h0;obtain⟨n,hn,h0⟩:=Option.bind_eq_some_iff.1 h0
    split at h0
    ·rename_i n' OG;obtain⟨qQ,tN,su,qh,L1,L2,hd,B,cs,Lv,e1,e2,e3,e4,e5,e6,e7,e8⟩:=o2.split hn;have Wi:B0=B:=by have:=e7.hB;rw [Nat.zero_add,Z9] at this;exact Option.some.inj this
     subst Wi;have DB:=hy.mn tJ;obtain⟨rp,BJ⟩:=Cl.kB OG (e7.hc.set (i:=off) DB);have l6:cs.length=cl.n:=by rw [e7.hc.length,Cl.mQ]
     have m9:∀ t',(ι.dq NT ((ι NT).1,L1++((B0,cs.set off (ev ρ y)++[hd],BT.c TN)::Lv++L2)) t').1=(ι t').1:=λt'=>by
      by_cases e:t'=NT
      ·subst e;rw [Gh.ao]
      ·rw [Gh.bJ e]
     obtain⟨u1,l1,l2,u2,u3,_⟩:=hr.dq (b' := .nodes cl TN A (hs.set i (cl.wz n' (cl.fz n))) hole) (x:=((ι NT).1,L1++((B0,cs.set off (ev ρ y)++[hd],BT.c TN)::Lv++L2))) dB rfl ⟨rfl,j6,by rw [Gh.ao];exact o1,by
      rw [Gh.ao];have e9:hs.set i (cl.wz n' (cl.fz n))=qQ++(cl.wz n' (cl.fz n))::tN:=by rw [e1,List.set_append_right _ _ (by omega),e2];simp
      rw [e9,e3];exact NR.join e6 e2 ⟨e7.hB,by rw [Cl.UN];exact rp,e7.h1,λeH=>(e7.ha eH).same (by rw [Cl.W2];exact BJ) (Cl.W3 _ _),e7.hh⟩ e8,by simpa using o3⟩
     have lC:cs=cs.take off++([cs[off]]++cs.drop (off+1)):=by simp
     have pK:Hp h F ((B0,cs.take off++[cs[off]]++(cs.drop (off+1)++[hd]),BT.c TN)::(l1++(L1++(Lv++L2))++l2++L0)):=by
      refine hm.perm ?_;rw [u2,e5]
      have:cs.take off++[cs[off]]++(cs.drop (off+1)++[hd])=cs++[hd]:=by
       conv=>rhs;rw [lC]
       simp only [List.append_assoc]
      rw [this];simp only [List.append_assoc,List.cons_append];rw [<- List.append_assoc l1,<- List.append_assoc l1];exact List.perm_middle.symm
     refine (vy (P:=P) (T:=T) hx rfl (qy (DB.one tJ)) rfl (by simpa using DB.one tJ) pK (by simp;omega) (by simp)).mono λv h' ⟨hv,tE⟩=>?_
     subst hv;refine⟨F,_, .fA,_, .refl F,u1,?_,rfl,h0,rfl,rfl,rfl,λ_=>rfl,λt _=>m9 t,λt ht _ _ _=>Gh.bJ λe=>ht _ (gR dB) e.symm⟩;rw [u3];refine tE.perm ?_
     have:cs.take off++[ev ρ y]++(cs.drop (off+1)++[hd])=cs.set off (ev ρ y)++[hd]:=by rw [List.set_eq_take_append_cons_drop,if_pos (by omega)];simp
     rw [this];simp only [List.append_assoc,List.cons_append];rw [<- List.append_assoc l1,<- List.append_assoc l1];exact List.perm_middle
    ·cases h0
  | false =>
   rw [h9] at h0;simp only [cond_false] at h0;cases UU:(off == cl.n) with
   | false=>rw [UU] at h0;cases h0
   | true =>
    rw [UU] at h0;simp only [cond_true] at h0;have UU:off=cl.n:=by simpa using UU
    subst UU
    split at h0
    ·rename_i t
     split at h0
     ·rename_i e T0 xs jC
      split at h0
      ·rename_i IG lL;obtain⟨rfl,lL⟩:=jc lL;have lL:xs=IG:=lL;subst lL;cases hc:(T0 == A && !(t == NT) && Nat.ble (s.np % 1000) NT) with
       | false=>rw [hc] at h0;cases h0
       | true =>
        rw [hc] at h0;simp only [cond_true] at h0;simp only [Bool.and_eq_true,beq_iff_eq,Nat.ble_eq,Bool.not_eq_true',beq_eq_false_iff_ne] at hc;obtain⟨⟨hTA,Xg⟩,Xh⟩:=hc;subst hTA;obtain⟨n,hn,h0⟩:=Option.bind_eq_some_iff.1 h0;have Rx:(hole=none∨hole=some i)/\K .fA (((s.au t).au NT).make NT (.nodes cl TN T0 (hs.set i (cl.wx n xs)) none))=some r:=by
         cases hole with
         | none=>exact⟨.inl rfl,h0⟩
         | some j =>
          simp only at h0;cases hj:decide (j=i) with
          | false=>rw [hj] at h0;cases h0
          | true =>
           rw [hj] at h0
           have:j=i:=by simpa using hj
           exact⟨.inr (by rw [this]),h0⟩
        obtain⟨Xi,h0⟩:=Rx;obtain⟨qQ,tN,su,qh,L1,L2,hd,B,cs,Lv,e1,e2,e3,e4,e5,e6,e7,e8⟩:=o2.split hn;have Wi:B0=B:=by have:=e7.hB;rw [Nat.zero_add,Z9] at this;exact Option.some.inj this
        subst Wi;obtain⟨q,n2,cp,rows,g1,g2,g3⟩:=hr.look jC;have hy:ev ρ y=(ι t).1:=hy;have l6:cs.length=cl.n:=by rw [e7.hc.length,Cl.mQ]
        have mW:(ev ρ y).oneCell'=true:=by rw [hy,g1];rfl
        have sK:=(hr.au (t:=t)).au (t:=NT);have Hi:=BI (t:=t) (λe=>Xg e.symm) dB;have Jh:kS F (ι.dq NT (.tuple (su++(ι t).1::qh).toArray,L1++((B0,cs++[(ι t).1],BT.c TN)::(ι t).2++L2))) NT (.nodes cl TN T0 (hs.set i (cl.wx n xs)) none):=by
         refine⟨rfl,su++(ι t).1::qh,by rw [Gh.ao],?_,by simpa using o3⟩;rw [Gh.ao];have e9:hs.set i (cl.wx n xs)=qQ++(cl.wx n xs)::tN:=by rw [e1,List.set_append_right _ _ (by omega),e2];simp
         rw [e9];have N5:∀ j,j≠i->hole≠some j:=λj hj e=>by
          rcases Xi with h1 | h1
          ·rw [h1] at e;cases e
          ·rw [h1] at e;exact hj (Option.some.inj e).symm
         exact NR.join (e6.other λj _ hj=>⟨N5 j (by omega),by simp⟩) e2 ⟨e7.hB,by rw [Cl.EJ];exact e7.hc,by rw [g1];rfl,λ_ => .mk g1 g2 (by rw [Cl.Ko];exact g3) (Cl.Kn _ _),λe=>by cases e⟩ (e8.other λj hj _=>⟨N5 j (by omega),by simp⟩)
        obtain⟨k1,k2⟩:=sK.make Jh;have pK:Hp h F ((B0,cs++[hd]++[],BT.c TN)::((ι t).2++(L1++(Lv++L2))++lv ι ((s.au t).au NT).ow++L0)):=by refine hm.perm ?_;have p1:=qg (ι:=ι) hr.nd jC;have p2:=qg (ι:=ι) (hr.au (t:=t)).nd Hi;rw [List.append_nil];refine List.Perm.trans ?_ ((p1.trans (p2.append_left _)).symm.append_right L0);rw [e5];simp only [List.append_assoc,List.cons_append];rw [<- List.append_assoc (ι t).2,<- List.append_assoc (ι t).2];exact List.perm_middle.symm
        refine (vy (P:=P) (T:=T) hx rfl (qy mW) rfl (by simpa using mW) pK l6.symm (by simp)).mono λv h' ⟨hv,tE⟩=>?_
        subst hv;refine⟨F,_, .fA,_, .refl F,k1,?_,rfl,h0,rfl,rfl,rfl,λ_=>rfl,λt _=>by rw [Gh.bJ (by omega)],λt ht _ _ _=>Gh.bJ λe=>ht _ (gR dB) e.symm⟩;rw [k2];rw [hy,List.append_nil] at tE;have vn:Hp h' F ((B0,cs++[(ι t).1],BT.c TN)::((ι t).2++(L1++L2)++lv ι ((s.au t).au NT).ow++L0)):=tE.sub (by refine List.Sublist.cons_cons _ ?_;exact (((List.Sublist.refl _).append ((List.Sublist.refl _).append (List.sublist_append_right _ _))).append (List.Sublist.refl _)).append (List.Sublist.refl _))
        refine vn.perm ?_;simp only [List.append_assoc,List.cons_append];refine List.perm_middle.trans (List.Perm.cons _ ?_);exact List.perm_append_comm_assoc _ _ _
      ·cases h0
     ·cases h0
    ·rename_i z i' b;cases hc:(z == cl.e.sz && hole.isNone && Nat.ble (s.np % 1000) NT) with
     | false=>rw [hc] at h0;cases h0
     | true =>
      rw [hc] at h0;simp only [cond_true] at h0;cases Xj:decide (i'=i) with
      | false=>rw [Xj] at h0;cases h0
      | true =>
      rw [Xj] at h0;simp only [cond_true] at h0;have Xj:=of_decide_eq_true Xj;subst Xj;simp only [Bool.and_eq_true,beq_iff_eq,Nat.ble_eq] at hc;obtain⟨⟨rfl,Z8⟩,Xh⟩:=hc;obtain rfl:hole=none:=by simpa using Z8
      obtain⟨n,hn,h0⟩:=Option.bind_eq_some_iff.1 h0;obtain⟨A7,h0⟩:=vr h0;obtain⟨qQ,tN,su,qh,L1,L2,hd,B,cs,Lv,e1,e2,e3,e4,e5,e6,e7,e8⟩:=o2.split hn;have Wi:B0=B:=by have:=e7.hB;rw [Nat.zero_add,Z9] at this;exact Option.some.inj this
      subst Wi;obtain⟨Gt,q9,n9,c9,y0,y1,y2,y3,y4⟩:=hy;have ET:=o1;rw [y0] at ET;have ET:Gt=j6:=by simpa using ET
      subst ET;have Ry:hd = .slice q9 n9 c9:=by rw [e3,List.getElem?_append_right (by omega)] at y1;simpa [e4] using y1
      subst Ry;obtain⟨q,n',sT,rows,a1,a2,a3⟩:=(e7.ha (by simp)).own A7;cases a1;have l6:cs.length=cl.n:=by rw [e7.hc.length,Cl.mQ]
      have hyv:ev ρ y = .slice q9 b c9:=by
       rw [y4];rcases a2.sh with⟨he,_,_⟩ | ⟨B',n2,cap,spare,he,_,_,_,_⟩
       ·cases he;obtain rfl:b=0:=by omega
        rfl
       ·cases he;simp [Addr.add]
      have Wf:b<=rows.length:=by rw [<- a2.len];exact y3
      have Bc:yO cl.e.sz A q9 b c9 Lv (rows.take b):=by
       have hr9:∀ r∈rows.take b,r.length=cl.e.sz:=λr hr=>a2.row r (List.mem_of_mem_take hr)
       refine⟨?_,by rw [List.length_take];omega,hr9⟩;rcases a2.sh with⟨he,hL,hv9⟩ | ⟨B',n2,cap,spare,he,hL,IH,As,hle⟩
       ·cases he;obtain rfl:b=0:=by omega
        exact .inl ⟨rfl,hL,by simp⟩
       ·cases he;have sn:=fR a2.row;have Jj:=fR hr9;have qP:rows.flatten=(rows.take b).flatten++(rows.drop b).flatten:=by rw [<- List.flatten_append,List.take_append_drop]
        refine .inr ⟨B',b,c9,(rows.drop b).flatten++spare,rfl,?_,?_,?_,by omega⟩
        ·rw [hL,qP,List.append_assoc]
        ·rw [Jj,List.length_take,Nat.min_eq_left Wf]
        ·rw [As,qP,List.length_append,List.length_append];omega
      have mW:(ev ρ y).oneCell'=true:=by rw [hyv];rfl
      have sK:=hr.au (t:=NT);have Jh:kS F (ι.dq NT (.tuple (su ++ .slice q9 b c9::qh).toArray,L1++((B0,cs++[.slice q9 b c9],BT.c TN)::Lv++L2))) NT (.nodes cl TN A (hs.set i' (cl.wx n ((cl.xs n).take b))) none):=by
       refine⟨rfl,su ++ .slice q9 b c9::qh,by rw [Gh.ao],?_,by simpa using o3⟩;rw [Gh.ao];have e9:hs.set i' (cl.wx n ((cl.xs n).take b))=qQ++(cl.wx n ((cl.xs n).take b))::tN:=by rw [e1,List.set_append_right _ _ (by omega),e2];simp
       rw [e9];exact NR.join e6 e2 ⟨e7.hB,by rw [Cl.EJ];exact e7.hc,rfl,λ_ => .mk rfl Bc (by rw [Cl.Ko];exact a3.take b) (Cl.Kn _ _),λe=>by cases e⟩ e8
      obtain⟨k1,k2⟩:=sK.make Jh;have pK:Hp h F ((B0,cs++[.slice q9 n9 c9]++[],BT.c TN)::(L1++(Lv++L2)++lv ι (s.au NT).ow++L0)):=by refine hm.perm ?_;have p1:=qg (ι:=ι) hr.nd dB;rw [List.append_nil];refine List.Perm.trans ?_ (p1.symm.append_right L0);rw [e5];simp only [List.append_assoc,List.cons_append];exact List.perm_middle.symm
      refine (vy (P:=P) (T:=T) hx rfl (qy mW) rfl (by simpa using mW) pK l6.symm (by simp)).mono λv h' ⟨hv,tE⟩=>?_
      subst hv;refine⟨F,_, .fA,_, .refl F,k1,?_,rfl,h0,rfl,rfl,rfl,λ_=>rfl,λt _=>by rw [Gh.bJ (by omega)],λt ht _ _ _=>Gh.bJ λe=>ht _ (gR dB) e.symm⟩;rw [k2];rw [hyv,List.append_nil] at tE;refine tE.perm ?_;simp only [List.append_assoc,List.cons_append];exact List.perm_middle
    ·cases h0
 ·cases h0
set_option maxHeartbeats 1000000 in
theorem Jk {T:TypeId}{n:Nat}{parts:Array (Nat×Operand)}(hT:vY P C)(hr:Rel F ι s ρ)(hm:Hp h F (lv ι s.ow++L0))(iB:s.np % 1000<=dt)(h0:o_ C s dt (.buildSlice T n parts) K=some r):∃ u ob,(∀ dz:List Value,(∀ q∈parts.toList,ev dz q.2=ev ρ q.2)->Ex P dz ⟨dst, .buildSlice T n parts,ty,p,af,gd⟩ h u (h.push ob))/\pf K r F ι s ρ L0 dt u (h.push ob):=by
 simp only [o_] at h0
 split at h0
 ·rename_i et _ _ _ _ _ ht
  split at h0
  ·rename_i sh sz ag z Rs e yP;have hk:=cK hT ht;have Hj:=cK hT yP
   split at h0
   ·rename_i rows Ts
    ·obtain⟨xs,QD,QK⟩:=x_ h0;clear h0;have h0:=QK;clear QK;cases hc:(sz == e.sz && (parts.toList.map (·.1) == List.range n) && rows.all (·.all D.plain) && Nat.ble (n*sz) 16777216) with
     | false=>rw [hc] at h0;cases h0
     | true =>
      rw [hc] at h0;simp only [cond_true] at h0;simp only [Bool.and_eq_true,beq_iff_eq,Nat.ble_eq] at hc;obtain⟨⟨⟨rfl,tF⟩,o8⟩,KA⟩:=hc
      haveI:gD P T (.slice et):=⟨hk.fA⟩
      have yQ:=hr.au (t:=dt);have hlen:parts.toList.length=n:=by have:=congrArg List.length tF;simpa using this
      have hf:=Kz Ts;have hex:∃ vs:List (List Value),F2 (λ(q:Nat×Value) r=>q.2.cells=r.toArray) (parts.toList.map λq=>(q.1,ev ρ q.2)) vs/\F2 (λr v=>Rd F r v) rows vs:=by
       clear QD tF KA Ts hlen h0;generalize parts.toList=pl at hf
       induction pl generalizing rows with
       | nil=>cases hf;exact⟨[], .nil, .nil⟩
       | cons q pl ih =>
        simp only [List.map_cons] at hf;cases hf with
        | cons h1 h2 =>
         simp only [List.all_cons,Bool.and_eq_true] at o8;obtain⟨cs,a,b,c⟩:=mE yQ (eR yQ q.2) h1;obtain⟨vs,d,e⟩:=ih _ o8.2 h2;exact⟨cs::vs, .cons a d, .cons (b.rd o8.1) e⟩
      obtain⟨vs,v1,v2⟩:=hex;have v3:=ya QD v2;have rl:=xn v3;have QM:vs.length=n:=by rw [bz v1,List.length_map,hlen]
      have sn:=fR rl;have U2:∀ dz:List Value,(∀ q∈parts.toList,ev dz q.2=ev ρ q.2)->Ex P dz ⟨dst, .buildSlice T n parts,ty,p,af,gd⟩ h (.slice (some ⟨h.size,0,none⟩) n n) (h.push (.cells vs.flatten.toArray et (0,0))):=λdz ZG=>⟨λE w hw=>by
       have KB:∀ zero:Array Value,Instr.fill (λi=>some (i*e.sz,e.sz)) ((Array.range (n*e.sz)).map (zero[· % zero.size]!)) (parts.toList.map λq=>(q.1,ev ρ q.2))=some vs.flatten.toArray:=λzero=>by
        have:=DN (sz:=e.sz) 0 [] ((Array.range (n*e.sz)).map (zero[· % zero.size]!)).toList v1 (by simp only [List.map_map,List.length_map,Function.comp_def,hlen];rw [tF,List.range_eq_range']) rl (by simp) (by simp [QM])
        have e0:([]++((Array.range (n*e.sz)).map (zero[· % zero.size]!)).toList).toArray=(Array.range (n*e.sz)).map (zero[· % zero.size]!):=by rw [List.nil_append,Array.toArray_toList]
        rw [e0,List.nil_append] at this;exact this
       have h4:¬ (n*e.sz > 2 ^ 24):=by omega
       have Wg:∀ w,(zeroValue et).run P w = .ok z w:=Hj.J7;have qF:∀ w,(sizeOf et).run P w = .ok e.sz w:=Hj.sM;refine⟨.value (.slice (some ⟨h.size,0,none⟩) n n),{ w with heap:=w.heap.push (.cells vs.flatten.toArray et (0,0)) },?_,hw.push, .inl rfl⟩;have zf:parts.toList.map (λq=>(q.1,ev dz q.2))=parts.toList.map λq=>(q.1,ev ρ q.2):=List.map_congr_left λq hq=>by rw [ZG q hq]
       simp only [execOp,Instr.buildSlice];simp only [Sem.run_bind,fA T w,qF w,Result.andThen_ok,h4,if_false,Sem.run_pure,Array.toList_map,zf]
       by_cases hz:n*e.sz=0
       ·rw [if_pos hz];simp only [Sem.run_bind,Result.andThen_ok,Sem.run_pure,KB,newRow,run_newObj];rw [<- hw.1]
       ·rw [if_neg hz];simp only [Sem.run_bind,Wg,Result.andThen_ok,Sem.run_pure,KB,newRow,run_newObj];rw [<- hw.1]⟩
      refine⟨_,_,U2,?_⟩;refine jA (b := .rows e et xs) (x:=(.slice (some ⟨h.size,0,none⟩) n n,[(h.size,vs.flatten,BT.c et)])) iB rfl rfl rfl hr ((hm.au (t:=dt)).push _ et) ⟨some ⟨h.size,0,none⟩,n,n,vs,by rw [Gh.ao],?_,v3⟩ (.jd (by show _=_;rw [Gh.ao])) h0;rw [Gh.ao];exact⟨.inr ⟨h.size,n,n,[],rfl,by simp,by rw [sn,QM],by rw [sn,QM];simp,Nat.le_refl _⟩,QM.symm,rl⟩
   ·cases h0
  ·cases h0
 ·cases h0
theorem Be:∀ (l:List UInt8),F2 (λ(x:E.u8.T) r=>Rd F (E.u8.enc x) r) l (l.map λc=>[jY c])
 | [] => .nil
 | c::l => .cons (.int .nil) (Be l)
theorem yb:∀ (l:List UInt8),(l.map λc=>[jY c]).flatten=l.map jY
 | []=>rfl
 | c::l=>by simp only [List.map_cons,List.flatten_cons,yb l];rfl
theorem OH {l:List UInt8}:∀ r∈l.map (λc=>[jY c]),r.length=1:=by intro r hr;obtain⟨c,_,rfl⟩:=List.mem_map.1 hr;rfl
theorem BM {S X et:TypeId}{x y:Operand}{q:Option Addr}{n cp:Nat}{ys:List UInt8}{Lv L1 L2 Lf:List gJ}{rows:List (List Value)}{i:TypeInfo}{z:Value}[gD P S (.slice et)][gD P X .string][se P et 1][Gm P et i][IS P et z](hz:z.cells.size=1)(hx:ev ρ x = .slice q n cp)(hy:ev ρ y=bs ys)(hm:Hp h F Lf)(hL:Lf=L1++(Lv++L2))(hs:yO 1 et q n cp Lv rows)
  (hb:i.bytes+1<=32768) (hr:n+ys.length<=2147483648) :
  Ef P ρ ⟨dst, .call ⟨.builtin .append,#[x,y],#[S,X]⟩,ty,p,af,gd⟩ h λv h'=>∃ q' sT nC,v = .slice q' (n+ys.length) sT/\yO 1 et q' (n+ys.length) sT nC (rows++ys.map λc=>[jY c])/\Hp h' F (L1++(nC++L2)):=by
 have sn:=fR hs.row;have Hh:=hs.len;have UZ:∀ w:World,(Builtin.firstCells 1 ys.length (bs ys)).run P w = .ok (ys.map jY).toArray w:=λw=>by
  have he:(ByteArray.mk ys.toArray).extract 0 ys.length=ByteArray.mk ys.toArray:=by
   have:=ByteArray.extract_zero_size (b:=ByteArray.mk ys.toArray)
   rwa [pZ] at this
  simp only [bs,Builtin.firstCells,he,Sem.run_pure]
  congr 1
  apply Array.ext';simp [jY]
 have hlen:∀ w:World,(Builtin.lenOf (bs ys)).run P w = .ok ys.length w:=λw=>by simp [Builtin.lenOf,bs,pZ]
 rcases Nat.eq_zero_or_pos ys.length with h0 | j4
 ·have OE:ys=[]:=List.eq_nil_of_length_eq_zero h0;subst OE;have hle:=hs.le;refine⟨λE w hA=>?_⟩;have nI:(Builtin.append_ #[S,X] ty #[.slice q n cp,bs []]).run P w = .ok (.slice q n cp) w:=by have h1:=UZ w;have h2:=hlen w;simp only [List.length_nil] at h1 h2;simp only [Builtin.append_];cases q <;> simp [fA S w,fA X w,sM et w,h2,hle,h1,storeCells]
  refine⟨.value (.slice q n cp),w,h, .slice q n cp,by simp [execOp,resolve,hx,hy,invoke,builtin,nI],hA, .inl rfl,q,cp,Lv,rfl,by simpa using hs,by rw [<- hL];exact hm⟩
 ·refine⟨λE w hA=>?_⟩;obtain⟨v',w',nC,h',nI,xT,Ns,tE⟩:=Hf (X':=0) (P:=P) (ty:=ty) (new:=ys.map jY) (xv:=bs ys) (n:=ys.length) (S:=S) (X:=X) hz hm hL hs.sh hlen (λw _=>UZ w) (by simp) (λu hu=>by
   obtain⟨c,_,rfl⟩:=List.mem_map.1 hu
   rfl) (by rw [sn,List.length_map,<- Hh,Nat.mul_one];exact Nat.le_trans (Nat.mul_le_mul hr hb) (by decide)) (by omega) w hA j4
  have hv:∃ q' sT,v' = .slice q' (n+ys.length) sT:=by
   rcases Ns with⟨rfl,_,h1⟩ | ⟨B,n',cap,spare,rfl,_,h1,_,_⟩
   ·have:=congrArg List.length h1
    simp only [List.length_append,List.length_map,List.length_nil] at this;omega
   ·have h2:n'=n+ys.length:=by
     have:n'=n'*1:=by omega
     rw [this,h1,List.length_append,sn,List.length_map,<- Hh,Nat.mul_one]
    exact⟨_,_,by rw [h2]⟩
  obtain⟨q',sT,rfl⟩:=hv;refine⟨.value (.slice q' (n+ys.length) sT),w',h', .slice q' (n+ys.length) sT,by simp [execOp,resolve,hx,hy,invoke,builtin,nI],xT, .inl rfl,q',sT,nC,rfl,⟨?_,by simp [Hh],λr hr=>?_⟩,tE⟩
  ·rw [List.flatten_append,yb];exact Ns
  ·rcases List.mem_append.1 hr with hr | hr
   ·exact hs.row r hr
   ·exact OH r hr
theorem Au {S X:TypeId}{x y:Operand}(hT:vY P C)(hX:∃ a b c d e,ti C X=some ⟨.str,a,b,c,d,e⟩)(hr:Rel F ι s ρ)(hm:Hp h F (lv ι s.ow++L0))(iB:s.np % 1000<=dt)(h0:y7 C s dt x y S K=some r):Ef P ρ ⟨dst, .call ⟨.builtin .append,#[x,y],#[S,X]⟩,ty,p,af,gd⟩ h (pf K r F ι s ρ L0 dt):=by
 obtain⟨xa,xb,xc,xd,xe,hX⟩:=hX
 haveI:gD P X .string:=⟨(cK hT hX).fA⟩
 unfold y7 at h0
 split at h0
 ·rename_i et _ _ _ _ _ hS
  split at h0
  ·rename_i sh ag z Rs yP;have Hj:=cK hT yP;obtain⟨i,Rz,Bf⟩:=Hj.inf
   haveI:gD P S (.slice et):=⟨(cK hT hS).fA⟩
   haveI:Gm P et i:=⟨Rz⟩
   haveI:IS P et z:=⟨Hj.J7⟩
   haveI:se P et 1:=⟨Hj.sM⟩
   have DO:z.cells.size=1:=Hj.zc;cases hc:Nat.ble (Rs+1) 32768 with
   | false=>rw [hc] at h0;cases h0
   | true =>
    rw [hc] at h0;simp only [cond_true] at h0;rw [Nat.ble_eq] at hc
    split at h0
    ·rename_i ys OI;have hy:=eR hr y;rw [OI] at hy;have hy:=Rd.g_ hy;have hx:=eR hr x
     split at h0
     ·rename_i tx hl;rw [hl] at hx;have hx:ev ρ x=(ι tx).1:=hx
      split at h0
      ·rename_i e' T xs dB
       split at h0
       ·rename_i IG lL;obtain⟨rfl,lL⟩:=jc lL;have lL:xs=IG:=lL;subst lL;cases yW:(T == et) with
        | false=>rw [yW] at h0;cases h0
        | true =>
         rw [yW] at h0;simp only [cond_true] at h0;have yW:T=et:=by simpa using yW
         subst yW;obtain⟨rr,xR,h0⟩:=Option.bind_eq_some_iff.1 h0;obtain⟨l1,l2,u1,u2⟩:=BF (ι:=ι) hr.nd dB;obtain⟨q,n,cp,rows,g1,g2,g3⟩:=hr.look dB;have sK:=hr.au (t:=tx);unfold eC at xR
         split at xR
         ·rename_i hle;cases xR;have Gs:n=xs.length:=by rw [g2.len,<- bz g3]
          rw [g1] at hx;refine (BM (P:=P) (dst:=dst) (ty:=ty) (p:=p) (af:=af) (gd:=gd) DO hx hy hm (L1:=l1) (Lv:=(ι tx).2) (L2:=l2++L0) (by rw [u1];simp) g2 (by simp only at Bf;rw [Bf];exact hc) (by rw [Gs];exact hle)).mono λv h' ⟨q',sT,nC,e1,e2,e3⟩=>?_
          subst e1;refine jA (s1:=s.au tx) (b := .rows .u8 T (xs++ys)) (x:=(.slice q' (n+ys.length) sT,nC)) iB rfl rfl rfl sK ?_ ⟨q',n+ys.length,sT,rows++ys.map λc=>[jY c],by rw [Gh.ao],by rw [Gh.ao];exact e2,g3.append (Be ys)⟩ (.jd (by show _=_;rw [Gh.ao])) h0;have p1:(nC++(l1++l2++L0)).Perm (l1++(nC++(l2++L0))):=by rw [List.append_assoc l1];exact List.perm_append_comm_assoc _ _ _
          have e4:=e3.perm p1;rw [<- u2] at e4;exact e4.sub ((List.Sublist.refl _).append ((qw _ _).append (List.Sublist.refl _)))
         ·cases xR
       ·cases h0
      ·cases h0
     ·rename_i hl;rw [hl] at hx;have hx:=Rd.nH hx;obtain⟨rr,xR,h0⟩:=Option.bind_eq_some_iff.1 h0;unfold eC at xR
      split at xR
      ·rename_i hle;cases xR;refine (BM (P:=P) (dst:=dst) (ty:=ty) (p:=p) (af:=af) (gd:=gd) DO hx hy hm (L1:=[]) (Lv:=[]) (L2:=lv ι s.ow++L0) (by simp) (yO.nil _ _) (by simp only at Bf;rw [Bf];exact hc) (by simpa using hle)).mono λv h' ⟨q',sT,nC,e1,e2,e3⟩=>?_
       subst e1;refine jA (s1:=s) (b := .rows .u8 et ([]++ys)) (x:=(.slice q' (0+ys.length) sT,nC)) iB rfl rfl rfl hr ?_ ⟨q',0+ys.length,sT,[]++ys.map λc=>[jY c],by rw [Gh.ao],by rw [Gh.ao];exact e2,F2.append .nil (Be ys)⟩ (.jd (by show _=_;rw [Gh.ao])) h0;exact e3.sub ((List.Sublist.refl _).append ((qw _ _).append (List.Sublist.refl _)))
      ·cases xR
     ·cases h0
    ·cases h0
  ·cases h0
 ·cases h0
theorem EU {S T:TypeId}{x:Operand}(hT:vY P C)(hr:Rel F ι s ρ)(hm:Hp h F (lv ι s.ow++L0))(iB:s.np % 1000<=dt)(h0:o_ C s dt (.convert S T x) K=some r):Ef P ρ ⟨dst, .convert S T x,ty,p,af,gd⟩ h (pf K r F ι s ρ L0 dt):=by
 simp only [o_] at h0
 split at h0
 ·rename_i _ _ _ _ _ hS
  split at h0
  ·rename_i et _ _ _ _ _ ht
   split at h0
   ·rename_i _ _ _ _ yP
    split at h0
    ·rename_i l hl
     haveI:gD P S .string:=⟨(cK hT hS).fA⟩
     haveI:gD P T (.slice et):=⟨(cK hT ht).fA⟩
     haveI:gD P et (.int .u8):=⟨(cK hT yP).fA⟩
     have hx:=eR hr x;rw [hl] at hx;have hx:=Rd.g_ hx;refine⟨λE w hw=>?_⟩;obtain⟨cap,w',hc,nI,hA⟩:=Q9 (P:=P) (S:=S) (T:=T) (e:=et) (d:=dst) (ty:=ty) (p:=p) (af:=af) (g:=gd) hx w hw;refine⟨_,w',_,_,nI,hA, .inl rfl,?_⟩;refine jA (b := .rows .u8 et l) (x:=(.slice (some ⟨h.size,0,none⟩) l.length cap,[(h.size,l.map jY++List.replicate (cap - l.length) (Value.int .u8 0),BT.c et)])) iB rfl rfl rfl hr ((hm.au (t:=dt)).Kl _ _ _ ⟨(cap,cap+1),λi hi h=>by simp at hi;simp at h;omega,rfl⟩) ⟨some ⟨h.size,0,none⟩,l.length,cap,l.map λc=>[jY c],by rw [Gh.ao],?_,Be l⟩ (.jd (by show _=_;rw [Gh.ao])) h0;rw [Gh.ao];exact⟨.inr ⟨h.size,l.length,cap,List.replicate (cap - l.length) (Value.int .u8 0),rfl,by rw [yb],by rw [yb];simp [V.E.sz],by rw [yb];simp [V.E.sz];omega,hc⟩,by simp,OH⟩
    ·cases h0
   ·cases h0
  ·cases h0
 ·cases h0
theorem C3 {T:TypeId}{x:Operand}(hT:vY P C)(hr:Rel F ι s ρ)(hm:Hp h F (lv ι s.ow++L0))(iB:s.np % 1000<=dt)(h0:o_ C s dt (.range T x) K=some r):Ef P ρ ⟨dst, .range T x,ty,p,af,gd⟩ h (pf K r F ι s ρ L0 dt):=by
 simp only [o_] at h0
 split at h0
 ·rename_i _ _ _ _ _ ht
  split at h0
  ·rename_i l hl
   haveI:gD P T .string:=⟨(cK hT ht).fA⟩
   have hx:=eR hr x;rw [hl] at hx;have hx:=Rd.g_ hx;refine⟨λE w hw=>?_⟩;have nI:=LU (P:=P) (T:=T) (d:=dst) (ty:=ty) (p:=p) (af:=af) (g:=gd) hx w hw;refine⟨_,_,_,_,nI,hw.push, .inl rfl,?_⟩;exact jA (b := .ug l 0) (x:=(.pointer (some ⟨h.size,0,none⟩),[(h.size,[bs l,Value.int .i64 0],BT.ug)])) iB rfl rfl rfl hr ((hm.au (t:=dt)).Kl _ _ _ rfl) ⟨h.size,by rw [Gh.ao],by rw [Gh.ao];rfl⟩ (.jd (jM.Oz (by rw [Gh.ao]))) h0
  ·cases h0
 ·cases h0
theorem OJ {h:Array Obj}{B:Nat}{o:Obj}:∀ b,b≠B->(h.setIfInBounds B o)[b]?=h[b]?:=λb hb=>by rw [Array.getElem?_setIfInBounds];simp [λe:B=b=>hb e.symm];intro e;exact absurd e.symm hb
theorem OK {h:Array Obj}{B:Nat}{o o':Obj}(hb:h[B]?=some o'):(h.setIfInBounds B o)[B]?=some o:=by
 have:=(Array.getElem?_eq_some_iff.1 hb).1
 rw [Array.getElem?_setIfInBounds];simp [this]
theorem Hk {b b':OB}{B:Nat}{cs cs':List Value}{T:BT}{o o':Obj}{d':D}(hr:Rel F ι s ρ)(hm:Hp h F (lv ι s.ow++L0))(dB:s.look t=some b)(hB:(ι t).2=[(B,cs,T)])(ho:h[B]?=some o)(N5:∀ c e z,o ≠ .cells c e z)(Hl:vW (some o') (B,cs',T))(Dy:kS F (ι.dq t ((ι t).1,[(B,cs',T)])) t b')(hd:kQ F (ι.dq t ((ι t).1,[(B,cs',T)])) d' v)(hk:K d' (s.dq t b')=some r) :
  pf K r F ι s ρ L0 dt v (h.setIfInBounds B o'):=by
 obtain⟨u1,l1,l2,u2,u3,_⟩:=hr.dq (b':=b') (x:=((ι t).1,[(B,cs',T)])) dB rfl Dy;have m9:∀ t',(ι.dq t ((ι t).1,[(B,cs',T)]) t').1=(ι t').1:=λt'=>by
  by_cases e:t'=t
  ·subst e;rw [Gh.ao]
  ·rw [Gh.bJ e]
 have hj:(lv ι s.ow++L0)[l1.length]?=some (B,cs,T):=by rw [u2,hB];simp
 have hp:=hm.W1 (h':=h.setIfInBounds B o') (cs':=cs') hj OJ (by rw [OK ho];exact Hl) (λc e hc=>by rw [ho] at hc;cases hc;exact absurd rfl (N5 _ _ _));refine⟨F,_,d',_, .refl F,u1,?_,hd,hk,rfl,rfl,rfl,λ_=>rfl,λt _=>m9 t,λt ht _ _ _=>Gh.bJ λe=>ht _ (gR dB) e.symm⟩;rw [u3];rw [u2,hB] at hp;simpa using hp
theorem EV {x:Operand}(hr:Rel F ι s ρ)(hm:Hp h F (lv ι s.ow++L0))(h0:o_ C s dt (.next x true) K=some r):Ef P ρ ⟨dst, .next x true,ty,p,af,gd⟩ h (pf K r F ι s ρ L0 dt):=by
 simp only [o_] at h0
 split at h0
 ·rename_i t hl
  split at h0
  ·rename_i l pos dB;have hx:=eR hr x;rw [hl] at hx;obtain⟨B0,g0,hx⟩:=hx;obtain⟨B,g1,g2⟩:=hr.look dB;rw [g0] at g1;cases g1;have hb:h[B0]?=some (.stringIter ⟨l.toArray⟩ pos):=by
    have:=hm.own (B0,[bs l,Value.int .i64 (pos:Int)],BT.ug) (List.mem_append_left _ (rS dB (by rw [g2];simp)))
    simpa [vW,UL,bs] using this
   by_cases hp:pos<l.length
   ·rw [decide_eq_true hp] at h0;simp only [cond_true] at h0;refine⟨λE w hw=>?_⟩;have nI:=GN (P:=P) (d:=dst) (ty:=ty) (p:=p) (af:=af) (g:=gd) hx w (by rw [hw.1];exact hb) hp;refine⟨_,_,h.setIfInBounds B0 (.stringIter ⟨l.toArray⟩ (pos+(uo l pos).2)),_,nI,⟨by rw [hw.1];rfl,hw.2.1,hw.2.2.1,hw.2.2.2⟩, .inl rfl,?_⟩;refine Hk (b' := .ug l (pos+(uo l pos).2)) (d' := .A9 [.bool true, .int .i64 (pos:Int), .int .i32 ((uo l pos).1:Int)]) (cs':=[bs l,Value.int .i64 ((pos+(uo l pos).2:Nat):Int)]) hr hm dB g2 hb (by intro c e z;simp) (by show _=_;simp only [UL,bs,Int.toNat_natCast]) ⟨B0,by rw [Gh.ao];exact g0,by rw [Gh.ao]⟩ ⟨_,rfl, .cons (.aU (.bool .nil)) (.cons (.aU (.int .nil)) (.cons (.aU (.int .nil)) .nil))⟩ h0
   ·rw [decide_eq_false hp] at h0;simp only [cond_false] at h0;refine⟨λE w hw=>?_⟩;have nI:=EA (P:=P) (d:=dst) (ty:=ty) (p:=p) (af:=af) (g:=gd) hx w (by rw [hw.1];exact hb) hp;exact⟨_,_,h,_,nI,hw, .inl rfl,F,ι, .A9 [.bool false],s, .refl F,hr,hm,⟨_,rfl, .cons (.aU (.bool .nil)) .nil⟩,h0,rfl,rfl,rfl,λ_=>rfl,λ_ _=>rfl,λ_ _ _ _ _=>rfl⟩
  ·cases h0
 ·cases h0
theorem Av {T:TypeId}{q:Option Operand}(hT:vY P C)(hr:Rel F ι s ρ)(hm:Hp h F (lv ι s.ow++L0))(iB:s.np % 1000<=dt)(h0:o_ C s dt (.makeMap T q) K=some r):Ef P ρ ⟨dst, .makeMap T q,ty,p,af,gd⟩ h (pf K r F ι s ρ L0 dt):=by
 simp only [o_] at h0
 split at h0
 ·rename_i kt vt _ _ _ _ _ ht
  haveI:gD P T (.map kt vt):=⟨(cK hT ht).fA⟩
  split at h0
  ·rename_i k n Tt;have hq:∀ y,q=some y->∃ k n,ev ρ y = .int k n:=λy hy=>by
    subst hy
    have:=eR hr y
    simp only at Tt;rw [Tt] at this;exact⟨_,_,Rd.c_ this⟩
   refine⟨λE w hw=>?_⟩;have nI:=run_makeMap (P:=P) (T:=T) (d:=dst) (ty:=ty) (p:=p) (af:=af) (g:=gd) hq w hw;refine⟨_,_,_,_,nI,hw.push, .inl rfl,?_⟩;exact jA (b := .mp []) (x:=(.map (some h.size),[(h.size,[],BT.map)])) iB rfl rfl rfl hr ((hm.au (t:=dt)).Kl _ _ _ rfl) ⟨h.size,[],by rw [Gh.ao],by rw [Gh.ao], .nil⟩ (.jd (by show _=_;rw [Gh.ao])) h0
  ·cases h0
 ·cases h0
def rI (a:Option Addr)(u:Value):List Value->List Value
 | k::v::r=>if Kt a k then .pointer a::u::r else k::v::rI a u r
 | _=>[.pointer a,u]
theorem Hm {o:Option Nat}{a:Option Addr}{b:Bool}(ho:Rd F [.np o] [.pointer a]):∀ {l:List (Option Nat×Bool)} {cs:List Value},Rd F (QG l) cs->Rd F (QG (yY l o b)) (rI a (.bool b) cs)
 | [],_,h=>by cases h;exact ho.cons (Rd.bool .nil)
 | (o',b')::l,_,h=>by
  obtain⟨k,cs,rfl,h1,h2⟩:=h.az;obtain⟨v,cs,rfl,h3,h4⟩:=h2.az;obtain⟨a',rfl⟩:=h1.zb;have he:=OA ho h1;have hA:Kt a (.pointer a')=decide (o=o'):=by simp only [Kt,decide_eq_decide];exact he
  by_cases e:o=o'
  ·simp only [yY,rI,hA,e,decide_true,if_true];have Hl:=ho;rw [e] at Hl;exact Hl.cons (Rd.cons (Rd.bool .nil) h4)
  ·simp only [yY,rI,hA,e,decide_false,if_false];exact h1.cons (h3.cons (Hm ho h4))
theorem KC:∀ {l:List (Option Nat×Bool)} {cs:List Value},Rd F (QG l) cs->cs.length=2*l.length
 | [],_,h=>by cases h;rfl
 | p::l,_,h=>by obtain⟨k,cs,rfl,h1,h2⟩:=h.az;obtain⟨v,cs,rfl,h3,h4⟩:=h2.az;simp [KC h4];omega
theorem DP {a:Option Addr}{u:Value}:∀ {l:List (Option Nat×Bool)} {cs:List Value} (i:Nat),Rd F (QG l) cs->(match findD (Kt a) (jP cs i) i with
   | some r=>jP (rI a u cs) i=(jP cs i).modify (r.1 - i) (λm=>{ m with key := .pointer a,val:=u })/\i<=r.1/\(rI a u cs).length=cs.length
   | none=>jP (rI a u cs) i=jP cs i++[{ key := .pointer a,val:=u,born:=i+l.length }]/\(rI a u cs).length=cs.length+2)
 | [],_,i,h=>by cases h;simp [jP,findD,rI]
 | p::l,_,i,h=>by
  obtain⟨k,cs,rfl,h1,h2⟩:=h.az;obtain⟨v,cs,rfl,h3,h4⟩:=h2.az;obtain⟨a',rfl⟩:=h1.zb
  by_cases hA:Kt a (.pointer a')=true
  ·simp [jP,findD,rI,hA]
  ·have ih:=DP (a:=a) (u:=u) (i+1) h4;simp only [Bool.not_eq_true] at hA;simp only [jP,findD,rI,hA,Bool.false_eq_true,if_false];cases hf:findD (Kt a) (jP cs (i+1)) (i+1) with
   | none =>
    rw [hf] at ih;simp only at ih ⊢;rw [ih.1];refine⟨?_,by simp [ih.2]⟩;simp only [List.cons_append,List.length_cons];rw [show i+(l.length+1)=i+1+l.length by omega]
   | some r =>
    rw [hf] at ih;simp only at ih ⊢;rw [ih.1];refine⟨?_,by omega,by simp [ih.2.2]⟩;rw [show r.1 - i=(r.1 - (i+1))+1 by omega];rfl
theorem yc {T:TypeId}{x y z:Operand}(hT:vY P C)(hr:Rel F ι s ρ)(hm:Hp h F (lv ι s.ow++L0))(h0:o_ C s dt (.mapUpdate T x y z) K=some r):Ef P ρ ⟨dst, .mapUpdate T x y z,ty,p,af,gd⟩ h (pf K r F ι s ρ L0 dt):=by
 simp only [o_] at h0
 split at h0
 ·rename_i kt vt _ _ _ _ _ ht
  split at h0
  ·rename_i e _ _ _ _ _ hk
   split at h0
   ·rename_i te yP;cases hz:Nat.blt 0 te.size with
    | false=>rw [hz] at h0;cases h0
    | true =>
     rw [hz] at h0;simp only [cond_true] at h0;have hz:0<te.size:=by simpa [Nat.blt_eq] using hz
     haveI:gD P T (.map kt vt):=⟨(cK hT ht).fA⟩
     haveI:gD P kt (.pointer e):=⟨(cK hT hk).fA⟩
     haveI:se P e te.size:=⟨(cK hT yP).sM⟩
     split at h0
     ·rename_i o ho;have hy:=nG ho (kQ.mn (eR hr y) (by
       have:=ho
       unfold qH at this
       split at this
       ·rename_i hd;rw [hd];rfl
       ·rename_i hd;rw [hd];rfl
       ·cases this))
      obtain⟨a,ha⟩:=hy.zb;rw [ha] at hy
      split at h0
      ·rename_i b hb;have Y6:=eR hr z;rw [hb] at Y6;have Y6:=Rd.iD Y6
       split at h0
       ·rename_i t hg;have hx:=eR hr x;rw [hg] at hx;have hx:ev ρ x=(ι t).1:=hx
        split at h0
        ·rename_i l dB;obtain⟨B,cs,g1,g2,g3⟩:=hr.look dB;rw [g1] at hx;have We:h[B]?=some (GY cs):=hm.own (B,cs,BT.map) (List.mem_append_left _ (rS dB (by rw [g2];simp)));refine⟨λE w hw=>?_⟩;have nI:=CS (P:=P) (T:=T) (kt:=kt) (vt:=vt) (e:=e) (z:=z) (d:=dst) (ty:=ty) (p:=p) (af:=af) (g:=gd) (Kt a) hx ha w (by rw [hw.1];exact We) (λm tE=>by
          obtain⟨o',a',e1,e2⟩:=EO 0 g3 m (by simpa using tE);rw [e1];exact G6 (P:=P) (kt:=kt) (e:=e) (n:=te.size) (by omega) hm hw.1 hy e2) (λm tE hd=>by
          obtain⟨o',a',e1,e2⟩:=EO 0 g3 m (by simpa using tE);rw [e1] at hd ⊢;simp only [Kt,decide_eq_true_eq] at hd;rw [hd])
         have Z_:(match findD (Kt a) (jP cs 0) 0 with
           | some r=>Obj.map ((jP cs 0).toArray.modify r.1 λm=>{ m with key := .pointer a,val:=ev ρ z }) (cs.length / 2)
           | none=>Obj.map ((jP cs 0).toArray.push { key := .pointer a,val:=ev ρ z,born:=cs.length / 2 }) (cs.length / 2+1))=GY (rI a (ev ρ z) cs):=by
          have h1:=DP (a:=a) (u:=ev ρ z) 0 g3;have h2:=KC g3;cases hf:findD (Kt a) (jP cs 0) 0 with
          | none =>
           rw [hf] at h1;simp only at h1 ⊢;rw [GY,h1.1,h1.2];have h3:(cs.length+2) / 2=cs.length / 2+1:=by omega
           have h4:cs.length / 2=0+l.length:=by omega
           rw [h3,h4];simp
          | some r =>
           rw [hf] at h1;simp only at h1 ⊢;rw [GY,h1.1,h1.2.2]
           congr 1
           apply Array.ext';simp
         refine⟨_,_,h.setIfInBounds B (GY (rI a (ev ρ z) cs)),undef,nI,⟨?_,hw.2.1,hw.2.2.1,hw.2.2.2⟩, .inr ⟨rfl,rfl⟩,?_⟩
         ·rw [<- Z_,hw.1];rfl
         ·refine Hk (b' := .mp (yY l o b)) (d' := .fA) (cs':=rI a (ev ρ z) cs) (T:=BT.map) hr hm dB g2 We (by intro c e z;simp [GY]) rfl ⟨B,_,by rw [Gh.ao];exact g1,by rw [Gh.ao],?_⟩ rfl h0;rw [Y6];exact Hm hy g3
        ·cases h0
       ·cases h0
      ·cases h0
     ·cases h0
   ·cases h0
  ·cases h0
 ·cases h0
set_option maxHeartbeats 1000000 in
theorem KD (b:gJ)(l1 l2 L1 L2 Lv L0:List gJ):(l1++(L1++(b::Lv++L2)++l2)++L0).Perm (Lv++((L1++b::L2)++(l1++l2)++L0)):=by
 classical
 rw [List.perm_iff_count];intro a;simp only [List.count_append,List.count_cons];omega
theorem EW {x y:Operand}{S:TypeId}{tl:List TypeId}(hT:vY P C)(hr:Rel F ι s ρ)(hm:Hp h F (lv ι s.ow++L0))(h0:I5 C s x y S K=some r):Ef P ρ ⟨dst, .call ⟨.builtin .copy,#[x,y],(S::tl).toArray⟩,ty,p,af,gd⟩ h (pf K r F ι s ρ L0 dt):=by
 unfold I5 at h0
 split at h0
 ·rename_i et _ _ _ _ _ hS
  split at h0
  ·rename_i te yP
   split at h0
   ·rename_i j hl;have hx:=eR hr x;rw [hl] at hx
    split at h0
    ·rename_i c T A hs dB;cases hc:(te.size == c.e.sz && A == et) with
     | false=>rw [hc] at h0;cases h0
     | true =>
      rw [hc] at h0;simp only [cond_true] at h0;simp only [Bool.and_eq_true,beq_iff_eq] at hc;obtain⟨qF,rfl⟩:=hc;obtain⟨hn,Xk,h0⟩:=Option.bind_eq_some_iff.1 h0;obtain⟨A7,h0⟩:=vr h0;have QK:=vx h0;clear h0;obtain⟨ys,OI,h0⟩:=QK
      ·skip
       haveI:gD P S (.slice A):=⟨(cK hT hS).fA⟩
       haveI:se P A c.e.sz:=⟨λw=>by rw [<- qF];exact (cK hT yP).sM w⟩
       obtain⟨qx,nx,cx,news,w1,w2,w3,w4,w5,w6⟩:=qf hr hm (eR hr y) OI;obtain⟨Gt,g0,g1⟩:=hx;obtain⟨_,j6,o1,o2,o3⟩:=hr.look dB;have ET:=o1;rw [g0] at ET;have ET:Gt=j6:=by simpa using ET
       subst ET;obtain⟨qQ,tN,su,qh,L1,L2,hd,B,cs,Lv,e1,e2,e3,e4,e5,e6,e7,e8⟩:=o2.split Xk;have Ry:hd=ev ρ x:=by rw [e3,List.getElem?_append_right (by omega)] at g1;simpa [e4] using g1
       subst Ry;obtain⟨q,n,cp,rows,a1,a2,a3⟩:=(e7.ha (by simp)).own A7;have Gs:n=(c.xs hn).length:=by rw [a2.len,<- bz a3]
       have DQ:=qg (ι:=ι) hr.nd dB;have pK:Hp h F (Lv++((L1++(B,cs++[ev ρ x],BT.c T)::L2)++lv ι (s.au NT).ow++L0)):=by refine hm.perm ?_;refine List.Perm.trans ?_ (DQ.symm.append_right L0);rw [e5];simp only [List.append_assoc,List.cons_append];refine (List.perm_append_comm_assoc _ _ _).trans (List.Perm.append_left _ ?_);exact List.perm_middle
       refine (Ru (P:=P) (dst:=dst) (ty:=ty) (p:=p) (af:=af) (gd:=gd) (S:=S) (tl:=tl) a1 w1 pK a2 w6 w4 (by rw [w2,bz w5]) (xn w5) (x8 w5)).mono λv h' ⟨hv,nC,b2,b3⟩=>?_
       subst hv;have OF:min nx n=min ys.length (c.xs hn).length:=by rw [w2,Gs]
       rw [OF] at b2 ⊢;generalize min ys.length (c.xs hn).length=m at *;have m9:∀ t',(ι.dq NT ((ι NT).1,L1++((B,cs++[ev ρ x],BT.c T)::nC++L2)) t').1=(ι t').1:=λt'=>by
        by_cases e:t'=NT
        ·subst e;rw [Gh.ao]
        ·rw [Gh.bJ e]
       obtain⟨u1,l1,l2,u2,u3,u4⟩:=hr.dq (b' := .nodes c T A (hs.set j (c.wx hn (ys.take m++(c.xs hn).drop m))) none) (x:=((ι NT).1,L1++((B,cs++[ev ρ x],BT.c T)::nC++L2))) dB rfl ⟨rfl,Gt,by rw [Gh.ao];exact o1,by
        rw [Gh.ao];have e9:hs.set j (c.wx hn (ys.take m++(c.xs hn).drop m))=qQ++(c.wx hn (ys.take m++(c.xs hn).drop m))::tN:=by rw [e1,List.set_append_right _ _ (by omega),e2];simp
        rw [e9,e3];exact NR.join e6 e2 ⟨e7.hB,by rw [Cl.EJ];exact e7.hc,e7.h1,λ_ => .mk a1 b2 (by rw [Cl.Ko];exact (w5.take m).append (a3.drop m)) (Cl.Kn _ _),λe=>by cases e⟩ e8,by simpa using o3⟩
       refine⟨F,_, .int .i64 (m:Int),_, .refl F,u1,?_, .aU (.int .nil),h0,rfl,rfl,rfl,λ_=>rfl,λt _=>m9 t,λt ht _ _ _=>Gh.bJ λe=>ht _ (gR dB) e.symm⟩;rw [u3];refine b3.perm ?_;rw [u4];exact KD _ _ _ _ _ _ _
    ·cases h0
   ·cases h0
  ·cases h0
 ·cases h0
theorem Hn {T:TypeId}{Ho:TI}[se P T Ho.size]{x y:Operand}{z i j off:Nat}(hr:Rel F ι s ρ)(hm:Hp h F (lv ι s.ow++L0))(hx:kQ F ι (.Ap z i j off) (ev ρ x))(hy:kQ F ι d (ev ρ y))(h0:Oe s Ho z i j off d K=some r):Ef P ρ ⟨dst, .store T x y,ty,p,af,gd⟩ h (pf K r F ι s ρ L0 dt):=by
 unfold Oe at h0
 split at h0
 ·rename_i cl TN A hs dB
  split at h0
  ·rename_i l l6;cases hc:(z == cl.e.sz && l.length == Ho.size && Nat.ble (off+Ho.size) cl.e.sz && l.all D.plain) with
   | false=>rw [hc] at h0;cases h0
   | true =>
    rw [hc] at h0;simp only [cond_true] at h0;simp only [Bool.and_eq_true,beq_iff_eq,Nat.ble_eq] at hc;obtain⟨⟨⟨hz,tF⟩,o8⟩,KA⟩:=hc;subst hz;obtain⟨hn,Xk,h0⟩:=Option.bind_eq_some_iff.1 h0;obtain⟨A7,h0⟩:=vr h0;obtain⟨v,hv,h0⟩:=Option.bind_eq_some_iff.1 h0;rw [ER] at h0;obtain⟨v',OG,h0⟩:=Option.bind_eq_some_iff.1 h0;obtain⟨Gt,B,n,cp,g0,g1,hx⟩:=hx;obtain⟨_,j6,o1,o2,o3⟩:=hr.look dB;have ET:=o1;rw [g0] at ET;have ET:Gt=j6:=by simpa using ET
    subst ET;obtain⟨qQ,tN,su,qh,L1,L2,hd,B0,cs,Lv,e1,e2,e3,e4,e5,e6,e7,e8⟩:=o2.split Xk;have Ry:hd = .slice (some ⟨B,0,none⟩) n cp:=by rw [e3,List.getElem?_append_right (by omega)] at g1;simpa [e4] using g1
    subst Ry;obtain⟨q,n',sT,rows,a1,a2,a3⟩:=(e7.ha (by simp)).own A7;cases a1;obtain⟨new,n1,n2,n3⟩:=mE hr hy l6;have hnl:=bz n2;obtain⟨row,rl,tI⟩:=gq a3 hv;have zO:=a2.row row (List.mem_of_getElem? rl);obtain⟨pre,post,f1,f2,f3⟩:=uE a2.row rl;have Hq:Rd F (cl.e.enc v') (row.take off++new++row.drop (off+Ho.size)):=kB OG (((tI.take off).append (n2.rd KA)).append (tI.drop _));have DQ:=qg (ι:=ι) hr.nd dB;have pK:Hp h F (Lv++((L1++(B0,cs++[.slice (some ⟨B,0,none⟩) n cp],BT.c TN)::L2)++lv ι (s.au NT).ow++L0)):=by refine hm.perm ?_;refine List.Perm.trans ?_ (DQ.symm.append_right L0);rw [e5];simp only [List.append_assoc,List.cons_append];refine (List.perm_append_comm_assoc _ _ _).trans (List.Perm.append_left _ ?_);exact List.perm_middle
    rcases a2.sh with⟨he,_,_⟩ | ⟨B',n9,cap,spare,he,hL,IH,As,hle⟩
    ·cases he
    ·cases he;subst hL;have sn:=fR a2.row;have Hr:∀ r∈rows.set j (row.take off++new++row.drop (off+Ho.size)),r.length=cl.e.sz:=λr hr=>by
      rcases List.mem_or_eq_of_mem_set hr with h2 | h2
      ·exact a2.row r h2
      ·rw [h2,Hq.length,mQ]
     have Jj:=fR Hr;have Bc:yO cl.e.sz A (some ⟨B,0,none⟩) n cp [(B,(rows.set j (row.take off++new++row.drop (off+Ho.size))).flatten++spare,BT.c A)] (rows.set j (row.take off++new++row.drop (off+Ho.size))) :=
      ⟨.inr ⟨B,n,cp,spare,rfl,rfl,by rw [Jj,IH,sn];simp,by rw [Jj,As,sn];simp,hle⟩,by rw [a2.len];simp,Hr⟩
     have m9:∀ t',(ι.dq NT ((ι NT).1,L1++((B0,cs++[.slice (some ⟨B,0,none⟩) n cp],BT.c TN)::[(B,(rows.set j (row.take off++new++row.drop (off+Ho.size))).flatten++spare,BT.c A)]++L2)) t').1=(ι t').1:=λt'=>by
      by_cases e:t'=NT
      ·subst e;rw [Gh.ao]
      ·rw [Gh.bJ e]
     obtain⟨u1,l1,l2,u2,u3,u4⟩:=hr.dq (b' := .nodes cl TN A (hs.set i (cl.wx hn ((cl.xs hn).set j v'))) none) (x:=((ι NT).1,L1++((B0,cs++[.slice (some ⟨B,0,none⟩) n cp],BT.c TN)::[(B,(rows.set j (row.take off++new++row.drop (off+Ho.size))).flatten++spare,BT.c A)]++L2))) dB rfl ⟨rfl,Gt,by rw [Gh.ao];exact o1,by
      rw [Gh.ao];have e9:hs.set i (cl.wx hn ((cl.xs hn).set j v'))=qQ++(cl.wx hn ((cl.xs hn).set j v'))::tN:=by rw [e1,List.set_append_right _ _ (by omega),e2];simp
      rw [e9,e3];exact NR.join e6 e2 ⟨e7.hB,by rw [Cl.EJ];exact e7.hc,e7.h1,λ_ => .mk rfl Bc (by rw [Cl.Ko];exact a3.set Hq) (Cl.Kn _ _),λe=>by cases e⟩ e8,by simpa using o3⟩
     have lC:rows.flatten++spare=(pre++row.take off)++(row.drop off).take Ho.size++(row.drop (off+Ho.size)++post++spare):=by
      rw [f1]
      have:row=row.take off++((row.drop off).take Ho.size++row.drop (off+Ho.size)):=by rw [<- List.drop_drop,List.take_append_drop,List.take_append_drop]
      conv=>lhs;rw [this]
      simp
     rw [lC] at pK;refine (vy (P:=P) (T:=T) hx rfl n1 (by omega) n3 (show Hp h F ((B,(pre++row.take off)++(row.drop off).take Ho.size++(row.drop (off+Ho.size)++post++spare),BT.c A)::((L1++(B0,cs++[.slice (some ⟨B,0,none⟩) n cp],BT.c TN)::L2)++lv ι (s.au NT).ow++L0)) from pK) (by simp [f2];omega) (by simp;omega)).mono λw h' ⟨hv,tE⟩=>?_
     subst hv;refine⟨F,_, .fA,_, .refl F,u1,?_,rfl,h0,rfl,rfl,rfl,λ_=>rfl,λt _=>m9 t,λt ht _ _ _=>Gh.bJ λe=>ht _ (gR dB) e.symm⟩;rw [u3];have vn:Hp h' F ([(B,(rows.set j (row.take off++new++row.drop (off+Ho.size))).flatten++spare,BT.c A)]++((L1++(B0,cs++[.slice (some ⟨B,0,none⟩) n cp],BT.c TN)::L2)++lv ι (s.au NT).ow++L0)):=by rw [f3];simpa using tE
     refine vn.perm ?_;rw [u4];exact KD _ _ _ _ _ _ _
  ·cases h0
 ·cases h0
theorem uG {sy:St}{L1':List gJ}{x y:Operand}{S X:TypeId}(hT:vY P C)(hr:Rel F ι s ρ)(hm:Hp h F (lv ι s.ow++L0))(Tu:Rel F ι sy ρ)(Xl:Hp h F (lv ι sy.ow++L1'))(iB:s.np % 1000<=dt)(h0:xW C sy s dt x y S X K=some r):Ef P ρ ⟨dst, .call ⟨.builtin .append,#[x,y],#[S,X]⟩,ty,p,af,gd⟩ h (pf K r F ι s ρ L0 dt):=by
 unfold xW at h0
 split at h0
 ·rename_i et _ _ _ _ _ hS
  split at h0
  ·rename_i X' _ _ _ _ _ hX
   split at h0
   ·rename_i sh sz ag z Rs e yP;have Hj:=cK hT yP;obtain⟨i,Rz,Bf⟩:=Hj.inf
    haveI:gD P S (.slice et):=⟨(cK hT hS).fA⟩
    haveI:gD P X (.slice X'):=⟨(cK hT hX).fA⟩
    haveI:Gm P et i:=⟨Rz⟩
    haveI:IS P et z:=⟨Hj.J7⟩
    cases hc:(sz == e.sz && Nat.ble (sz*(Rs+1)) 32768) with
    | false=>rw [hc] at h0;cases h0
    | true =>
     rw [hc] at h0;simp only [cond_true] at h0;simp only [Bool.and_eq_true,beq_iff_eq,Nat.ble_eq] at hc;obtain⟨rfl,tF⟩:=hc
     haveI:se P et e.sz:=⟨Hj.sM⟩
     have DO:z.cells.size=e.sz:=Hj.zc;have hx:=eR hr x
     split at h0
     ·rename_i tx hl;rw [hl] at hx;have hx:ev ρ x=(ι tx).1:=hx
      split at h0
      ·rename_i e' T xs dB
       split at h0
       ·rename_i IG lL;obtain⟨rfl,lL⟩:=jc lL;have lL:xs=IG:=lL;subst lL;have QK:=vx h0;clear h0;obtain⟨ys,OI,h0⟩:=QK
        ·skip
         cases yW:(T == et) with
         | false=>rw [yW] at h0;cases h0
         | true =>
          rw [yW] at h0;simp only [cond_true] at h0;have yW:T=et:=by simpa using yW
          subst yW;obtain⟨rr,xR,h0⟩:=Option.bind_eq_some_iff.1 h0;obtain⟨l1,l2,u1,u2⟩:=BF (ι:=ι) hr.nd dB;obtain⟨q,n,cp,rows,g1,g2,g3⟩:=hr.look dB;have sK:=hr.au (t:=tx);obtain⟨qx,nx,cx,news,w1,w2,w3,w4,w5,w6⟩:=qf Tu.au Xl.au (eR Tu.au y) OI;unfold eC at xR
          split at xR
          ·rename_i hle;cases xR;have Gs:n=xs.length:=by rw [g2.len,<- bz g3]
           rw [g1] at hx;refine (ze (P:=P) (dst:=dst) (ty:=ty) (p:=p) (af:=af) (gd:=gd) DO hx w1 hm (L1:=l1) (Lv:=(ι tx).2) (L2:=l2++L0) (by rw [u1];simp) g2 w6 w4 (by rw [w2,bz w5]) (xn w5) (x8 w5) (by simp only at Bf;rw [Bf];exact tF) (by omega)).mono λv h' ⟨q',sT,nC,e1,e2,e3⟩=>?_
           subst e1;refine jA (s1:=s.au tx) (b := .rows e' T (xs++ys)) (x:=(.slice q' (n+nx) sT,nC)) iB rfl rfl rfl sK ?_ ⟨q',n+nx,sT,rows++news,by rw [Gh.ao],by rw [Gh.ao];exact e2,g3.append w5⟩ (.jd (by show _=_;rw [Gh.ao])) h0;have p1:(nC++(l1++l2++L0)).Perm (l1++(nC++(l2++L0))):=by rw [List.append_assoc l1];exact List.perm_append_comm_assoc _ _ _
           have e4:=e3.perm p1;rw [<- u2] at e4;exact e4.sub ((List.Sublist.refl _).append ((qw _ _).append (List.Sublist.refl _)))
          ·cases xR
       ·cases h0
      ·cases h0
     ·rename_i hl;rw [hl] at hx;have hx:=Rd.nH hx;have QK:=vx h0;clear h0;obtain⟨ys,OI,h0⟩:=QK
      ·skip
       obtain⟨rr,xR,h0⟩:=Option.bind_eq_some_iff.1 h0;obtain⟨qx,nx,cx,news,w1,w2,w3,w4,w5,w6⟩:=qf Tu Xl (eR Tu y) OI;unfold eC at xR
       split at xR
       ·rename_i hle;cases xR;refine (ze (P:=P) (dst:=dst) (ty:=ty) (p:=p) (af:=af) (gd:=gd) DO hx w1 hm (L1:=[]) (Lv:=[]) (L2:=lv ι s.ow++L0) (by simp) (yO.nil _ _) w6 w4 (by rw [w2,bz w5]) (xn w5) (x8 w5) (by simp only at Bf;rw [Bf];exact tF) (by simp at hle;omega)).mono λv h' ⟨q',sT,nC,e1,e2,e3⟩=>?_
        subst e1;refine jA (s1:=s) (b := .rows e et ([]++ys)) (x:=(.slice q' (0+nx) sT,nC)) iB rfl rfl rfl hr ?_ ⟨q',0+nx,sT,[]++news,by rw [Gh.ao],by rw [Gh.ao];exact e2,F2.append .nil w5⟩ (.jd (by show _=_;rw [Gh.ao])) h0;exact e3.sub ((List.Sublist.refl _).append ((qw _ _).append (List.Sublist.refl _)))
       ·cases xR
     ·rename_i i' hl;rw [hl] at hx
      split at h0
      ·rename_i cl TN A hs dB;have QK:=vx h0;clear h0;obtain⟨ys,OI,h0⟩:=QK
       ·skip
        cases RA:(A == et && decide (e=cl.e) && Nat.ble (s.np % 1000) NT && !(dt == NT)) with
        | false=>rw [RA] at h0;cases h0
        | true =>
         rw [RA] at h0;simp only [cond_true] at h0;simp only [Bool.and_eq_true,beq_iff_eq,Nat.ble_eq,decide_eq_true_eq,Bool.not_eq_true',beq_eq_false_iff_ne] at RA;obtain⟨⟨⟨hA,he⟩,Xh⟩,hdN⟩:=RA;subst hA;subst he;obtain⟨hn,Xk,h0⟩:=Option.bind_eq_some_iff.1 h0;obtain⟨A7,h0⟩:=vr h0;obtain⟨rr,xR,h0⟩:=Option.bind_eq_some_iff.1 h0;obtain⟨Gt,g0,g1⟩:=hx;obtain⟨_,j6,o1,o2,o3⟩:=hr.look dB;rw [g0] at o1;have o1:Gt=j6:=by simpa using o1
         subst o1;obtain⟨qQ,tN,su,qh,L1,L2,hd,B,cs,Lv,e1,e2,e3,e4,e5,e6,e7,e8⟩:=o2.split Xk;have Ry:hd=ev ρ x:=by rw [e3,List.getElem?_append_right (by omega)] at g1;simpa [e4] using g1
         subst Ry;obtain⟨q,n,cp,rows,a1,a2,a3⟩:=(e7.ha (by simp)).own A7;have sK:=hr.au (t:=NT);obtain⟨qx,nx,cx,news,w1,w2,w3,w4,w5,w6⟩:=qf Tu.au Xl.au (eR Tu.au y) OI;unfold eC at xR
         split at xR
         ·rename_i hle;cases xR;have Gs:n=(cl.xs hn).length:=by rw [a2.len,<- bz a3]
          have pK:Hp h F ([]++(Lv++((L1++(B,cs++[ev ρ x],BT.c TN)::L2)++lv ι (s.au NT).ow++L0))):=by refine hm.perm ?_;refine List.Perm.trans ?_ ((qg (ι:=ι) hr.nd dB).symm.append_right L0);rw [e5];simp only [List.nil_append,List.append_assoc,List.cons_append];refine (List.perm_append_comm_assoc _ _ _).trans (List.Perm.append_left _ ?_);exact List.perm_middle
          refine (ze (P:=P) (dst:=dst) (ty:=ty) (p:=p) (af:=af) (gd:=gd) (e:=cl.e) DO a1 w1 pK (L1:=[]) (Lv:=Lv) rfl a2 w6 w4 (by rw [w2,bz w5]) (xn w5) (x8 w5) (by simp only at Bf;rw [Bf];exact tF) (by omega)).mono λv h' ⟨q',sT,nC,b1,b2,b3⟩=>?_
          subst b1;have Jh:kS F (ι.dq NT (.tuple Gt.toArray,L1++((B,cs++[ev ρ x],BT.c TN)::[]++L2))) NT (.nodes cl TN A hs (some i')):=by refine⟨rfl,Gt,by rw [Gh.ao],?_,o3⟩;rw [Gh.ao];rw [e1,e3];refine NR.join (e6.other λj _ hj=>⟨by simp,by simp;omega⟩) e2 ⟨e7.hB,e7.hc,e7.h1,λeH=>absurd (by simp) eH,λ_=>rfl⟩ (e8.other λj hj _=>⟨by simp,by simp;omega⟩)
          obtain⟨k1,k2⟩:=sK.make Jh;have Xm:=jA (K:=K) (r:=r) (h':=h') (L0:=L0) (v := .slice q' (n+nx) sT) (d' := .own dt) (s:=s) (ι:=ι.dq NT (.tuple Gt.toArray,L1++((B,cs++[ev ρ x],BT.c TN)::[]++L2))) (s1:=(s.au NT).make NT (.nodes cl TN A hs (some i'))) (b := .rows cl.e A (cl.xs hn++ys)) (x:=(.slice q' (n+nx) sT,nC)) iB rfl rfl rfl k1 (by
           have b4:Hp h' F (nC++(lv (ι.dq NT (.tuple Gt.toArray,L1++((B,cs++[ev ρ x],BT.c TN)::[]++L2))) ((s.au NT).make NT (.nodes cl TN A hs (some i'))).ow++L0)):=by rw [k2];simpa using b3
           exact b4.sub ((List.Sublist.refl _).append ((qw _ _).append (List.Sublist.refl _)))) ⟨q',n+nx,sT,rows++news,by rw [Gh.ao],by rw [Gh.ao];exact b2,a3.append w5⟩ (.jd (by show _=_;rw [Gh.ao])) h0
          obtain⟨F',ι',d',s',p1,p2,p3,p4,p5,p6,p7,p8,p9,Xn,Xo⟩:=Xm;refine⟨F',ι',d',s',p1,p2,p3,p4,p5,p6,p7,p8,p9,λt ht=>by rw [Xn t ht,Gh.bJ (by omega)],λt ht h1 h2 U3=>?_⟩;have Xg:t≠NT:=λe=>ht _ (gR dB) e.symm
          rw [Xo t ht h1 h2 U3,Gh.bJ Xg]
         ·cases xR
      ·cases h0
     ·cases h0
   ·cases h0
  ·cases h0
 ·cases h0
theorem zV {o:Op}(hT:vY P C)(hr:Rel F ι s ρ)(hm:Hp h F (lv ι s.ow++L0))(iB:s.np % 1000<=dt)(h0:o_ C s dt o K=some r):Ef P ρ ⟨dst,o,ty,p,af,gd⟩ h (pf K r F ι s ρ L0 dt):=by
 unfold o_ at h0
 split at h0
 ·rename_i T
  split at h0
  ·rename_i t ht;have hk:=cK hT ht
   haveI:IS P T t.zv:=⟨hk.J7⟩
   have hc:t.zv.cells=t.zv.cells.toList.toArray:=by simp
   refine .DI (NU (P:=P) (T:=T) (u:=t.zv)) ?_;rw [hc];refine jA (b := .cells T (t.zv.cells.toList.map tG)) (x:=(.pointer (some ⟨h.size,0,none⟩),[(h.size,t.zv.cells.toList,BT.c T)])) iB rfl rfl rfl hr ((hm.au (t:=dt)).push _ T) ⟨h.size,t.zv.cells.toList,by rw [Gh.ao],by rw [Gh.ao],vw _⟩ (.jd (jM.Oz (by rw [Gh.ao]))) h0
  ·cases h0
 ·rename_i T x;exact ES hr hm iB h0
 ·rename_i T x y
  split at h0
  ·rename_i t ht;have hk:=cK hT ht
   haveI:se P T t.size:=⟨hk.sM⟩
   have hx:=eR hr x
   split at h0
   ·rename_i b off hl;rw [hl] at hx
    split at h0
    ·rename_i T0 ds dB
     split at h0
     ·rename_i l l6;obtain⟨B,g0,hx⟩:=hx;obtain⟨B',cs,g1,g2,g3⟩:=hr.look dB;rw [g0] at g1;cases g1;obtain⟨new,n1,n2,n3⟩:=mE hr (eR hr y) l6;cases hc:(l.length == t.size && Nat.ble (off+t.size) ds.length) with
      | false=>rw [hc] at h0;cases h0
      | true =>
       rw [hc] at h0;simp only [cond_true] at h0;simp only [Bool.and_eq_true,beq_iff_eq,Nat.ble_eq] at hc;have hnl:=bz n2;have adf:=bz g3;have m9:∀ t',(ι.dq b ((ι b).1,[(B,cs.take off++new++cs.drop (off+t.size),BT.c T0)]) t').1=(ι t').1:=λt'=>by
        by_cases e:t'=b
        ·subst e;rw [Gh.ao]
        ·rw [Gh.bJ e]
       obtain⟨u1,l1,l2,u2,u3,_⟩:=hr.dq (b' := .cells T0 (ds.take off++l++ds.drop (off+t.size))) (x:=((ι b).1,[(B,cs.take off++new++cs.drop (off+t.size),BT.c T0)])) dB rfl ⟨B,_,by rw [Gh.ao];exact g0,by rw [Gh.ao],cT (λ_ _ h=>h.wF m9) (((g3.take off).append n2).append (g3.drop _))⟩;have lC:cs=cs.take off++(cs.drop off).take t.size++cs.drop (off+t.size):=by rw [<- List.drop_drop,List.append_assoc,List.take_append_drop,List.take_append_drop]
       have hj:(lv ι s.ow++L0)[l1.length]?=some (B,cs.take off++(cs.drop off).take t.size++cs.drop (off+t.size),BT.c T0):=by rw [<- lC,u2,g2];simp
       refine (BH (P:=P) (T:=T) hx rfl n1 (by omega) n3 hm hj (by simp;omega) (by simp;omega)).mono λv h' ⟨hv,tE⟩=>?_
       subst hv;refine⟨F,_, .fA,_, .refl F,u1,?_,rfl,h0,rfl,rfl,rfl,λ_=>rfl,λt _=>m9 t,λt ht _ _ _=>Gh.bJ λe=>ht _ (gR dB) e.symm⟩;rw [u3];rw [u2,g2] at tE;simpa using tE
     ·cases h0
    ·cases h0
   ·rename_i b z i off hl;rw [hl] at hx
    split at h0
    ·rename_i e T0 xs dB
     split at h0
     ·rename_i l l6;cases hc:(z == e.sz && l.length == t.size && Nat.ble (off+t.size) e.sz && l.all D.plain) with
      | false=>rw [hc] at h0;cases h0
      | true =>
       rw [hc] at h0;simp only [cond_true] at h0;simp only [Bool.and_eq_true,beq_iff_eq,Nat.ble_eq] at hc;obtain⟨⟨⟨rfl,tF⟩,o8⟩,KA⟩:=hc;obtain⟨v,hv,h0⟩:=Option.bind_eq_some_iff.1 h0;rw [ER] at h0;obtain⟨v',OG,h0⟩:=Option.bind_eq_some_iff.1 h0
       ·skip
        obtain⟨B,n,cp,g0,hx⟩:=hx;obtain⟨q,m,sT,rows,g1,g2,g3⟩:=hr.look dB;rw [g0] at g1;cases g1;obtain⟨new,n1,n2,n3⟩:=mE hr (eR hr y) l6;have hnl:=bz n2;obtain⟨row,rl,tI⟩:=gq g3 hv;have zO:=g2.row row (List.mem_of_getElem? rl);obtain⟨pre,post,e1,e2,e3⟩:=uE g2.row rl;have Hq:Rd F (e.enc v') (row.take off++new++row.drop (off+t.size)):=kB OG (((tI.take off).append (n2.rd KA)).append (tI.drop _));rcases g2.sh with⟨he,_,_⟩ | ⟨B',n',cap,spare,he,hL,IH,As,hle⟩
        ·cases he
        ·cases he;have sn:=fR g2.row;have Hr:∀ r∈rows.set i (row.take off++new++row.drop (off+t.size)),r.length=e.sz:=λr hr=>by
          rcases List.mem_or_eq_of_mem_set hr with h2 | h2
          ·exact g2.row r h2
          ·rw [h2,Hq.length,mQ]
         have Jj:=fR Hr;have m9:∀ t',(ι.dq b ((ι b).1,[(B,(rows.set i (row.take off++new++row.drop (off+t.size))).flatten++spare,BT.c T0)]) t').1=(ι t').1:=λt'=>by
          by_cases e:t'=b
          ·subst e;rw [Gh.ao]
          ·rw [Gh.bJ e]
         obtain⟨u1,l1,l2,u2,u3,_⟩:=hr.dq (b' := .rows e T0 (xs.set i v')) (x:=((ι b).1,[(B,(rows.set i (row.take off++new++row.drop (off+t.size))).flatten++spare,BT.c T0)])) dB rfl ⟨_,n,cp,rows.set i (row.take off++new++row.drop (off+t.size)),by rw [Gh.ao];exact g0,by rw [Gh.ao];exact⟨.inr ⟨B,n,cp,spare,rfl,rfl,by rw [Jj,IH,sn];simp,by rw [Jj,As,sn];simp,hle⟩,by rw [g2.len];simp,Hr⟩,g3.set Hq⟩
         have lC:rows.flatten++spare=(pre++row.take off)++(row.drop off).take t.size++(row.drop (off+t.size)++post++spare):=by
          rw [e1]
          have:row=row.take off++((row.drop off).take t.size++row.drop (off+t.size)):=by rw [<- List.drop_drop,List.take_append_drop,List.take_append_drop]
          conv=>lhs;rw [this]
          simp
         have hj:(lv ι s.ow++L0)[l1.length]?=some (B,(pre++row.take off)++(row.drop off).take t.size++(row.drop (off+t.size)++post++spare),BT.c T0):=by rw [<- lC,u2,hL];simp
         refine (BH (P:=P) (T:=T) hx rfl n1 (by omega) n3 hm hj (by simp [e2];omega) (by simp;omega)).mono λv h' ⟨hv,tE⟩=>?_
         subst hv;refine⟨F,_, .fA,_, .refl F,u1,?_,rfl,h0,rfl,rfl,rfl,λ_=>rfl,λt _=>m9 t,λt ht _ _ _=>Gh.bJ λe=>ht _ (gR dB) e.symm⟩;rw [u3];rw [u2,hL] at tE;rw [e3];simpa using tE
     ·cases h0
    ·cases h0
   ·rename_i i off hl;rw [hl] at hx;cases hc:(t.size == 1 && !t.agg) with
    | false=>rw [hc] at h0;cases h0
    | true =>
     rw [hc] at h0;simp only [cond_true] at h0;simp only [Bool.and_eq_true,beq_iff_eq] at hc
     haveI:se P T 1:=⟨by rw [<- hc.1];exact hk.sM⟩
     exact Ji hr hm hx (eR hr y) h0
   ·rename_i z i j off hl;rw [hl] at hx;exact Hn hr hm hx (eR hr y) h0
   ·cases h0
  ·cases h0
 ·rename_i T n parts;obtain⟨u,ob,h1,h2⟩:=Jk (P:=P) (dst:=dst) (ty:=ty) (p:=p) (af:=af) (gd:=gd) hT hr hm iB (show o_ C s dt (.buildSlice T n parts) K=some r from h0);exact .DI (h1 ρ λ_ _=>rfl) h2
 ·rename_i T x y
  split at h0
  ·rename_i et _ _ _ _ _ ht
   split at h0
   ·rename_i sh sz ag z Rs e yP;have hk:=cK hT ht;have Hj:=cK hT yP
    split at h0
    ·rename_i a ha
     split at h0
     ·rename_i b hb
      split at h0
      ·rename_i v hv;have hv:=LY hv;simp only at h0;cases hc:(sz == e.sz && Nat.ble Rs 300 && decide (a<=b/\0<=a/\b<=1048576)) with
       | false=>rw [hc] at h0;cases h0
       | true =>
        rw [hc] at h0;simp only [cond_true] at h0;simp only [Bool.and_eq_true,beq_iff_eq,Nat.ble_eq,decide_eq_true_eq] at hc;obtain⟨⟨rfl,o8⟩,Xp,KA,U4⟩:=hc;have hx:=eR hr x;have hy:=eR hr y;rw [ha] at hx;rw [hb] at hy;have hx:=Rd.c_ hx;have hy:=Rd.c_ hy;obtain⟨n,rfl⟩:=Int.eq_ofNat_of_zero_le KA;obtain⟨m,rfl⟩:=Int.eq_ofNat_of_zero_le (show 0<=b by omega);obtain⟨i,Rz,Bf⟩:=Hj.inf
        haveI:gD P T (.slice et):=⟨hk.fA⟩
        haveI:se P et e.sz:=⟨Hj.sM⟩
        haveI:Gm P et i:=⟨Rz⟩
        haveI:IS P et z:=⟨Hj.J7⟩
        have DO:z.cells.size=e.sz:=Hj.zc;have tI:Rd F (e.enc v) z.cells.toList:=by refine kB hv ?_;have h2:F2 (jM F ι) (z.cells.toList.map tG) z.cells.toList:=vw _;exact h2.rd (DM hv)
        have U2:=C2 (P:=P) (d:=dst) (T:=T) (e:=et) (ty':=ty) (p:=p) (af:=af) (g:=gd) (h:=h) (EH e) DO hx hy (by simp only at Bf;omega) (by omega) (by omega);refine .DI U2 ?_;have U5:∀ n:Nat,F2 (λx r=>Rd F (e.enc x) r) (List.replicate n v) (List.replicate n z.cells.toList):=λn=>by
         induction n with
         | zero=>exact .nil
         | succ n ih=>exact .cons tI ih
        have rl:∀ n:Nat,∀ r∈List.replicate n z.cells.toList,r.length=e.sz:=λn r hr=>by rw [(List.mem_replicate.1 hr).2];simpa using DO
        refine jA (b := .rows e et (List.replicate n v)) (x:=(.slice (some ⟨h.size,0,none⟩) n m,[(h.size,(List.replicate m z.cells.toList).flatten,BT.c et)])) iB rfl rfl rfl hr ((hm.au (t:=dt)).push _ et) ⟨some ⟨h.size,0,none⟩,n,m,List.replicate n z.cells.toList,by rw [Gh.ao],?_,U5 n⟩ (.jd (by show _=_;rw [Gh.ao])) h0;rw [Gh.ao];have Nt:=fR (rl n);have Mh:=fR (rl (m - n));simp only [List.length_replicate] at Nt Mh;have lC:(List.replicate m z.cells.toList).flatten=(List.replicate n z.cells.toList).flatten++(List.replicate (m - n) z.cells.toList).flatten:=by rw [<- List.flatten_append,List.replicate_append_replicate,show n+(m - n)=m by omega]
        exact⟨.inr ⟨h.size,n,m,(List.replicate (m - n) z.cells.toList).flatten,rfl,by rw [lC],by rw [Nt],by rw [Nt,Mh,Nat.sub_mul];have:=Nat.mul_le_mul_right e.sz (show n<=m by omega);omega,by omega⟩,by simp,rl n⟩
      ·cases h0
     ·cases h0
    ·cases h0
   ·cases h0
  ·cases h0
 ·rename_i c;obtain⟨callee,args,Tq⟩:=c
  split at h0
  ·rename_i C4;simp only at C4;subst C4
   split at h0
   ·rename_i x y QN
    split at h0
    ·rename_i S X Xq;have ea:args=#[x,y]:=Array.ext' QN;have Xr:Tq=#[S,X]:=Array.ext' Xq;subst ea;subst Xr
     split at h0
     ·rename_i hX;exact Au hT ⟨_,_,_,_,_,hX⟩ hr hm iB h0
     exact uG hT hr hm hr hm iB h0
    ·cases h0
   ·cases h0
  ·rename_i C4;simp only at C4;subst C4
   split at h0
   ·rename_i x y QN
    split at h0
    ·rename_i S tl Xq;have ea:args=#[x,y]:=Array.ext' QN;have Xr:Tq=(S::tl).toArray:=Array.ext' (by simpa using Xq);subst ea;subst Xr;exact EW hT hr hm h0
    ·cases h0
   ·cases h0
  ·cases h0
 ·rename_i S T x;exact EU hT hr hm iB h0
 ·rename_i T x;exact C3 hT hr hm iB h0
 ·rename_i x;exact EV (C:=C) hr hm h0
 ·rename_i T q;exact Av hT hr hm iB h0
 ·rename_i T x y z;exact yc hT hr hm h0
 ·cases h0
end
end Go.Proofs.YtngabkipchpmpaaGreat.V
