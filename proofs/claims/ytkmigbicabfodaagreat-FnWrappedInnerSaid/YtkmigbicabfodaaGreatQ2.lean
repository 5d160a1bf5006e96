/-
  Plain facts and an evaluator for what a law needs.
-/
import Derived.Test.YtkmigbicabfodaaGreatQ1
set_option linter.unusedVariables false
set_option linter.unusedSimpArgs false
namespace Go.Proofs.YtkmigbicabfodaaGreat.V
open Go K
def UndOK (P:Program) (T:TypeId):Sh→Prop
 | .bool=>P.underlying T=some .bool
 | .int k=>P.underlying T=some (.int k)
 | .str=>P.underlying T=some .string
 | .slice e=>P.underlying T=some (.slice e)
 | .struct fs=>∃ a:Array Field,P.underlying T=some (.struct a)∧fs=a.toList.map fun f=>(f.type,f.offset)
 | .ptr e=>P.underlying T=some (.pointer e)
 | .map k v=>P.underlying T=some (.map k v)
 | .iface=>∃ ms,P.underlying T=some (.interface ms)
 | .func=>∃ a b c,P.underlying T=some (.func a b c)
 | .other=>True
def AttrEq (P:Program) (T:TypeId):Prop:=∃ (S:TypeId) (f0 f1:Field),P.underlying T=some (.struct #[f0,f1])∧f0.name ≠ "_" ∧ f1.name ≠ "_" ∧ f0.type=S∧f1.type=S∧f0.offset=0∧f1.offset=1∧P.underlying S=some .string∧(∀ w,(isAgg S).run P w = .ok false w)∧P.stoodInHeld T=false∧P.eqGuardType P.depth T=false
def SelEq (P:Program) (T:TypeId):Prop:=∃ (I S:TypeId) (f0 f1 f2 f3 f4 f5 f6 f7:Field),P.underlying T=some (.struct #[f0,f1,f2,f3,f4,f5,f6,f7])∧f0.name ≠ "_" ∧ f1.name ≠ "_" ∧ f2.name ≠ "_" ∧ f3.name ≠ "_" ∧ f4.name ≠ "_" ∧ f5.name ≠ "_" ∧ f6.name ≠ "_" ∧ f7.name ≠ "_" ∧ f0.type=I∧f1.type=I∧f2.type=S∧f3.type=S∧f4.type=I∧f5.type=I∧f6.type=I∧f7.type=I∧f0.offset=0∧f1.offset=1∧f2.offset=2∧f3.offset=3∧f4.offset=4∧f5.offset=5∧f6.offset=6∧f7.offset=7∧P.underlying I=some (.int .i64)∧P.underlying S=some .string∧(∀ w,(isAgg I).run P w = .ok false w)∧(∀ w,(isAgg S).run P w = .ok false w)∧P.stoodInHeld T=false∧P.eqGuardType P.depth T=false
structure TIok (P:Program) (T:TypeId) (t:TI):Prop where
 und:UndOK P T t.sh
 siz:∀ w,(sizeOf T).run P w = .ok t.size w
 agg:∀ w,(isAgg T).run P w = .ok t.agg w
 zer:∀ w,(zeroValue T).run P w = .ok t.zv w
 zc:t.zv.cells.size=t.size
 inf:∃ i:TypeInfo,(∀ w,(typeInfo T).run P w = .ok i w)∧i.bytes=t.bytes
 eqa:t.el=some .attr→AttrEq P T
 eqs:t.el=some .sel→SelEq P T
def TbOK (P:Program) (tb:List (Option TI)):Prop:=∀ T t,tb[T]?=some (some t)→TIok P T t
def MtOK (P:Program) (T:TypeId) (n:String) (f:FuncId):Prop:=∃ (i:TypeInfo) (m:Method) (e:TypeId),(∀ w,(typeInfo T).run P w = .ok i w)∧i.methods.find? (fun x=>x.name == n)=some m∧m.path=#[]∧m.func=some (f,true)∧P.underlying T=some (.pointer e)
def AsOK (P:Program) (T U:TypeId):Prop:=∃ (i:TypeInfo) (want:Array (String×TypeId)),(∀ w,(typeInfo T).run P w = .ok i w)∧P.underlying U=some (.interface want)∧Instr.missingMethod want i.methods=none
def IfOK (P:Program) (C:Cx):Prop:=(∀ q∈C.mth,MtOK P q.1 q.2.1 q.2.2)∧∀ q∈C.ast,AsOK P q.1 q.2
def CtOK (P:Program) (C:Cx):Prop:=TbOK P C.tb∧IfOK P C
theorem mfind_ok {P:Program} {C:Cx} (hT:CtOK P C) {f:Nat} {n:String} {q:TypeId×String×FuncId} (h:mfind C f n=some q):MtOK P q.1 n q.2.2∧f=ifN q.1:=by
 unfold mfind at h
 have h1:=List.find?_some h
 simp only [Bool.and_eq_true,beq_iff_eq] at h1
 have h2:=hT.2.1 q (List.mem_of_find?_eq_some h)
 rw [h1.2] at h2
 exact ⟨h2,h1.1.symm⟩
theorem isIf_ok {C:Cx} {f:Nat} (h:isIf C f=true):∃ T,f=ifN T:=by
 unfold isIf at h
 obtain ⟨q,_,h⟩:=List.any_eq_true.1 h
 exact ⟨q.1,by simpa using (beq_iff_eq.1 h).symm⟩
theorem isMt_ok {P:Program} {C:Cx} (hT:CtOK P C) {f:Nat} (h:isMt C f=true):∃ T c g,f=mtN T c∧c<16∧MtOK P T (mname c) g:=by
 unfold isMt at h
 obtain ⟨q,hq,h⟩:=List.any_eq_true.1 h
 simp only [Bool.and_eq_true,beq_iff_eq] at h
 refine ⟨q.1,mcode q.2.1,q.2.2,h.1.symm,?_,by rw [h.2]; exact hT.2.1 q hq⟩
 unfold mcode
 split
 ·decide
 ·split <;> decide
theorem ifN_inj {T T':Nat} (h:ifN T=ifN T'):T=T':=by unfold ifN at h; omega
theorem CloV.of_if {T B:Nat} {cs:List Value} {v:Value} (h:CloV (ifN T) B cs v):v = .iface T (.pointer (some ⟨B,0,none⟩)):=by
 rcases h with ⟨h,_⟩ | ⟨T',h,rfl⟩ | ⟨T',c,h,_⟩
 ·have:IFB≤ifN T:=by unfold ifN; omega
  have h2:(1000000:Nat)≤IFB:=by decide
  omega
 ·rw [ifN_inj h]
 ·unfold ifN mtN at h
  omega
theorem CloV.of_mt {T c B:Nat} {cs:List Value} {v:Value} (hc:c<16) (h:CloV (mtN T c) B cs v):v = .func (.method (mname c)) #[.iface T (.pointer (some ⟨B,0,none⟩))] #[]:=by
 rcases h with ⟨h,_⟩ | ⟨T',h,rfl⟩ | ⟨T',c',h,h2,rfl⟩
 ·have:IFB≤mtN T c:=by unfold mtN; omega
  have h2:(1000000:Nat)≤IFB:=by decide
  omega
 ·unfold ifN mtN at h
  omega
 ·unfold mtN at h
  have h1:T=T':=by omega
  have h3:c=c':=by omega
  rw [h1,h3]
theorem CloV.of_fn {f B:Nat} {cs:List Value} {v:Value} (hf:f<1000000) (h:CloV f B cs v):v = .func (.func f) #[] (Value.pointer (some ⟨B,0,none⟩)::cs).toArray:=by
 have h2:(1000000:Nat)≤IFB:=by decide
 rcases h with ⟨_,h⟩ | ⟨T',h,rfl⟩ | ⟨T',c,h,_⟩
 ·exact h
 ·unfold ifN at h; omega
 ·unfold mtN at h; omega
theorem CloV.mk_fn {f B:Nat} {cs:List Value} (hf:f<1000000):CloV f B cs (.func (.func f) #[] (Value.pointer (some ⟨B,0,none⟩)::cs).toArray) := .inl ⟨hf,rfl⟩
theorem CloV.mk_if {T B:Nat} {cs:List Value}:CloV (ifN T) B cs (.iface T (.pointer (some ⟨B,0,none⟩))) := .inr (.inl ⟨T,rfl,rfl⟩)
theorem CloV.mk_mt {T c B:Nat} {cs:List Value} (hc:c<16):CloV (mtN T c) B cs (.func (.method (mname c)) #[.iface T (.pointer (some ⟨B,0,none⟩))] #[]) := .inr (.inr ⟨T,c,rfl,hc,rfl⟩)
theorem mcode_lt (n:String):mcode n<16:=by
 unfold mcode
 split
 ·decide
 ·split <;> decide
theorem types_succ (P:Program):∃ k,P.types.size+Made.depth=k+1:=by
 have:0<Made.depth:=by decide
 exact ⟨P.types.size+(Made.depth - 1),by omega⟩
theorem bs_beq (x y:List UInt8):((ByteArray.mk x.toArray) == (ByteArray.mk y.toArray))=decide (x=y):=by
 rw [Bool.eq_iff_iff]
 constructor
 ·intro h
  have h:(x.toArray == y.toArray)=true:=h
  simpa using h
 ·intro h
  have h:x=y:=by simpa using h
  subst h
  show (x.toArray == x.toArray)=true
  simp
theorem findNow_yes (k:List UInt8):∀ (es:List MapEntry) (i:Nat),(∀ x∈es,∃ kb:List UInt8,x.key = .string ⟨kb.toArray⟩∧x.val = .bool true)→(∃ x∈es,x.key = .string ⟨k.toArray⟩)→∃ j,Instr.findNow .string (.string ⟨k.toArray⟩) es i=some (some (j, .bool true))
 | [],_,_,h=>by obtain ⟨x,hx,_⟩:=h; cases hx
 | e::es,i,ha,h=>by
  obtain ⟨kb,e1,e2⟩:=ha e (by simp)
  rw [Instr.findNow,e1,Instr.sameNow,bs_beq]
  cases hb:decide (k=kb) with
  | true=>exact ⟨i,by rw [e2]⟩
  | false =>
   refine findNow_yes k es (i+1) (fun x hx=>ha x (by simp [hx])) ?_
   obtain ⟨x,hx,hk⟩:=h
   rcases List.mem_cons.1 hx with rfl | hx
   ·rw [e1] at hk
    have:kb=k:=by
     injection hk with hk
     injection hk with hk
     have:=congrArg Array.toList hk
     simpa using this
    exact absurd this.symm (of_decide_eq_false hb)
   ·exact ⟨x,hx,hk⟩
theorem findNow_no (k:List UInt8):∀ (es:List MapEntry) (i:Nat),(∀ x∈es,∃ kb:List UInt8,x.key = .string ⟨kb.toArray⟩∧x.val = .bool true)→(∀ x∈es,x.key ≠ .string ⟨k.toArray⟩)→Instr.findNow .string (.string ⟨k.toArray⟩) es i=some none
 | [],_,_,_=>rfl
 | e::es,i,ha,h=>by
  obtain ⟨kb,e1,e2⟩:=ha e (by simp)
  rw [Instr.findNow,e1,Instr.sameNow,bs_beq]
  cases hb:decide (k=kb) with
  | true=>exact absurd (by rw [e1,of_decide_eq_true hb]) (h e (by simp))
  | false=>exact findNow_no k es (i+1) (fun x hx=>ha x (by simp [hx])) fun x hx=>h x (by simp [hx])
theorem pu_lookup_str {P:Program} {ρ:List Value} {T kt vt:TypeId} {x y:Operand} {h:Array Obj} {d:Option Tmp} {ty:TypeId} {p:String} {af:Array Edge} {g:Option (Nat×Bool)} [Und P T (.map kt vt)] [Und P kt .string] [Zer P vt (.bool false)] {B:Nat} {k:List UInt8} {es:Array MapEntry} {ck:Nat} {b:Bool}
  (hx:ev ρ x = .map (some B)) (hy:ev ρ y = .string ⟨k.toArray⟩) (hb:h[B]?=some (.map es ck)) (ha:∀ x∈es.toList,∃ kb:List UInt8,x.key = .string ⟨kb.toArray⟩∧x.val = .bool true) (h1:b=true→∃ x∈es.toList,x.key = .string ⟨k.toArray⟩) (h2:b=false→∀ x∈es.toList,x.key ≠ .string ⟨k.toArray⟩) :
  Pu P ρ ⟨d, .lookup T x y false,ty,p,af,g⟩ h (.bool b):=⟨fun w hw=>by
 have e1:(getObj B).run P w = .ok (.map es ck) w:=by simp [getObj,Sem.run,hw,hb]
 have hck:∀ b n,(Instr.checkKey b (n+1) kt (.string ⟨k.toArray⟩)).run P w = .ok () w:=fun b n=>by simp [Instr.checkKey,und kt w]
 cases b with
 | true =>
  obtain ⟨j,hj⟩:=findNow_yes k es.toList 0 ha (h1 rfl)
  simp [execOp,hx,hy,Instr.lookup,und T w,e1,hck _ 9999,Instr.findKey,und kt w,hj]
 | false =>
  have hj:=findNow_no k es.toList 0 ha (h2 rfl)
  simp [execOp,hx,hy,Instr.lookup,und T w,e1,hck _ 9999,Instr.findKey,und kt w,hj,zer vt w]⟩
theorem method_run {P:Program} {T:TypeId} {n:String} {f:FuncId} (h:MtOK P T n f) (k:Nat) (v:Value) (w:World):(method (k+1) T v n).run P w = .ok (f,v) w:=by
 obtain ⟨i,m,e,h1,h2,h3,h4,h5⟩:=h
 simp [method,h1,h2,h3,h4,follow,receiverAt,run_underlying h5,Place.get]
theorem nilAhead_run {P:Program} {T:TypeId} {n:String} {f:FuncId} (h:MtOK P T n f) (k:Nat) (v:Value) (w:World):(nilAhead (k+1) T v n).run P w = .ok (some false) w:=by
 obtain ⟨i,m,e,h1,h2,h3,h4,h5⟩:=h
 simp [nilAhead,h1,h2,h3,h4,followBlind]
theorem ti_ok {P:Program} {C:Cx} (hT:CtOK P C) {T:TypeId} {t:TI} (h:ti C T=some t):TIok P T t:=by
 unfold ti at h
 cases h1:C.tb[T]? with
 | none=>rw [h1] at h; cases h
 | some x =>
  rw [h1] at h
  cases x with
  | none=>cases h
  | some y=>cases h; exact hT.1 T _ h1
section
variable {P:Program} {C:Cx} {R:Type} {F F':Frz} {ι ι':Gh} {s s':St} {ρ:List Value} {d:D} {v:Value} {t:Nat} {L0:List Blk} {r:R} {dst:Option Tmp} {ty:TypeId} {p:String} {af:Array Edge} {gd:Option (Nat×Bool)}
theorem Rd.f2:∀ {ds:List D} {vs:List Value},Rd F ds vs→F2 (RdW F ι) ds vs
 | [],vs,h=>by cases h; exact .nil
 | d::ds,vs,h=>by obtain ⟨v,vs',rfl,h1,h2⟩:=h.inv_cons; exact .cons (.of_rd h1) h2.f2
theorem F2.rd:∀ {ds:List D} {vs:List Value},F2 (RdW F ι) ds vs→ds.all D.plain=true→Rd F ds vs
 | _,_, .nil,_ => .nil
 | _,_, .cons h t,hp=>by
  simp only [List.all_cons,Bool.and_eq_true] at hp
  exact (h.to_rd hp.1).cons (t.rd hp.2)
theorem F2.drop {α β:Type} {R:α→β→Prop}:∀ {l:List α} {m:List β} (n:Nat),F2 R l m→F2 R (l.drop n) (m.drop n)
 | _,_,0,h=>h
 | _,_,_+1, .nil => .nil
 | _,_,n+1, .cons _ t=>t.drop n
theorem F2.take {α β:Type} {R:α→β→Prop}:∀ {l:List α} {m:List β} (n:Nat),F2 R l m→F2 R (l.take n) (m.take n)
 | _,_,0,_ => .nil
 | _,_,_+1, .nil => .nil
 | _,_,n+1, .cons h t => .cons h (t.take n)
theorem F2.append {α β:Type} {R:α→β→Prop}:∀ {l l':List α} {m m':List β},F2 R l m→F2 R l' m'→F2 R (l++l') (m++m')
 | _,_,_,_, .nil,h=>h
 | _,_,_,_, .cons h t,h' => .cons h (t.append h')
theorem cellsFrom_drop {h:Array Obj} {B:Nat}:∀ {cs:List Value} {off n:Nat},cellsFrom h B off cs→cellsFrom h B (off+n) (cs.drop n)
 | cs,off,0,hc=>hc
 | [],off,n+1,_=>trivial
 | c::cs,off,n+1,hc=>by
  rw [show off+(n+1)=off+1+n by omega]
  exact cellsFrom_drop hc.2
theorem cellsFrom_take {h:Array Obj} {B:Nat}:∀ {cs:List Value} {off n:Nat},cellsFrom h B off cs→cellsFrom h B off (cs.take n)
 | cs,off,0,hc=>trivial
 | [],off,n+1,_=>trivial
 | c::cs,off,n+1,hc=>⟨hc.1,cellsFrom_take hc.2⟩
theorem cellsFrom_get {h:Array Obj} {B:Nat} {cs:List Value} {off i:Nat} {v:Value} (hc:cellsFrom h B off cs) (hi:cs[i]?=some v):K.cell h ⟨B,off+i,none⟩=some v:=cellsFrom_iff.1 hc i v hi
theorem rdCells_sound {T:TypeId} {x:Operand} {K:D→Option R} {ds:List D} {off o B:Nat} {ti0:TI} {cs:List Value} (hk:TIok P T ti0) (hcs:F2 (RdW F ι) ds cs) (hx:ev ρ x = .pointer (some ⟨B,o+off,none⟩)) (hB:∀ h,Hp h F (lv ι s.ow++L0)→cellsFrom h B o cs) (h:rdCells ds off ti0 K=some r) :
  ∃ v d,(∀ h,Hp h F (lv ι s.ow++L0)→Pu P ρ ⟨dst, .load T x,ty,p,af,gd⟩ h v)∧RdV F ι d v∧K d=some r:=by
 unfold rdCells at h
 cases ha:ti0.agg with
 | true =>
  rw [ha] at h
  simp only [cond_true] at h
  cases hc:(Nat.ble (off+ti0.size) ds.length && ((ds.drop off).take ti0.size).all D.plain) with
  | false=>rw [hc] at h; cases h
  | true =>
   rw [hc] at h
   simp only [cond_true] at h
   rw [Bool.and_eq_true,Nat.ble_eq] at hc
   have hl:=forall2_len hcs
   haveI:Agg P T true:=⟨fun w=>by rw [hk.agg w,ha]⟩
   haveI:Siz P T ti0.size:=⟨hk.siz⟩
   refine ⟨.agg ((cs.drop off).take ti0.size).toArray,_,fun hh hm=>?_, .of_rd (.agg ((hcs.drop off).take ti0.size |>.rd hc.2) .nil),h⟩
   exact pu_loadAgg hx (by simp; omega) (cellsFrom_take (cellsFrom_drop (hB hh hm)))
 | false =>
  rw [ha] at h
  simp only [cond_false] at h
  cases hd:ds[off]? with
  | none=>rw [hd] at h; cases h
  | some d =>
   rw [hd] at h
   obtain ⟨v,hv,hr⟩:=forall2_get hcs hd
   haveI:Agg P T false:=⟨fun w=>by rw [hk.agg w,ha]⟩
   exact ⟨v,d,fun hh hm=>pu_load hx (cellsFrom_get (hB hh hm) hv), .of_w hr,h⟩
theorem fld_of {T ft fo:Nat} {i:Nat} {fs:List (TypeId×Nat)} (hu:UndOK P T (.struct fs)) (hi:fs[i]?=some (ft,fo)):Fld P T i ft fo:=by
 obtain ⟨a,h1,rfl⟩:=hu
 rw [List.getElem?_map] at hi
 cases hf:a.toList[i]? with
 | none=>rw [hf] at hi; cases hi
 | some f =>
  rw [hf] at hi
  cases hi
  exact ⟨a,f,h1,by simpa using hf,rfl,rfl⟩
theorem Rd.agg_inv {ds:List D} (h:Rd F [.agg ds] [v]):∃ cs:List Value,v = .agg cs.toArray∧Rd F ds cs:=by
 cases h with
 | agg h1 _=>exact ⟨_,rfl,h1⟩
theorem Rd.int_inv {k:IntKind} {n:Int} (h:Rd F [.int k n] [v]):v = .int k n:=by cases h; rfl
theorem Rd.bool_inv {b:Bool} (h:Rd F [.bool b] [v]):v = .bool b:=by cases h; rfl
theorem Rd.u8_inv {c:UInt8} {vs:List Value} (h:Rd F (E.u8.enc c) vs):vs=[byteV c]:=by
 obtain ⟨v,vs',rfl,h1,h2⟩:=h.inv_cons
 cases h2
 rw [Rd.int_inv h1]
 rfl
theorem cells_of_get {h:Array Obj} {B:Nat}:∀ {l:List UInt8} {off:Nat},(∀ i c,l[i]?=some c→K.cell h ⟨B,off+i,none⟩=some (byteV c))→cellsFrom h B off (l.map byteV)
 | [],_,_=>trivial
 | c::l,off,hc=>⟨by have:=hc 0 c rfl; simpa using this,cells_of_get fun i c' hi=>by
  have:=hc (i+1) c' (by simpa using hi)
  rwa [show off+1+i=off+(i+1) by omega]⟩
theorem bytes_at {S T e:TypeId} [Und P S (.slice e)] [Und P T .string] [Und P e (.int .u8)] {h:Array Obj} {x:Operand} {q:Option Addr} {cp:Nat} {l:List UInt8} (hx:ev ρ x = .slice q l.length cp) (hc:∀ i c,l[i]?=some c→q=some ⟨blk q,offs q,none⟩∧K.cell h ⟨blk q,offs q+i,none⟩=some (byteV c)):Pu P ρ ⟨dst, .convert S T x,ty,p,af,gd⟩ h (bs l):=by
 cases l with
 | nil =>
  cases q with
  | none=>exact pu_b2s0 (e:=e) hx
  | some a =>
   obtain ⟨B,off,sp⟩:=a
   exact pu_b2sE (e:=e) hx
 | cons c l =>
  obtain ⟨h1,_⟩:=hc 0 c rfl
  refine pu_b2s (e:=e) (B:=blk q) (off:=offs q) (by rw [hx]; congr 1) (cells_of_get fun i c hi=>(hc i c hi).2)
theorem Rd.rune_inv {n:Int} {vs:List Value} (h:Rd F (E.rune.enc n) vs):vs=[.int .i32 n]:=by
 obtain ⟨v,vs',rfl,h1,h2⟩:=h.inv_cons
 cases h2
 rw [Rd.int_inv h1]
theorem mk_toList (b:ByteArray):(⟨b.data.toList.toArray⟩:ByteArray)=b:=by cases b; simp
theorem pu_i2s {S T:TypeId} {k0 k':IntKind} {a:Int} {h:Array Obj} {x:Operand} [Und P S (.int k0)] [Und P T .string] (hx:ev ρ x = .int k' a):Pu P ρ ⟨dst, .convert S T x,ty,p,af,gd⟩ h (bs (enc8 a)):=⟨fun w _=>by
 simp [execOp,convert,hx,und S w,und T w,Conv.intToString,bs,enc8,mk_toList]⟩
theorem runes_loop (w:World) (f:Value→ByteArray→Sem (ForInStep ByteArray)) (hf:∀ (c:Int) (s:ByteArray) (w:World),(f (.int .i32 c) s).run P w = .ok (.yield (s++Go.Utf8.encode c)) w):∀ (l:List Int) (s:ByteArray),(forIn (l.map (Value.int .i32)) s f:Sem ByteArray).run P w = .ok ⟨s.data++(encs8 l).toArray⟩ w:=by
 intro l
 induction l with
 | nil=>intro s; simp [encs8]
 | cons c l ih =>
  intro s
  simp only [List.map_cons,List.forIn_cons,Sem.run_bind,hf,Result.andThen_ok,ih]
  congr 1
  apply ByteArray.ext
  apply Array.ext'
  simp [encs8,enc8]
theorem pu_r2s {S T e:TypeId} {h:Array Obj} {x:Operand} {l:List Int} [Und P S (.slice e)] [Und P T .string] [Und P e (.int .i32)] {B off cp:Nat} (hx:ev ρ x = .slice (some ⟨B,off,none⟩) l.length cp) (hc:cellsFrom h B off (l.map (Value.int .i32))):Pu P ρ ⟨dst, .convert S T x,ty,p,af,gd⟩ h (bs (encs8 l)):=⟨fun w hw=>by
 have hl:(loadCells ⟨B,off,none⟩ l.length).run P w = .ok (l.map (Value.int .i32)).toArray w:=by
  subst hw
  have:=Go.Proofs.YtkmigbicabfodaaGreat.K.run_loadCellsFrom (P:=P) w B off (l.map (Value.int .i32)) 0 #[] (by simpa using hc)
  simpa [loadCells] using this
 simp only [execOp,convert,hx,Sem.run_bind,und S w,und T w,Result.andThen_ok,und e w,Conv.runesToString,hl]
 rw [← Array.forIn_toList]
 simp only [List.toList_toArray]
 rw [runes_loop]
 ·simp [bs]
 ·intro c s w
  simp⟩
theorem pu_r2s0 {S T e:TypeId} {h:Array Obj} {x:Operand} [Und P S (.slice e)] [Und P T .string] [Und P e (.int .i32)] {n cp:Nat} (hx:ev ρ x = .slice none n cp):Pu P ρ ⟨dst, .convert S T x,ty,p,af,gd⟩ h (bs []):=⟨fun w hw=>by
 simp [execOp,convert,hx,Sem.run_bind,und S w,und T w,Result.andThen_ok,und e w,Conv.runesToString]
 rfl⟩
theorem pu_r2sE {S T e:TypeId} {h:Array Obj} {x:Operand} [Und P S (.slice e)] [Und P T .string] [Und P e (.int .i32)] {a:Addr} {cp:Nat} (hx:ev ρ x = .slice (some a) 0 cp):Pu P ρ ⟨dst, .convert S T x,ty,p,af,gd⟩ h (bs []):=⟨fun w hw=>by
 simp [execOp,convert,hx,Sem.run_bind,und S w,und T w,Result.andThen_ok,und e w,Conv.runesToString,loadCells,loadCellsFrom]
 rfl⟩
theorem cells_of_getI {h:Array Obj} {B:Nat}:∀ {l:List Int} {off:Nat},(∀ i c,l[i]?=some c→K.cell h ⟨B,off+i,none⟩=some (.int .i32 c))→cellsFrom h B off (l.map (Value.int .i32))
 | [],_,_=>trivial
 | c::l,off,hc=>⟨by have:=hc 0 c rfl; simpa using this,cells_of_getI fun i c' hi=>by
  have:=hc (i+1) c' (by simpa using hi)
  rwa [show off+1+i=off+(i+1) by omega]⟩
theorem runes_at {S T e:TypeId} [Und P S (.slice e)] [Und P T .string] [Und P e (.int .i32)] {h:Array Obj} {x:Operand} {q:Option Addr} {cp:Nat} {l:List Int} (hx:ev ρ x = .slice q l.length cp) (hc:∀ i c,l[i]?=some c→q=some ⟨blk q,offs q,none⟩∧K.cell h ⟨blk q,offs q+i,none⟩=some (.int .i32 c)):Pu P ρ ⟨dst, .convert S T x,ty,p,af,gd⟩ h (bs (encs8 l)):=by
 cases l with
 | nil =>
  cases q with
  | none=>exact pu_r2s0 (e:=e) hx
  | some a =>
   obtain ⟨B,off,sp⟩:=a
   exact pu_r2sE (e:=e) hx
 | cons c l =>
  obtain ⟨h1,_⟩:=hc 0 c rfl
  refine pu_r2s (e:=e) (B:=blk q) (off:=offs q) (by rw [hx]; congr 1) (cells_of_getI fun i c hi=>(hc i c hi).2)
theorem Rd.str_inv {l:List UInt8} (h:Rd F [.str l] [v]):v=bs l:=by cases h; rfl
theorem Rd.nil_inv (h:Rd F [.nil] [v]):v = .slice none 0 0:=by cases h; rfl
theorem row_cells {h:Array Obj} {sz T n cp i B:Nat} {Lv:List Blk} {rows:List (List Value)} {r:List Value} (hs:SlO sz T (some ⟨B,0,none⟩) n cp Lv rows) (hi:rows[i]?=some r) (hB:∀ p∈Lv,isB h[p.1]? p):cellsFrom h B (i*sz) r:=by
 obtain ⟨pre,post,e1,e2⟩:=flat_split hs.row hi
 rcases hs.sh with ⟨he,_,_⟩ | ⟨B',n',cap,spare,he,hL,_,_,_⟩
 ·cases he
 ·cases he
  obtain ⟨fz,_,this⟩:=(hB (B,rows.flatten++spare,BT.c T) (by rw [hL]; simp)).cells
  simp only at this
  rw [e1] at this
  exact cells_of_row r pre (post++spare) _ (by show h[B]?=_; simpa using this) (by omega)
theorem RdW.mkop {B o:Nat} (h:(ι t).1 = .pointer (some ⟨B,0,none⟩)):RdW F ι (.op t o) (.pointer (some ⟨B,o,none⟩)):=⟨B,h,rfl⟩
theorem RdW.mkoe {B n cp z i o a:Nat} (h:(ι t).1 = .slice (some ⟨B,0,none⟩) n cp) (ha:a=i*z+o):RdW F ι (.oe t z i o) (.pointer (some ⟨B,a,none⟩)):=⟨B,n,cp,h,by rw [ha]⟩
theorem RdW.mknf {B i o a:Nat} (hB:F.nid i=some B) (ha:a=o):RdW F ι (.nf i o) (.pointer (some ⟨B,a,none⟩)):=⟨B,hB,by rw [ha]⟩
theorem RdW.mknae {hd:List Value} {B n cp z i j o a:Nat} (h1:(ι NT).1 = .tuple hd.toArray) (h2:hd[i]?=some (.slice (some ⟨B,0,none⟩) n cp)) (ha:a=j*z+o):RdW F ι (.nae z i j o) (.pointer (some ⟨B,a,none⟩)):=⟨hd,B,n,cp,h1,h2,by rw [ha]⟩
theorem Rd.np_ptr {o:Option Nat} (h:Rd F [.np o] [v]):∃ a,v = .pointer a:=by
 cases h with
 | npN _=>exact ⟨_,rfl⟩
 | npS _ _=>exact ⟨_,rfl⟩
theorem np_inj {o o':Option Nat} {a a':Option Addr} (h:Rd F [.np o] [.pointer a]) (h':Rd F [.np o'] [.pointer a']):(a=a')↔(o=o'):=by
 cases h with
 | npN _ =>
  cases h' with
  | npN _=>simp
  | npS _ _=>simp
 | npS hB _ =>
  cases h' with
  | npN _=>simp
  | npS hB' _ =>
   constructor
   ·intro e
    cases e
    rw [F.inj _ _ _ hB hB']
   ·intro e
    cases e
    rw [hB] at hB'
    cases hB'
    rfl
theorem np_equal {kt e:TypeId} {n:Nat} [Und P kt (.pointer e)] [Siz P e n] (hn:n≠0) {h:Array Obj} {L:List Blk} (hm:Hp h F L) {w:World} (hw:w.heap=h) {o o':Option Nat} {a a':Option Addr} (h1:Rd F [.np o] [.pointer a]) (h2:Rd F [.np o'] [.pointer a']):(Op.equal kt (.pointer a) (.pointer a')).run P w = .ok (decide (a=a')) w:=by
 cases h1 with
 | npN _ =>
  rw [equal_nil (P:=P) (T:=kt) (e:=e) hn]
  simp [eq_comm]
 | npS hB _ =>
  cases h2 with
  | npN _=>exact equal_nil' (P:=P) (T:=kt) (e:=e) hn _ w
  | npS hB' _ =>
   obtain ⟨c1,t1,l1,_⟩:=hm.live _ (F.nlt _ _ hB)
   obtain ⟨c2,t2,l2,_⟩:=hm.live _ (F.nlt _ _ hB')
   rw [equal_pp (P:=P) (T:=kt) (e:=e) hn (ca:=c1.toList) (cb:=c2.toList) w (by rw [hw]; simpa using l1) (by rw [hw]; simpa using l2)]
   simp
def isA (a:Option Addr):Value→Bool
 | .pointer a'=>decide (a=a')
 | _=>false
theorem mp_find {o:Option Nat} {a:Option Addr} (ho:Rd F [.np o] [.pointer a]):∀ {l:List (Option Nat×Bool)} {cs:List Value} (i j:Nat),Rd F (mpD l) cs→(match findD (isA a) (pairsO cs i) j with | some r=>r.2 | none => .bool false) = .bool (mget l o)
 | [],_,i,j,h=>by cases h; rfl
 | p::l,_,i,j,h=>by
  obtain ⟨k,cs,rfl,h1,h2⟩:=h.inv_cons
  obtain ⟨v,cs,rfl,h3,h4⟩:=h2.inv_cons
  obtain ⟨a',rfl⟩:=h1.np_ptr
  have h3:=Rd.bool_inv h3
  subst h3
  obtain ⟨o',b⟩:=p
  have he:=np_inj ho h1
  have hA:isA a (.pointer a')=decide (o=o'):=by simp only [isA,decide_eq_decide]; exact he
  by_cases e:o=o'
  ·simp [pairsO,findD,hA,e,mget]
  ·have:=mp_find ho (i+1) (j+1) h4
   simpa [pairsO,findD,hA,e,mget] using this
theorem mp_keys {l:List (Option Nat×Bool)}:∀ {cs:List Value} (i:Nat),Rd F (mpD l) cs→∀ m∈pairsO cs i,∃ o a,m.key = .pointer a∧Rd F [.np o] [.pointer a]:=by
 induction l with
 | nil=>intro cs i h; cases h; intro m hm; simp [pairsO] at hm
 | cons p l ih =>
  intro cs i h
  obtain ⟨k,cs,rfl,h1,h2⟩:=h.inv_cons
  obtain ⟨v,cs,rfl,h3,h4⟩:=h2.inv_cons
  obtain ⟨a',rfl⟩:=h1.np_ptr
  intro m hm
  simp only [pairsO,List.mem_cons] at hm
  rcases hm with rfl | hm
  ·exact ⟨p.1,a',rfl,h1⟩
  ·exact ih (i+1) h4 m hm
theorem Rd.npN_inv (h:Rd F [.np none] [v]):v = .pointer none:=by cases h; rfl
theorem Rd.npS_inv {i:Nat} (h:Rd F [.np (some i)] [v]):∃ B,F.nid i=some B∧v = .pointer (some ⟨B,0,none⟩):=by
 cases h with
 | npS hB _=>exact ⟨_,hB,rfl⟩
theorem Rd.pnil_inv (h:Rd F [.pnil] [v]):v = .pointer none:=by cases h; rfl
theorem Rd.gm_inv {n:Nat} (h:Rd F [.gm n] [v]):∃ T z b,v = .map (some b)∧F.m n=some (.cells #[.map (some b)] T z):=by
 cases h with
 | gm h1 _=>obtain ⟨T,z,h1⟩:=h1; exact ⟨T,z,_,rfl,h1⟩
theorem Rd.mnil_inv (h:Rd F [.mnil] [v]):v = .map none:=by cases h; rfl
theorem equal_np {T e:TypeId} [Und P T (.pointer e)] (q:Option Addr) (w:World):(Op.equal T (.pointer none) (.pointer q)).run P w = .ok q.isNone w:=by
 unfold Op.equal Op.maxDepth Op.equalIn
 cases q <;> simp [und T w]
theorem pu_eql_pt' {T e U:TypeId} [Und P T (.pointer e)] {q:Option Addr} {x y:Operand} {h:Array Obj} (hx:ev ρ x = .pointer none) (hy:ev ρ y = .pointer q):Pu P ρ ⟨dst, .binOp .eql T x y U,ty,p,af,gd⟩ h (.bool q.isNone):=⟨fun w _=>by
 simp [execOp,guard_ptr,hx,hy,binOp,equal_np]⟩
theorem pu_neq_pt' {T e U:TypeId} [Und P T (.pointer e)] {q:Option Addr} {x y:Operand} {h:Array Obj} (hx:ev ρ x = .pointer none) (hy:ev ρ y = .pointer q):Pu P ρ ⟨dst, .binOp .neq T x y U,ty,p,af,gd⟩ h (.bool (!q.isNone)):=⟨fun w _=>by
 simp [execOp,guard_ptr,hx,hy,binOp,equal_np]⟩
theorem equal_mm {T k e:TypeId} [Und P T (.map k e)] (w:World):(Op.equal T (.map none) (.map none)).run P w = .ok true w:=by
 unfold Op.equal Op.maxDepth Op.equalIn
 simp [und T w]
theorem pu_eql_mm {T k e U:TypeId} [Und P T (.map k e)] {x y:Operand} {h:Array Obj} (hx:ev ρ x = .map none) (hy:ev ρ y = .map none):Pu P ρ ⟨dst, .binOp .eql T x y U,ty,p,af,gd⟩ h (.bool true):=⟨fun w _=>by
 simp [execOp,eqGuard,hx,hy,binOp,equal_mm]⟩
theorem pu_neq_mm {T k e U:TypeId} [Und P T (.map k e)] {x y:Operand} {h:Array Obj} (hx:ev ρ x = .map none) (hy:ev ρ y = .map none):Pu P ρ ⟨dst, .binOp .neq T x y U,ty,p,af,gd⟩ h (.bool false):=⟨fun w _=>by
 simp [execOp,eqGuard,hx,hy,binOp,equal_mm]⟩
theorem Rd.inil_inv (h:Rd F [.inil] [v]):v = .nilIface:=by cases h; rfl
theorem Rd.fnl_inv (h:Rd F [.fnl] [v]):v = .nilFunc:=by cases h; rfl
theorem Rd.clo_inv {f:FuncId} {l:List D} (h:Rd F [.clo f l] [v]):∃ cs:List Value,v = .func (.func f) #[] cs.toArray∧Rd F l cs:=by
 cases h with
 | clo a _=>exact ⟨_,rfl,a⟩
theorem equal_ss {T e:TypeId} {q:Option Addr} {n cp:Nat} [Und P T (.slice e)] (w:World):(Op.equal T (.slice q n cp) (.slice none 0 0)).run P w = .ok q.isNone w:=by
 unfold Op.equal Op.maxDepth Op.equalIn
 cases q <;> simp [und T w]
theorem pu_eql_ss {T e U:TypeId} {q:Option Addr} {n cp:Nat} [Und P T (.slice e)] {x:Operand} {h:Array Obj} (hx:ev ρ x = .slice q n cp):Pu P ρ ⟨dst, .binOp .eql T x (.const (.slice none 0 0)) U,ty,p,af,gd⟩ h (.bool q.isNone):=⟨fun w _=>by
 have hy:ev ρ (.const (.slice none 0 0)) = .slice none 0 0:=rfl
 simp [execOp,eqGuard,hx,hy,binOp,equal_ss (P:=P) (e:=e)]⟩
theorem pu_neq_ss {T e U:TypeId} {q:Option Addr} {n cp:Nat} [Und P T (.slice e)] {x:Operand} {h:Array Obj} (hx:ev ρ x = .slice q n cp):Pu P ρ ⟨dst, .binOp .neq T x (.const (.slice none 0 0)) U,ty,p,af,gd⟩ h (.bool !q.isNone):=⟨fun w _=>by
 have hy:ev ρ (.const (.slice none 0 0)) = .slice none 0 0:=rfl
 simp [execOp,eqGuard,hx,hy,binOp,equal_ss (P:=P) (e:=e)]⟩
theorem equal_ii {T:TypeId} {ms:Array (String×TypeId)} [Und P T (.interface ms)] (w:World):(Op.equal T .nilIface .nilIface).run P w = .ok true w:=by
 unfold Op.equal Op.maxDepth Op.equalIn
 simp [und T w]
theorem pu_eql_ii {T U:TypeId} {ms:Array (String×TypeId)} [Und P T (.interface ms)] {x:Operand} {h:Array Obj} (hx:ev ρ x = .nilIface):Pu P ρ ⟨dst, .binOp .eql T x (.const .nilIface) U,ty,p,af,gd⟩ h (.bool true):=⟨fun w _=>by
 have hy:ev ρ (.const .nilIface) = .nilIface:=rfl
 simp [execOp,eqGuard,hx,hy,binOp,equal_ii]⟩
theorem pu_neq_ii {T U:TypeId} {ms:Array (String×TypeId)} [Und P T (.interface ms)] {x:Operand} {h:Array Obj} (hx:ev ρ x = .nilIface):Pu P ρ ⟨dst, .binOp .neq T x (.const .nilIface) U,ty,p,af,gd⟩ h (.bool false):=⟨fun w _=>by
 have hy:ev ρ (.const .nilIface) = .nilIface:=rfl
 simp [execOp,eqGuard,hx,hy,binOp,equal_ii]⟩
theorem equal_in {T:TypeId} {ms:Array (String×TypeId)} [Und P T (.interface ms)] {tx:TypeId} {u:Value} (w:World):(Op.equal T (.iface tx u) .nilIface).run P w = .ok false w:=by
 unfold Op.equal Op.maxDepth Op.equalIn
 simp [und T w]
theorem pu_eql_in {T U tx:TypeId} {u:Value} {ms:Array (String×TypeId)} [Und P T (.interface ms)] {x:Operand} {h:Array Obj} (hx:ev ρ x = .iface tx u):Pu P ρ ⟨dst, .binOp .eql T x (.const .nilIface) U,ty,p,af,gd⟩ h (.bool false):=⟨fun w _=>by
 have hy:ev ρ (.const .nilIface) = .nilIface:=rfl
 simp [execOp,eqGuard,hx,hy,binOp,equal_in]⟩
theorem pu_neq_in {T U tx:TypeId} {u:Value} {ms:Array (String×TypeId)} [Und P T (.interface ms)] {x:Operand} {h:Array Obj} (hx:ev ρ x = .iface tx u):Pu P ρ ⟨dst, .binOp .neq T x (.const .nilIface) U,ty,p,af,gd⟩ h (.bool true):=⟨fun w _=>by
 have hy:ev ρ (.const .nilIface) = .nilIface:=rfl
 simp [execOp,eqGuard,hx,hy,binOp,equal_in]⟩
theorem Rd.ifc_inv {T:TypeId} {l:List D} (h:Rd F [.ifc T l] [v]):∃ cs:List Value,v = .iface T (.agg cs.toArray)∧Rd F l cs:=by
 cases h with
 | ifc h1 _=>exact ⟨_,rfl,h1⟩
def Mix (a b:Value):Prop:=(a = .nilIface∧∃ T u,b = .iface T u)∨(b = .nilIface∧∃ T u,a = .iface T u)
theorem equal_mix {T:TypeId} {ms:Array (String×TypeId)} [Und P T (.interface ms)] {a b:Value} (h:Mix a b) (w:World):(Op.equal T a b).run P w = .ok false w:=by
 unfold Op.equal Op.maxDepth Op.equalIn
 rcases h with ⟨rfl,X,u,rfl⟩ | ⟨rfl,X,u,rfl⟩ <;> simp [und T w]
theorem pu_eql_mix {T U:TypeId} {ms:Array (String×TypeId)} [Und P T (.interface ms)] {x y:Operand} {h:Array Obj} (hm:Mix (ev ρ x) (ev ρ y)):Pu P ρ ⟨dst, .binOp .eql T x y U,ty,p,af,gd⟩ h (.bool false):=⟨fun w _=>by
 have he:=equal_mix (P:=P) (T:=T) hm w
 rcases hm with ⟨h1,X,u,h2⟩ | ⟨h1,X,u,h2⟩ <;> (rw [h1,h2] at he; simp [execOp,eqGuard,h1,h2,binOp,he])⟩
theorem pu_neq_mix {T U:TypeId} {ms:Array (String×TypeId)} [Und P T (.interface ms)] {x y:Operand} {h:Array Obj} (hm:Mix (ev ρ x) (ev ρ y)):Pu P ρ ⟨dst, .binOp .neq T x y U,ty,p,af,gd⟩ h (.bool true):=⟨fun w _=>by
 have he:=equal_mix (P:=P) (T:=T) hm w
 rcases hm with ⟨h1,X,u,h2⟩ | ⟨h1,X,u,h2⟩ <;> (rw [h1,h2] at he; simp [execOp,eqGuard,h1,h2,binOp,he])⟩
theorem pu_ta_yes {x:Operand} {xT T:TypeId} {fs:Array Field} [Und P T (.struct fs)] {u:Value} {h:Array Obj} (hx:ev ρ x = .iface T u):Pu P ρ ⟨dst, .typeAssert x xT T true,ty,p,af,gd⟩ h (.tuple #[u, .bool true]):=⟨fun w _=>by
 have hu:=und (P:=P) T w
 simp [execOp,Instr.typeAssert,hx,hu]⟩
theorem pu_ta_no {x:Operand} {xT T T':TypeId} {fs:Array Field} [Und P T (.struct fs)] {u z:Value} {h:Array Obj} (hne:T'≠T) (hz:∀ w,(zeroValue T).run P w = .ok z w) (hx:ev ρ x = .iface T' u):Pu P ρ ⟨dst, .typeAssert x xT T true,ty,p,af,gd⟩ h (.tuple #[z, .bool false]):=⟨fun w _=>by
 have hu:=und (P:=P) T w
 simp [execOp,Instr.typeAssert,hx,hu,hne,hz]⟩
theorem Rd.err_inv {b:Bool} (h:Rd F [.err b] [v]):if b then ∃ T u,v = .iface T u else v = .nilIface:=by
 cases h with
 | err a _=>exact a
theorem equal_same {T e:TypeId} {n:Nat} [Und P T (.pointer e)] [Siz P e n] (hn:n≠0) (a:Addr) (w:World):(Op.equal T (.pointer (some a)) (.pointer (some a))).run P w = .ok true w:=by
 unfold Op.equal Op.maxDepth Op.equalIn
 simp only [Sem.run_bind,und T w,Result.andThen_ok,siz e w,ne_eq,hn,not_false_eq_true,if_true]
 simp [run_sameAddr_same]
theorem pu_eql_same {T e U:TypeId} {n:Nat} [Und P T (.pointer e)] [Siz P e n] (hn:n≠0) {a:Addr} {x y:Operand} {h:Array Obj} (hx:ev ρ x = .pointer (some a)) (hy:ev ρ y = .pointer (some a)):Pu P ρ ⟨dst, .binOp .eql T x y U,ty,p,af,gd⟩ h (.bool true):=⟨fun w _=>by
 simp [execOp,guard_ptr,hx,hy,binOp,equal_same (P:=P) (T:=T) (e:=e) hn]⟩
theorem pu_neq_same {T e U:TypeId} {n:Nat} [Und P T (.pointer e)] [Siz P e n] (hn:n≠0) {a:Addr} {x y:Operand} {h:Array Obj} (hx:ev ρ x = .pointer (some a)) (hy:ev ρ y = .pointer (some a)):Pu P ρ ⟨dst, .binOp .neq T x y U,ty,p,af,gd⟩ h (.bool false):=⟨fun w _=>by
 simp [execOp,guard_ptr,hx,hy,binOp,equal_same (P:=P) (T:=T) (e:=e) hn]⟩
theorem equal_ff {T:TypeId} {a b:Array TypeId} {c:Bool} [Und P T (.func a b c)] (w:World):(Op.equal T .nilFunc .nilFunc).run P w = .ok true w:=by
 unfold Op.equal Op.maxDepth Op.equalIn
 simp [und T w]
theorem equal_fc {T:TypeId} {a b:Array TypeId} {c:Bool} [Und P T (.func a b c)] {f:Fn} {l m:Array Value} (w:World):(Op.equal T (.func f l m) .nilFunc).run P w = .ok false w:=by
 unfold Op.equal Op.maxDepth Op.equalIn
 simp [und T w]
theorem pu_eql_ff {T U:TypeId} {a b:Array TypeId} {c:Bool} [Und P T (.func a b c)] {x y:Operand} {h:Array Obj} (hx:ev ρ x = .nilFunc) (hy:ev ρ y = .nilFunc):Pu P ρ ⟨dst, .binOp .eql T x y U,ty,p,af,gd⟩ h (.bool true):=⟨fun w _=>by
 simp [execOp,eqGuard,hx,hy,binOp,equal_ff]⟩
theorem pu_neq_ff {T U:TypeId} {a b:Array TypeId} {c:Bool} [Und P T (.func a b c)] {x y:Operand} {h:Array Obj} (hx:ev ρ x = .nilFunc) (hy:ev ρ y = .nilFunc):Pu P ρ ⟨dst, .binOp .neq T x y U,ty,p,af,gd⟩ h (.bool false):=⟨fun w _=>by
 simp [execOp,eqGuard,hx,hy,binOp,equal_ff]⟩
theorem pu_eql_fc {T U:TypeId} {a b:Array TypeId} {c:Bool} [Und P T (.func a b c)] {x y:Operand} {f:Fn} {l m:Array Value} {h:Array Obj} (hx:ev ρ x = .func f l m) (hy:ev ρ y = .nilFunc):Pu P ρ ⟨dst, .binOp .eql T x y U,ty,p,af,gd⟩ h (.bool false):=⟨fun w _=>by
 simp [execOp,eqGuard,hx,hy,binOp,equal_fc]⟩
theorem pu_neq_fc {T U:TypeId} {a b:Array TypeId} {c:Bool} [Und P T (.func a b c)] {x y:Operand} {f:Fn} {l m:Array Value} {h:Array Obj} (hx:ev ρ x = .func f l m) (hy:ev ρ y = .nilFunc):Pu P ρ ⟨dst, .binOp .neq T x y U,ty,p,af,gd⟩ h (.bool true):=⟨fun w _=>by
 simp [execOp,eqGuard,hx,hy,binOp,equal_fc]⟩
theorem equal_attr {T:TypeId} (h:AttrEq P T) (a b c d:List UInt8) (w:World):(Op.equal T (.agg #[bs a,bs b]) (.agg #[bs c,bs d])).run P w = .ok (decide (a=c∧b=d)) w:=by
 obtain ⟨S,f0,f1,h1,n0,n1,t0,t1,o0,o1,h2,h3,h4,h5⟩:=h
 haveI:Und P T (.struct #[f0,f1]):=⟨h1⟩
 haveI:Und P S .string:=⟨h2⟩
 have hst:∀ (n:Nat) (a c:List UInt8),∀ w,(Op.equalIn (n+1) S (bs a) (bs c)).run P w = .ok (decide (a=c)) w:=fun n a c w=>by
  unfold Op.equalIn
  simp only [Sem.run_bind,und S w,Result.andThen_ok,bs,Sem.run_pure]
  congr 1
  show (a.toArray == c.toArray)=decide (a=c)
  by_cases e:a=c
  ·subst e; simp
  ·simp [e]
 unfold Op.equal Op.maxDepth
 rw [show (10000:Nat)=9998+1+1 from rfl]
 unfold Op.equalIn
 simp [und T w,h4,part,h3,t0,t1,o0,o1,n0,n1,hst]
 by_cases e1:a=c <;> by_cases e2:b=d <;> simp [e1,e2]
theorem guard_attr {T:TypeId} (h:AttrEq P T) {op:BinOp} {x y:Operand} {l m:Array Value} (w:World):(eqGuard op T x y (.agg l) (.agg m)).run P w = .ok () w:=by
 obtain ⟨S,f0,f1,h1,n0,n1,t0,t1,o0,o1,h2,h3,h4,h5⟩:=h
 cases op <;> simp [eqGuard,h5]
theorem pu_eql_attr {T U:TypeId} (ha:AttrEq P T) {x y:Operand} {a b c d:List UInt8} {h:Array Obj} (hx:ev ρ x = .agg #[bs a,bs b]) (hy:ev ρ y = .agg #[bs c,bs d]):Pu P ρ ⟨dst, .binOp .eql T x y U,ty,p,af,gd⟩ h (.bool (decide (a=c∧b=d))):=⟨fun w _=>by
 simp only [execOp,hx,hy,Sem.run_bind,guard_attr ha,Result.andThen_ok,binOp,equal_attr ha,Sem.run_pure]⟩
theorem pu_neq_attr {T U:TypeId} (ha:AttrEq P T) {x y:Operand} {a b c d:List UInt8} {h:Array Obj} (hx:ev ρ x = .agg #[bs a,bs b]) (hy:ev ρ y = .agg #[bs c,bs d]):Pu P ρ ⟨dst, .binOp .neq T x y U,ty,p,af,gd⟩ h (.bool (!decide (a=c∧b=d))):=⟨fun w _=>by
 simp only [execOp,hx,hy,Sem.run_bind,guard_attr ha,Result.andThen_ok,binOp,equal_attr ha,Sem.run_pure]⟩
theorem equal_sel {T:TypeId} (h:SelEq P T) (a0 a1:Int) (a2 a3:List UInt8) (a4 a5 a6 a7 b0 b1:Int) (b2 b3:List UInt8) (b4 b5 b6 b7:Int) (w:World):(Op.equal T (.agg #[.int .i64 a0, .int .i64 a1,bs a2,bs a3, .int .i64 a4, .int .i64 a5, .int .i64 a6, .int .i64 a7]) (.agg #[.int .i64 b0, .int .i64 b1,bs b2,bs b3, .int .i64 b4, .int .i64 b5, .int .i64 b6, .int .i64 b7])).run P w = .ok (decide (a0=b0∧a1=b1∧a2=b2∧a3=b3∧a4=b4∧a5=b5∧a6=b6∧a7=b7)) w:=by
 obtain ⟨I,S,f0,f1,f2,f3,f4,f5,f6,f7,h1,n0,n1,n2,n3,n4,n5,n6,n7,t0,t1,t2,t3,t4,t5,t6,t7,o0,o1,o2,o3,o4,o5,o6,o7,hi,hs,ai,as1,h4,h5⟩:=h
 haveI:Und P T (.struct #[f0,f1,f2,f3,f4,f5,f6,f7]):=⟨h1⟩
 haveI:Und P S .string:=⟨hs⟩
 haveI:Und P I (.int .i64):=⟨hi⟩
 have hst:∀ (n:Nat) (a c:List UInt8),∀ w,(Op.equalIn (n+1) S (bs a) (bs c)).run P w = .ok (decide (a=c)) w:=fun n a c w=>by
  unfold Op.equalIn
  simp only [Sem.run_bind,und S w,Result.andThen_ok,bs,Sem.run_pure]
  congr 1
  show (a.toArray == c.toArray)=decide (a=c)
  by_cases e:a=c
  ·subst e; simp
  ·simp [e]
 have hit:∀ (n:Nat) (a c:Int),∀ w,(Op.equalIn (n+1) I (.int .i64 a) (.int .i64 c)).run P w = .ok (decide (a=c)) w:=fun n a c w=>by
  unfold Op.equalIn
  simp only [Sem.run_bind,und I w,Result.andThen_ok,if_true,Sem.run_pure]
  congr 1
 unfold Op.equal Op.maxDepth
 rw [show (10000:Nat)=9998+1+1 from rfl]
 unfold Op.equalIn
 simp [und T w,h4,part,ai,as1,n0,t0,o0,n1,t1,o1,n2,t2,o2,n3,t3,o3,n4,t4,o4,n5,t5,o5,n6,t6,o6,n7,t7,o7,hst,hit]
 by_cases e0:a0=b0
 case neg=>simp [e0]
 subst e0
 by_cases e1:a1=b1
 case neg=>simp [e1]
 subst e1
 by_cases e2:a2=b2
 case neg=>simp [e2]
 subst e2
 by_cases e3:a3=b3
 case neg=>simp [e3]
 subst e3
 by_cases e4:a4=b4
 case neg=>simp [e4]
 subst e4
 by_cases e5:a5=b5
 case neg=>simp [e5]
 subst e5
 by_cases e6:a6=b6
 case neg=>simp [e6]
 subst e6
 by_cases e7:a7=b7
 case neg=>simp [e7]
 subst e7
 simp
theorem guard_sel {T:TypeId} (h:SelEq P T) {op:BinOp} {x y:Operand} {l m:Array Value} (w:World):(eqGuard op T x y (.agg l) (.agg m)).run P w = .ok () w:=by
 obtain ⟨I,S,f0,f1,f2,f3,f4,f5,f6,f7,h1,n0,n1,n2,n3,n4,n5,n6,n7,t0,t1,t2,t3,t4,t5,t6,t7,o0,o1,o2,o3,o4,o5,o6,o7,hi,hs,ai,as1,h4,h5⟩:=h
 cases op <;> simp [eqGuard,h5]
theorem pu_eql_sel {T U:TypeId} (ha:SelEq P T) {x y:Operand} {a0 a1:Int} {a2 a3:List UInt8} {a4 a5 a6 a7 b0 b1:Int} {b2 b3:List UInt8} {b4 b5 b6 b7:Int} {h:Array Obj} (hx:ev ρ x = .agg #[.int .i64 a0, .int .i64 a1,bs a2,bs a3, .int .i64 a4, .int .i64 a5, .int .i64 a6, .int .i64 a7]) (hy:ev ρ y = .agg #[.int .i64 b0, .int .i64 b1,bs b2,bs b3, .int .i64 b4, .int .i64 b5, .int .i64 b6, .int .i64 b7]):Pu P ρ ⟨dst, .binOp .eql T x y U,ty,p,af,gd⟩ h (.bool (decide (a0=b0∧a1=b1∧a2=b2∧a3=b3∧a4=b4∧a5=b5∧a6=b6∧a7=b7))):=⟨fun w _=>by
 simp only [execOp,hx,hy,Sem.run_bind,guard_sel ha,Result.andThen_ok,binOp,equal_sel ha,Sem.run_pure]⟩
theorem pu_neq_sel {T U:TypeId} (ha:SelEq P T) {x y:Operand} {a0 a1:Int} {a2 a3:List UInt8} {a4 a5 a6 a7 b0 b1:Int} {b2 b3:List UInt8} {b4 b5 b6 b7:Int} {h:Array Obj} (hx:ev ρ x = .agg #[.int .i64 a0, .int .i64 a1,bs a2,bs a3, .int .i64 a4, .int .i64 a5, .int .i64 a6, .int .i64 a7]) (hy:ev ρ y = .agg #[.int .i64 b0, .int .i64 b1,bs b2,bs b3, .int .i64 b4, .int .i64 b5, .int .i64 b6, .int .i64 b7]):Pu P ρ ⟨dst, .binOp .neq T x y U,ty,p,af,gd⟩ h (.bool (!decide (a0=b0∧a1=b1∧a2=b2∧a3=b3∧a4=b4∧a5=b5∧a6=b6∧a7=b7))):=⟨fun w _=>by
 simp only [execOp,hx,hy,Sem.run_bind,guard_sel ha,Result.andThen_ok,binOp,equal_sel ha,Sem.run_pure]⟩
theorem Rd.sel_inv {xs:List D} {a:Sel} (h:E.dec .sel xs=some a) (hx:Rd F [.agg xs] [v]):v = .agg #[.int .i64 a.kind, .int .i64 a.op,bs a.key,bs a.val, .int .i64 a.a, .int .i64 a.b, .int .i64 a.flag, .int .i64 a.size]:=by
 obtain ⟨cs,e,h2⟩:=Rd.agg_inv hx
 have h3:Rd F (E.sel.enc a) cs:=dec_rd h h2
 have:cs=[.int .i64 a.kind, .int .i64 a.op,bs a.key,bs a.val, .int .i64 a.a, .int .i64 a.b, .int .i64 a.flag, .int .i64 a.size]:=by
  obtain ⟨_,_,rfl,k0,h3⟩:=h3.inv_cons
  obtain ⟨_,_,rfl,k1,h3⟩:=h3.inv_cons
  obtain ⟨_,_,rfl,k2,h3⟩:=h3.inv_cons
  obtain ⟨_,_,rfl,k3,h3⟩:=h3.inv_cons
  obtain ⟨_,_,rfl,k4,h3⟩:=h3.inv_cons
  obtain ⟨_,_,rfl,k5,h3⟩:=h3.inv_cons
  obtain ⟨_,_,rfl,k6,h3⟩:=h3.inv_cons
  obtain ⟨_,_,rfl,k7,h3⟩:=h3.inv_cons
  cases h3
  rw [Rd.int_inv k0,Rd.int_inv k1,Rd.str_inv k2,Rd.str_inv k3,Rd.int_inv k4,Rd.int_inv k5,Rd.int_inv k6,Rd.int_inv k7]
 rw [e,this]
theorem dStr_inv {a:List UInt8} (h:dStr d=some a):d = .str a:=by
 cases d <;> first | (cases h; rfl) | cases h
theorem Rd.two_inv {l:List D} {a:List UInt8×List UInt8} (ht:dTwo l=some a) (h:Rd F [.agg l] [v]):v = .agg #[bs a.1,bs a.2]:=by
 unfold dTwo at ht
 split at ht
 ·rename_i x y
  cases h1:dStr x with
  | none=>rw [h1] at ht; cases ht
  | some a1 =>
   cases h2:dStr y with
   | none=>rw [h1,h2] at ht; cases ht
   | some a2 =>
    rw [h1,h2] at ht
    cases ht
    rw [dStr_inv h1,dStr_inv h2] at h
    obtain ⟨cs,hv,hcs⟩:=Rd.agg_inv h
    obtain ⟨v0,r0,e0,g0,hcs⟩:=hcs.inv_cons
    obtain ⟨v1,r1,e1,g1,hcs⟩:=hcs.inv_cons
    cases hcs
    rw [hv,e0,e1,Rd.str_inv g0,Rd.str_inv g1]
 ·cases ht
theorem parts_inv2 {a:Sel} (h:E.dec .sel d.parts=some a):d = .agg d.parts:=by
 cases d <;> first | rfl | cases h
theorem parts_inv {a:List UInt8×List UInt8} (h:dTwo d.parts=some a):d = .agg d.parts:=by
 cases d <;> first | rfl | cases h
theorem evEq_sound {X U:TypeId} {op:BinOp} {x y:Operand} {b:Bool} {K:D→Option R} (h1:∀ h L,Hp h F L→Pu P ρ ⟨dst, .binOp .eql X x y U,ty,p,af,gd⟩ h (.bool b)) (h2:∀ h L,Hp h F L→Pu P ρ ⟨dst, .binOp .neq X x y U,ty,p,af,gd⟩ h (.bool (!b))) (h:evEq op b K=some r) :
  ∃ v d,(∀ h L,Hp h F L→Pu P ρ ⟨dst, .binOp op X x y U,ty,p,af,gd⟩ h v)∧RdV F ι d v∧K d=some r:=by
 unfold evEq at h
 split at h
 ·exact ⟨_,_,h1, .of_rd (.bool .nil),h⟩
 ·exact ⟨_,_,h2, .of_rd (.bool .nil),h⟩
 ·cases h
theorem pu_neg {k:IntKind} {a:Int} {X:TypeId} {x:Operand} {h:Array Obj} (hx:ev ρ x = .int k a):Pu P ρ ⟨dst, .unOp .neg X x,ty,p,af,gd⟩ h (.int k (k.wrap (0 - a))):=⟨fun w _=>by
 simp [execOp,hx,Op.unary,Op.intArith]⟩
theorem pu_quoK {k:IntKind} {a b:Int} {X U:TypeId} {x y:Operand} {h:Array Obj} (hx:ev ρ x = .int k a) (hy:ev ρ y = .int k b) (hb:b≠0):Pu P ρ ⟨dst, .binOp .quo X x y U,ty,p,af,gd⟩ h (.int k (k.wrap (a.tdiv b))):=⟨fun w _=>by
 simp [execOp,guard_int,hx,hy,binOp,Op.intDiv,hb]⟩
theorem pu_shl {k k':IntKind} {a b:Int} {X U:TypeId} {x y:Operand} {h:Array Obj} (hx:ev ρ x = .int k a) (hy:ev ρ y = .int k' b) (hb:¬ b<0):Pu P ρ ⟨dst, .binOp .shl X x y U,ty,p,af,gd⟩ h (.int k (k.wrap (a*2 ^ min b.toNat k.bits))):=⟨fun w _=>by
 simp [execOp,eqGuard,hx,hy,binOp,Op.shift,hb]⟩
theorem pu_shr {k k':IntKind} {a b:Int} {X U:TypeId} {x y:Operand} {h:Array Obj} (hx:ev ρ x = .int k a) (hy:ev ρ y = .int k' b) (hb:¬ b<0):Pu P ρ ⟨dst, .binOp .shr X x y U,ty,p,af,gd⟩ h (.int k (a.fdiv (2 ^ min b.toNat k.bits))):=⟨fun w _=>by
 simp [execOp,eqGuard,hx,hy,binOp,Op.shift,hb]⟩
theorem evBin_sound {op:BinOp} {X U:TypeId} {x y:Operand} {dx dy:D} {K:D→Option R} (hx:RdV F ι dx (ev ρ x)) (hy:RdV F ι dy (ev ρ y)) (hT:CtOK P C) (h:evBin C op X dx dy K=some r) :
  ∃ v d,(∀ h L,Hp h F L→Pu P ρ ⟨dst, .binOp op X x y U,ty,p,af,gd⟩ h v)∧RdV F ι d v∧K d=some r:=by
 unfold evBin at h
 split at h
 ·rename_i k a
  split at h
  ·rename_i k' b
   have e1:=Rd.int_inv hx
   have e2:=Rd.int_inv hy
   split at h
   ·obtain ⟨n,hn,h⟩:=Option.bind_eq_some_iff.1 h
    unfold shlI at hn
    split at hn
    ·cases hn
    ·rename_i hb; cases hn; exact ⟨_,_,fun _ _ _=>pu_shl e1 e2 hb, .of_rd (.int .nil),h⟩
   ·obtain ⟨n,hn,h⟩:=Option.bind_eq_some_iff.1 h
    unfold shrI at hn
    split at hn
    ·cases hn
    ·rename_i hb; cases hn; exact ⟨_,_,fun _ _ _=>pu_shr e1 e2 hb, .of_rd (.int .nil),h⟩
   ·skip
    cases hk:decide (k=k') with
    | false=>rw [hk] at h; cases h
    | true =>
     rw [hk] at h
     have hkk:k=k':=by simpa using hk
     subst hkk
     simp only [cond_true] at h
     unfold evInt at h
     split at h
     ·exact ⟨_,_,fun _ _ _=>pu_add e1 e2, .of_rd (.int .nil),h⟩
     ·exact ⟨_,_,fun _ _ _=>pu_sub e1 e2, .of_rd (.int .nil),h⟩
     ·exact ⟨_,_,fun _ _ _=>pu_mul e1 e2, .of_rd (.int .nil),h⟩
     ·exact ⟨_,_,fun _ _ _=>pu_eql e1 e2, .of_rd (.bool .nil),h⟩
     ·exact ⟨_,_,fun _ _ _=>pu_neq e1 e2, .of_rd (.bool .nil),h⟩
     ·exact ⟨_,_,fun _ _ _=>pu_lss e1 e2, .of_rd (.bool .nil),h⟩
     ·exact ⟨_,_,fun _ _ _=>pu_leq e1 e2, .of_rd (.bool .nil),h⟩
     ·exact ⟨_,_,fun _ _ _=>pu_gtr e1 e2, .of_rd (.bool .nil),h⟩
     ·exact ⟨_,_,fun _ _ _=>pu_geq e1 e2, .of_rd (.bool .nil),h⟩
     ·exact ⟨_,_,fun _ _ _=>pu_and e1 e2, .of_rd (.int .nil),h⟩
     ·exact ⟨_,_,fun _ _ _=>pu_or e1 e2, .of_rd (.int .nil),h⟩
     ·obtain ⟨n,hn,h⟩:=Option.bind_eq_some_iff.1 h
      unfold divI at hn
      split at hn
      ·cases hn
      ·rename_i hb; cases hn; exact ⟨_,_,fun _ _ _=>pu_quoK e1 e2 hb, .of_rd (.int .nil),h⟩
     ·obtain ⟨n,hn,h⟩:=Option.bind_eq_some_iff.1 h
      unfold remI at hn
      split at hn
      ·cases hn
      ·rename_i hb; cases hn; exact ⟨_,_,fun _ _ _=>pu_rem e1 e2 hb, .of_rd (.int .nil),h⟩
     ·cases h
  ·cases h
 ·rename_i l
  split at h
  ·rename_i m
   have e1:=Rd.str_inv hx
   have e2:=Rd.str_inv hy
   split at h
   ·exact ⟨_,_,fun _ _ _=>pu_eqs e1 e2, .of_rd (.bool .nil),h⟩
   ·exact ⟨_,_,fun _ _ _=>pu_neqs e1 e2, .of_rd (.bool .nil),h⟩
   ·unfold catS at h
    split at h
    ·rename_i hl
     exact ⟨_,_,fun _ _ _=>pu_adds e1 e2 hl, .of_rd (.str .nil),h⟩
    ·cases h
   ·cases h
  ·cases h
 ·rename_i a
  split at h
  ·rename_i b
   have e1:=Rd.bool_inv hx
   have e2:=Rd.bool_inv hy
   split at h
   ·rename_i ht
    haveI:Und P X .bool:=⟨(ti_ok hT ht).und⟩
    have hb:∀ a b:Bool,decide (a=b)=(a == b):=by decide
    exact evEq_sound (fun _ _ _=>by rw [← hb]; exact pu_eqb e1 e2) (fun _ _ _=>by
     have:=pu_neqb (P:=P) (T:=X) (U:=U) (h:=‹Array Obj›) (d:=dst) (ty:=ty) (p:=p) (af:=af) (g:=gd) e1 e2
     have hn:∀ a b:Bool,decide (a≠b)=!(a == b):=by decide
     rwa [hn] at this) h
   ·cases h
  ·cases h
 ·rename_i o
  split at h
  ·rename_i e _ _ _ _ _ ht
   split at h
   ·rename_i te hte
    cases hz:Nat.blt 0 te.size with
    | false=>rw [hz] at h; cases h
    | true =>
     rw [hz] at h
     simp only [cond_true] at h
     have hz:0<te.size:=by simpa [Nat.blt_eq] using hz
     haveI:Und P X (.pointer e):=⟨(ti_ok hT ht).und⟩
     haveI:Siz P e te.size:=⟨(ti_ok hT hte).siz⟩
     split at h
     ·rename_i o'
      cases o with
      | none =>
       have e1:=Rd.npN_inv hx
       cases o' with
       | none=>exact evEq_sound (fun _ _ _=>pu_eql_pt' e1 (Rd.npN_inv hy)) (fun _ _ _=>pu_neq_pt' e1 (Rd.npN_inv hy)) h
       | some j =>
        obtain ⟨B',hB',e2⟩:=Rd.npS_inv hy
        exact evEq_sound (fun _ _ _=>pu_eql_pt' e1 e2) (fun _ _ _=>pu_neq_pt' e1 e2) h
      | some i =>
       obtain ⟨B,hB,e1⟩:=Rd.npS_inv hx
       cases o' with
       | none=>exact evEq_sound (fun _ _ _=>pu_eql_pt e1 (Rd.npN_inv hy)) (fun _ _ _=>pu_neq_pt e1 (Rd.npN_inv hy)) h
       | some j =>
        obtain ⟨B',hB',e2⟩:=Rd.npS_inv hy
        have hd:decide (B=B')=decide ((some i:Option Nat)=some j):=by
         by_cases e:i=j
         ·subst e
          rw [hB] at hB'
          cases hB'
          simp
         ·have:B≠B':=fun h=>by subst h; exact e (F.inj _ _ _ hB hB')
          simp [e,this]
        refine evEq_sound (fun hh L hm=>?_) (fun hh L hm=>?_) h
        ·obtain ⟨c1,t1,l1,_⟩:=hm.live _ (F.nlt _ _ hB)
         obtain ⟨c2,t2,l2,_⟩:=hm.live _ (F.nlt _ _ hB')
         have:=pu_eql_pp (P:=P) (T:=X) (U:=U) (h:=hh) (d:=dst) (ty:=ty) (p:=p) (af:=af) (g:=gd) (ca:=c1.toList) (cb:=c2.toList) e1 e2 (by simpa using l1) (by simpa using l2) (by omega)
         rwa [hd] at this
        ·obtain ⟨c1,t1,l1,_⟩:=hm.live _ (F.nlt _ _ hB)
         obtain ⟨c2,t2,l2,_⟩:=hm.live _ (F.nlt _ _ hB')
         have:=pu_neq_pp (P:=P) (T:=X) (U:=U) (h:=hh) (d:=dst) (ty:=ty) (p:=p) (af:=af) (g:=gd) (ca:=c1.toList) (cb:=c2.toList) e1 e2 (by simpa using l1) (by simpa using l2) (by omega)
         have hn:decide (B≠B')=!decide (B=B'):=by simp
         rwa [hn,hd] at this
     ·have e2:=Rd.pnil_inv hy
      cases o with
      | none=>exact evEq_sound (fun _ _ _=>pu_eql_pt (Rd.npN_inv hx) e2) (fun _ _ _=>pu_neq_pt (Rd.npN_inv hx) e2) h
      | some i =>
       obtain ⟨B,hB,e1⟩:=Rd.npS_inv hx
       exact evEq_sound (fun _ _ _=>pu_eql_pt e1 e2) (fun _ _ _=>pu_neq_pt e1 e2) h
     ·cases h
   ·cases h
  ·cases h
 ·rename_i ds off
  split at h
  ·rename_i e _ _ _ _ _ ht
   haveI:Und P X (.pointer e):=⟨(ti_ok hT ht).und⟩
   split at h
   ·obtain ⟨B,o,cs,e1,_,_⟩:=Rd.fp_inv hx
    have e2:=Rd.pnil_inv hy
    exact evEq_sound (fun _ _ _=>pu_eql_pt e1 e2) (fun _ _ _=>pu_neq_pt e1 e2) h
   ·cases h
  ·cases h
 ·rename_i o
  split at h
  ·rename_i e _ _ _ _ _ ht
   haveI:Und P X (.pointer e):=⟨(ti_ok hT ht).und⟩
   split at h
   ·have e2:=Rd.pnil_inv hy
    cases o with
    | none =>
     have e1:_=Value.pointer none:=hx
     exact evEq_sound (fun _ _ _=>pu_eql_pt e1 e2) (fun _ _ _=>pu_neq_pt e1 e2) h
    | some q =>
     obtain ⟨hd,B,n,cp,_,_,e1⟩:=hx
     exact evEq_sound (fun _ _ _=>pu_eql_pt e1 e2) (fun _ _ _=>pu_neq_pt e1 e2) h
   ·cases h
  ·cases h
 ·rename_i z i j off
  split at h
  ·rename_i e _ _ _ _ _ ht
   haveI:Und P X (.pointer e):=⟨(ti_ok hT ht).und⟩
   split at h
   ·obtain ⟨hd,B,n,cp,_,_,e1⟩:=hx
    have e2:=Rd.pnil_inv hy
    exact evEq_sound (fun _ _ _=>pu_eql_pt e1 e2) (fun _ _ _=>pu_neq_pt e1 e2) h
   ·cases h
  ·cases h
 ·rename_i t off
  split at h
  ·rename_i e _ _ _ _ _ ht
   haveI:Und P X (.pointer e):=⟨(ti_ok hT ht).und⟩
   split at h
   ·obtain ⟨B,_,e1⟩:=hx
    have e2:=Rd.pnil_inv hy
    exact evEq_sound (fun _ _ _=>pu_eql_pt e1 e2) (fun _ _ _=>pu_neq_pt e1 e2) h
   ·cases h
  ·cases h
 ·rename_i t b
  split at h
  ·rename_i e _ _ _ _ _ ht
   haveI:Und P X (.pointer e):=⟨(ti_ok hT ht).und⟩
   obtain ⟨B,g1,e1⟩:=hx
   split at h
   ·have e2:=Rd.pnil_inv hy
    cases b with
    | true=>exact evEq_sound (fun _ _ _=>pu_eql_pt e1 e2) (fun _ _ _=>pu_neq_pt e1 e2) h
    | false=>exact evEq_sound (fun _ _ _=>pu_eql_pt e1 e2) (fun _ _ _=>pu_neq_pt e1 e2) h
   ·rename_i t'
    split at h
    ·rename_i te hte
     cases hc:(Nat.blt 0 te.size && t' == t) with
     | false=>rw [hc] at h; cases h
     | true =>
      rw [hc] at h
      simp only [cond_true] at h
      rw [Bool.and_eq_true,Nat.blt_eq,beq_iff_eq] at hc
      obtain ⟨hs,rfl⟩:=hc
      haveI:Siz P e te.size:=⟨(ti_ok hT hte).siz⟩
      obtain ⟨B',g2,e2⟩:=hy
      rw [g1] at g2
      have hB:B=B':=by cases g2; rfl
      subst hB
      cases b with
      | true=>exact evEq_sound (fun _ _ _=>pu_eql_same (e:=e) (n:=te.size) (by omega) e1 e2) (fun _ _ _=>pu_neq_same (e:=e) (n:=te.size) (by omega) e1 e2) h
      | false=>exact evEq_sound (fun _ _ _=>pu_eql_pt' e1 e2) (fun _ _ _=>pu_neq_pt' e1 e2) h
    ·cases h
   ·cases h
  ·cases h
 ·split at h
  ·rename_i e _ _ _ _ _ ht
   haveI:Und P X (.pointer e):=⟨(ti_ok hT ht).und⟩
   have e1:=Rd.pnil_inv hx
   split at h
   ·rename_i o'
    cases o' with
    | none=>exact evEq_sound (fun _ _ _=>pu_eql_pt' e1 (Rd.npN_inv hy)) (fun _ _ _=>pu_neq_pt' e1 (Rd.npN_inv hy)) h
    | some j =>
     obtain ⟨B',hB',e2⟩:=Rd.npS_inv hy
     exact evEq_sound (fun _ _ _=>pu_eql_pt' e1 e2) (fun _ _ _=>pu_neq_pt' e1 e2) h
   ·have e2:=Rd.pnil_inv hy
    exact evEq_sound (fun _ _ _=>pu_eql_pt e1 e2) (fun _ _ _=>pu_neq_pt e1 e2) h
   ·cases h
  ·cases h
 ·split at h
  ·rename_i k v _ _ _ _ _ ht
   haveI:Und P X (.map k v):=⟨(ti_ok hT ht).und⟩
   split at h
   ·have e1:=Rd.mnil_inv hx
    have e2:=Rd.mnil_inv hy
    exact evEq_sound (fun _ _ _=>pu_eql_mm e1 e2) (fun _ _ _=>pu_neq_mm e1 e2) h
   ·cases h
  ·cases h
 ·rename_i a
  split at h
  ·rename_i ht
   obtain ⟨ms,hu⟩:=(ti_ok hT ht).und
   haveI:Und P X (.interface ms):=⟨hu⟩
   split at h
   ·rename_i b
    have e1:=Rd.err_inv hx
    have e2:=Rd.err_inv hy
    cases a with
    | true =>
     cases b with
     | true=>cases h
     | false=>exact evEq_sound (fun _ _ _=>pu_eql_mix (ms:=ms) (.inr ⟨e2,e1⟩)) (fun _ _ _=>pu_neq_mix (ms:=ms) (.inr ⟨e2,e1⟩)) h
    | false =>
     cases b with
     | true=>exact evEq_sound (fun _ _ _=>pu_eql_mix (ms:=ms) (.inl ⟨e1,e2⟩)) (fun _ _ _=>pu_neq_mix (ms:=ms) (.inl ⟨e1,e2⟩)) h
     | false=>cases h
   ·cases h
  ·cases h
 ·split at h
  ·rename_i ht
   obtain ⟨ms,hu⟩:=(ti_ok hT ht).und
   haveI:Und P X (.interface ms):=⟨hu⟩
   split at h
   ·rename_i b
    have e1:=Rd.inil_inv hx
    have e2:=Rd.err_inv hy
    cases b with
    | true=>exact evEq_sound (fun _ _ _=>pu_eql_mix (ms:=ms) (.inl ⟨e1,e2⟩)) (fun _ _ _=>pu_neq_mix (ms:=ms) (.inl ⟨e1,e2⟩)) h
    | false=>cases h
   ·cases h
  ·cases h
 ·split at h
  ·rename_i ht
   obtain ⟨fa,fb,fc,hu⟩:=(ti_ok hT ht).und
   haveI:Und P X (.func fa fb fc):=⟨hu⟩
   split at h
   ·have e1:=Rd.fnl_inv hx
    have e2:=Rd.fnl_inv hy
    exact evEq_sound (fun _ _ _=>pu_eql_ff e1 e2) (fun _ _ _=>pu_neq_ff e1 e2) h
   ·cases h
  ·cases h
 ·split at h
  ·rename_i ht
   obtain ⟨fa,fb,fc,hu⟩:=(ti_ok hT ht).und
   haveI:Und P X (.func fa fb fc):=⟨hu⟩
   split at h
   ·obtain ⟨cs,e1,_⟩:=Rd.clo_inv hx
    have e2:=Rd.fnl_inv hy
    exact evEq_sound (fun _ _ _=>pu_eql_fc e1 e2) (fun _ _ _=>pu_neq_fc e1 e2) h
   ·cases h
  ·cases h
 ·split at h
  ·rename_i ht
   obtain ⟨t0,ht0,hte⟩:=Option.bind_eq_some_iff.1 ht
   have ha:=(ti_ok hT ht0).eqa hte
   split at h
   ·rename_i a h1
    split at h
    ·rename_i b h2
     have e1:=Rd.two_inv h1 hx
     have hy2:RdV F ι (.agg dy.parts) (ev ρ y):=by rw [← parts_inv h2]; exact hy
     have e2:=Rd.two_inv h2 hy2
     exact evEq_sound (fun _ _ _=>pu_eql_attr ha e1 e2) (fun _ _ _=>pu_neq_attr ha e1 e2) h
    ·cases h
   ·cases h
  ·rename_i ht
   obtain ⟨t0,ht0,hte⟩:=Option.bind_eq_some_iff.1 ht
   have ha:=(ti_ok hT ht0).eqs hte
   split at h
   ·rename_i a h1
    split at h
    ·rename_i b h2
     have hx2:RdV F ι (.agg _) (ev ρ x):=hx
     have hy2:RdV F ι (.agg dy.parts) (ev ρ y):=by rw [← parts_inv2 h2]; exact hy
     exact evEq_sound (fun _ _ _=>pu_eql_sel ha (Rd.sel_inv h1 hx2) (Rd.sel_inv h2 hy2)) (fun _ _ _=>pu_neq_sel ha (Rd.sel_inv h1 hx2) (Rd.sel_inv h2 hy2)) h
    ·cases h
   ·cases h
  ·cases h
 ·cases h
theorem atI_some {α:Type} {l:List α} {i:Int} {x:α} (h:atI l i=some x):∃ n:Nat,i=n∧l[n]?=some x∧n<l.length:=by
 unfold atI at h
 split at h
 ·rename_i hi
  exact ⟨i.toNat,by omega,h,(List.getElem?_eq_some_iff.1 h).1⟩
 ·cases h
theorem subL_some {α:Type} {l m:List α} {a b:Int} (h:subL l a b=some m):∃ x y:Nat,a=x∧b=y∧x≤y∧y≤l.length∧m=(l.take y).drop x:=by
 unfold subL at h
 split at h
 ·rename_i hi
  cases h
  exact ⟨a.toNat,b.toNat,by omega,by omega,by omega,by omega,rfl⟩
 ·cases h
theorem bounds_run {isS:Bool} {n cp a b:Nat} {lo hi:Option Operand} (h1:b≤cp) (hlo:∀ y,lo=some y→∃ k,ev ρ y = .int k (a:Int)) (hlo':lo=none→a=0) (hhi:∀ y,hi=some y→∃ k,ev ρ y = .int k (b:Int)) (hhi':hi=none→b=n) (hab:a≤b) (w:World) :
  (Instr.sliceBounds isS n cp (lo.map (ev ρ)) (hi.map (ev ρ)) none).run P w = .ok (a,b,cp) w:=by
 cases lo with
 | none =>
  have:=hlo' rfl
  subst this
  cases hi with
  | none=>have:=hhi' rfl; subst this; simp [Instr.sliceBounds]
  | some y =>
   obtain ⟨k,hy⟩:=hhi y rfl
   simp [Instr.sliceBounds,Instr.sliceBound,asIntOf,hy,h1]
 | some y0 =>
  obtain ⟨k0,hy0⟩:=hlo y0 rfl
  cases hi with
  | none=>have:=hhi' rfl; subst this; simp [Instr.sliceBounds,Instr.sliceBound,asIntOf,hy0,hab]
  | some y =>
   obtain ⟨k,hy⟩:=hhi y rfl
   simp [Instr.sliceBounds,Instr.sliceBound,asIntOf,hy,hy0,h1,hab]
theorem pu_slice_gen {T e:TypeId} [Und P T (.slice e)] {sz:Nat} [Siz P e sz] {x:Operand} {lo hi:Option Operand} {q:Option Addr} {n cp a b:Nat} {ty':TypeId} {hh:Array Obj} (hx:ev ρ x = .slice q n cp)
  (hlo:∀ y,lo=some y→∃ k,ev ρ y = .int k (a:Int)) (hlo':lo=none→a=0) (hhi:∀ y,hi=some y→∃ k,ev ρ y = .int k (b:Int)) (hhi':hi=none→b=n) (hab:a≤b) (hbn:b≤cp) :
  Pu P ρ ⟨dst, .slice T x lo hi none,ty',p,af,gd⟩ hh (.slice (if cp=a then q else q.map (·.add (a*sz))) (b - a) (cp - a)):=⟨fun w _=>by
 have:=bounds_run (P:=P) (isS:=true) hbn hlo hlo' hhi hhi' hab w
 simp [execOp,hx,Instr.sliceAt,Instr.slice,und T w,siz e w,this]⟩
theorem pu_slices_gen {T:TypeId} [Und P T .string] {x:Operand} {lo hi:Option Operand} {l:List UInt8} {a b:Nat} {ty':TypeId} {hh:Array Obj} (hx:ev ρ x=bs l)
  (hlo:∀ y,lo=some y→∃ k,ev ρ y = .int k (a:Int)) (hlo':lo=none→a=0) (hhi:∀ y,hi=some y→∃ k,ev ρ y = .int k (b:Int)) (hhi':hi=none→b=l.length) (hab:a≤b) (hbn:b≤l.length) :
  Pu P ρ ⟨dst, .slice T x lo hi none,ty',p,af,gd⟩ hh (bs ((l.take b).drop a)):=⟨fun w _=>by
 have:=bounds_run (P:=P) (isS:=false) hbn hlo hlo' hhi hhi' hab w
 simp [execOp,hx,Instr.sliceAt,Instr.slice,und T w,size_mk,this,extract_mk]⟩
theorem foldl_put (off:Nat):∀ (l pre post tail:List Value) (k:Nat),post.length=l.length→off+k=pre.length→(l.zipIdx k).foldl (fun (cs:Array Value) (x:Value×Nat)=>cs.setIfInBounds (off+x.2) x.1) (pre++post++tail).toArray=(pre++l++tail).toArray
 | [],pre,post,tail,k,h,_=>by
  have:post=[]:=by simpa using h
  simp [this]
 | c::l,pre,post,tail,k,h,hk=>by
  match post,h with
  | q::post,h =>
   simp only [List.zipIdx_cons,List.foldl_cons]
   have h1:(pre++q::post++tail).toArray.setIfInBounds (off+k) c=((pre++[c])++post++tail).toArray:=by rw [hk]; simp
   rw [h1,foldl_put off l (pre++[c]) post tail (k+1) (by simpa using h) (by simp; omega)]
   simp
theorem fill_step {pl:Nat→Option (Nat×Nat)} {i off size:Nat} {v:Value} {rest:List (Nat×Value)} {zv cs:List Value} (hp:pl i=some (off,size)) (hv:v.cells=cs.toArray) (hl:cs.length=size) (hb:off+size≤zv.length):Instr.fill pl zv.toArray ((i,v)::rest)=Instr.fill pl (zv.take off++cs++zv.drop (off+size)).toArray rest:=by
 have hc:(decide (v.cells.size≠size) || decide (off+v.cells.size > zv.toArray.size))=false:=by rw [hv]; simp [hl]; omega
 have h2:v.cells.zipIdx.foldl (fun (cs:Array Value) (x:Value×Nat)=>cs.setIfInBounds (off+x.2) x.1) zv.toArray=(zv.take off++cs++zv.drop (off+size)).toArray:=by
  have h3:=foldl_put off cs (zv.take off) ((zv.drop off).take size) (zv.drop (off+size)) 0 (by simp; omega) (by simp; omega)
  rw [hv,← h3,← Array.foldl_toList]
  congr 1
  ·rw [List.append_assoc,← List.drop_drop,List.take_append_drop,List.take_append_drop]
  ·simp
 rw [← h2,Instr.fill,hp]
 simp only [hc]
 rw [if_neg (by simp)]
theorem cellB_one (hr:Rel F ι s ρ) (h:RdV F ι d v) (hc:cellB s d=true):v.oneCell'=true∧RdW F ι d v:=by
 unfold cellB at hc
 cases hp:d.plain with
 | true=>exact ⟨(h.to_rd hp).one hp, .of_rd (h.to_rd hp)⟩
 | false =>
  rw [hp,Bool.false_or] at hc
  split at hc
  ·rename_i t b
   obtain ⟨B,g1,g2⟩:=h
   refine ⟨?_,⟨B,g1,g2⟩⟩
   rw [g2]
   cases b <;> rfl
  ·rename_i t
   split at hc
   ·rename_i e T xs hlk
    obtain ⟨q,n,cp,rows,g1,_⟩:=hr.look hlk
    have h':v=(ι t).1:=h
    exact ⟨by rw [h',g1]; rfl,h'⟩
   ·cases hc
  ·cases hc
theorem placed_sound {fs:List (TypeId×Nat)} (hT:CtOK P C) (hr:Rel F ι s ρ):∀ {parts:List (Nat×Operand)} {z ds:List D} {zv:List Value},placed fs C s (parts.map fun q=>(q.1,g s q.2)) z=some ds→(∀ q∈parts,RdV F ι (g s q.2) (ev ρ q.2))→F2 (RdW F ι) z zv →
  ∀ {pl:Nat→Option (Nat×Nat)},(∀ i ft fo,fs[i]?=some (ft,fo)→∀ t,ti C ft=some t→pl i=some (fo,t.size))→∃ cs:List Value,Instr.fill pl zv.toArray (parts.map fun q=>(q.1,ev ρ q.2))=some cs.toArray∧F2 (RdW F ι) ds cs
 | [],z,ds,zv,h,_,hz,pl,_=>by
  cases h
  exact ⟨zv,rfl,hz⟩
 | (i,x)::parts,z,ds,zv,h,hp,hz,pl,hpl=>by
  simp only [List.map_cons,placed] at h
  cases hi:fs[i]? with
  | none=>rw [hi] at h; cases h
  | some q =>
   obtain ⟨ft,fo⟩:=q
   rw [hi] at h
   simp only at h
   cases ht:(C.tb[ft]?).join with
   | none=>rw [ht] at h; cases h
   | some t =>
    rw [ht] at h
    simp only at h
    have hx:=hp (i,x) (by simp)
    have hzl:=forall2_len hz
    have hpi:=hpl i ft fo hi t ht
    split at h
    ·rename_i l hl
     simp only at hx
     rw [hl] at hx
     cases hc:(l.length == t.size && Nat.ble (fo+t.size) z.length && l.all D.plain) with
     | false=>rw [hc] at h; cases h
     | true =>
      rw [hc] at h
      simp only [cond_true] at h
      simp only [Bool.and_eq_true,beq_iff_eq,Nat.ble_eq] at hc
      obtain ⟨cs,hv,hcs⟩:=Rd.agg_inv hx
      obtain ⟨ds',h1,h2⟩:=placed_sound hT hr (zv:=zv.take fo++cs++zv.drop (fo+t.size)) h (fun q hq=>hp q (by simp [hq])) (((hz.take fo).append hcs.f2).append (hz.drop _)) hpl
      refine ⟨ds',?_,h2⟩
      have hcl:=hcs.length
      simp only [List.map_cons]
      rw [fill_step (cs:=cs) hpi (by rw [hv]; rfl) (by omega) (by omega),← h1]
    ·rename_i hna
     cases hc:(t.size == 1 && Nat.blt fo z.length && cellB s (g s x)) with
     | false=>rw [hc] at h; cases h
     | true =>
      rw [hc] at h
      simp only [cond_true] at h
      simp only [Bool.and_eq_true,beq_iff_eq,Nat.blt_eq] at hc
      obtain ⟨hone,hrd⟩:=cellB_one hr hx hc.2
      have hcell:(ev ρ x).cells=#[ev ρ x]:=by
       generalize ev ρ x=v at *
       cases v <;> first | rfl | (simp [Value.oneCell'] at hone; done)
      obtain ⟨ds',h1,h2⟩:=placed_sound hT hr (zv:=zv.set fo (ev ρ x)) h (fun q hq=>hp q (by simp [hq])) (by
       have:=((hz.take fo).append (F2.cons hrd .nil)).append (hz.drop (fo+1))
       rw [List.append_assoc,List.singleton_append] at this
       rw [List.append_assoc,List.singleton_append] at this
       rw [List.set_eq_take_append_cons_drop,if_pos (by omega),List.set_eq_take_append_cons_drop,if_pos (by omega)]
       exact this) hpl
      refine ⟨ds',?_,h2⟩
      simp only [List.map_cons]
      rw [fill_step (cs:=[ev ρ x]) hpi hcell (by simp; omega) (by omega),← h1,hc.1.1,List.set_eq_take_append_cons_drop,if_pos (by omega)]
      simp
theorem ofVals_f2:∀ l:List Value,F2 (RdW F ι) (l.map ofVal) l
 | [] => .nil
 | v::l => .cons (ofVal_rd v) (ofVals_f2 l)
theorem run_mapM {α β:Type} {f:α→Sem β} {gf:α→β} {w:World}:∀ {l:List α},(∀ a∈l,(f a).run P w = .ok (gf a) w)→(l.mapM f).run P w = .ok (l.map gf) w
 | [],_=>by simp [List.mapM_nil]
 | a::l,h=>by
  rw [List.mapM_cons]
  simp [h a (by simp),run_mapM (l:=l) fun b hb=>h b (by simp [hb])]
theorem lst_slice {e:E} {xs:List e.T} {q:Option Addr} {cp a b:Nat} (hr:Rd F [.lst e xs] [.slice q xs.length cp]) (hab:a≤b) (hb:b≤xs.length):Rd F [.lst e ((xs.take b).drop a)] [.slice (if cp=a then q else q.map (·.add (a*e.sz))) (b - a) (cp - a)]:=by
 obtain ⟨q',cp',he,hcp,hat⟩:=hr.at
 cases he
 have hlen:((xs.take b).drop a).length=b - a:=by simp; omega
 rw [← hlen]
 refine Rd.of_at (by rw [hlen]; omega) fun i x hx=>?_
 rw [List.getElem?_drop,List.getElem?_take] at hx
 split at hx
 ·rename_i hi
  obtain ⟨cs,h1,h2,h3⟩:=hat _ _ hx
  have hne:¬ (cp=a):=by
   have:=(List.getElem?_eq_some_iff.1 hx).1
   omega
  rw [if_neg hne]
  rw [h1]
  refine ⟨cs,?_,?_,h3⟩
  ·simp [add_at,blk,offs]
  ·simp only [Option.map_some,add_at,blk,offs,Option.getD_some] at h2 ⊢
   rw [Nat.add_assoc,← Nat.add_mul]
   exact h2
 ·cases hx
theorem NR.get {c:Cl} {T A:TypeId} {hole:Option Nat}:∀ {k:Nat} {hs:List c.R} {hds:List Value} {L:List Blk} {i:Nat} {n:c.R},NR F T A hole k hs hds L→hs[i]?=some n→∃ B cs hd Lv,F.nid (k+i)=some B∧Rd F (c.enc n) cs∧hds[i]?=some hd∧hd.oneCell'=true∧(B,cs++[hd],BT.c T)∈L∧(∀ q∈Lv,q∈L)∧(hole≠some (k+i)→LsR F c A n hd Lv)
 | _,_,_,_,i,n, .nil,h=>by simp at h
 | k,_,_,_,0,n, .cons (Lv:=Lv) hB hc h1 ha hh t,h=>by
  simp at h
  subst h
  exact ⟨_,_,_,Lv,hB,hc,rfl,h1,by simp,fun q hq=>by simp [hq],ha⟩
 | k,_,_,_,i+1,n, .cons hB hc h1 ha hh t,h=>by
  obtain ⟨B,cs,hd,Lv,a,b,c,d,e,f,g⟩:=t.get (i:=i) (by simpa using h)
  rw [show k+1+i=k+(i+1) by omega] at a g
  exact ⟨B,cs,hd,Lv,a,b,by simpa using c,d,by simp [e],fun q hq=>by simp [f q hq],g⟩
theorem nodes_at {c:Cl} {own:Bool} {hs:List c.R} {i B:Nat} {n:c.R} (hr:Rel F ι s ρ) (hn:s.nodes=some (own,⟨c,hs⟩)) (hi:hs[i]?=some n) (hB:F.nid i=some B):∃ cs c9,Rd F (c.enc n) cs∧(∀ hh,Hp hh F (lv ι s.ow++L0)→cellsFrom hh B 0 (cs++[c9]))∧(own=true→RdV F ι (.na i) c9)∧(own=false→Rd F [.lst c.e (c.xs n)] [c9]):=by
 unfold St.nodes at hn
 split at hn
 ·rename_i c' hs' hl
  cases hn
  obtain ⟨B',cs,h1,h2,h3⟩:=(hr.look hl).2 i n hi
  rw [hB] at h1
  cases h1
  have hcl:=h3.length
  obtain ⟨l9,c9,rfl⟩:∃ l9 c9,cs=l9++[c9]:=⟨cs.dropLast,cs.getLast (by intro e; rw [e] at hcl; simp [Cl.enc_len] at hcl),by rw [List.dropLast_concat_getLast]⟩
  have h9:l9.length=c.n:=by simp [Cl.enc_len] at hcl; omega
  have ha:=h3.take c.n
  have hb:=h3.drop c.n
  rw [List.take_left' (Cl.enc_len n),List.take_left' h9] at ha
  rw [List.drop_left' (Cl.enc_len n),List.drop_left' h9] at hb
  exact ⟨l9,c9,ha,fun hh hm=>hm.cells h2,fun h=>(by cases h),fun _=>hb⟩
 ·split at hn
  ·rename_i c' T A hs' hole hl
   cases hn
   obtain ⟨_,hds,h1,h2,h3⟩:=hr.look hl
   obtain ⟨B',cs,hd,Lv,a,b,c,d,e,f,g⟩:=h2.get hi
   rw [Nat.zero_add,hB] at a
   cases a
   refine ⟨cs,hd,b,fun hh hm=>?_,fun _=>⟨hds,h1,c⟩,fun h=>(by cases h)⟩
   obtain ⟨fz,_,this⟩:=(hm.own _ (List.mem_append_left _ (lv_mem hl e))).cells
   exact cells_of_row (cs++[hd]) [] [] 0 (by simpa using this) rfl
  ·cases hn
theorem na_at {c:Cl} {T A:TypeId} {hs:List c.R} {i:Nat} {n:c.R} (hr:Rel F ι s ρ) (hl:s.look NT=some (.nodes c T A hs none)) (hi:hs[i]?=some n) (hv:RdV F ι (.na i) v):∃ q n' cp rows Lv,v = .slice q n' cp∧n'=(c.xs n).length∧SlO c.e.sz A q n' cp Lv rows∧F2 (fun x r=>Rd F (c.e.enc x) r) (c.xs n) rows∧∀ {h:Array Obj} {L0:List Blk},Hp h F (lv ι s.ow++L0)→∀ p∈Lv,isB h[p.1]? p:=by
 obtain ⟨hds,h1,h2⟩:=hv
 obtain ⟨_,hds',h3,h4,h5⟩:=hr.look hl
 rw [h1] at h3
 have h3:hds=hds':=by simpa using h3
 subst h3
 obtain ⟨B',cs,hd,Lv,a,b,c',d,e,f,g⟩:=h4.get hi
 obtain ⟨q,n',cp,rows,Lv',g1,g2,g3,g4⟩:=g (by simp)
 rw [h2] at c'
 cases c'
 refine ⟨q,n',cp,rows,Lv',g1,by rw [g2.len,← forall2_len g3],g2,g3,fun {hh L0} hm p hp=>?_⟩
 rcases g4 with ⟨_,rfl⟩ | ⟨_,_,g4⟩
 ·exact hm.own _ (List.mem_append_left _ (lv_mem hl (f p hp)))
 ·exact (g4 p hp).frz hm
theorem cellsFrom_left {h:Array Obj} {B:Nat}:∀ {cs ds:List Value} {off:Nat},cellsFrom h B off (cs++ds)→cellsFrom h B off cs
 | [],_,_,_=>trivial
 | _::_,_,_,hc=>⟨hc.1,cellsFrom_left hc.2⟩
set_option maxHeartbeats 2000000 in
theorem evPure_sound {K:D→Option R} {o:Op} (hT:CtOK P C) (hgl:Gl F.m) (hr:Rel F ι s ρ) (h:evPure C s o K=some r):∃ v d,(∀ h,Hp h F (lv ι s.ow++L0)→Pu P ρ ⟨dst,o,ty,p,af,gd⟩ h v)∧RdV F ι d v∧K d=some r:=by
 unfold evPure at h
 split at h
 ·exact ⟨_,_,fun _ _=>pu_move rfl,g_rd hr _,h⟩
 ·exact ⟨_,_,fun _ _=>pu_assign rfl,g_rd hr _,h⟩
 ·rename_i c x y
  split at h
  ·rename_i b hb
   have hc:=g_rd hr c
   rw [hb] at hc
   have hc:=Rd.bool_inv hc
   cases b with
   | true=>exact ⟨_,_,fun _ _=>pu_pick_t hc rfl,g_rd hr x,h⟩
   | false=>exact ⟨_,_,fun _ _=>pu_pick_f hc rfl,g_rd hr y,h⟩
  ·cases h
 ·rename_i op X x y Y
  split at h
  ·split at h
   ·rename_i hg
    split at h
    ·rename_i ht
     obtain ⟨ms,hu⟩:=(ti_ok hT ht).und
     haveI:Und P X (.interface ms):=⟨hu⟩
     have hx:=g_rd hr x
     rw [hg] at hx
     have e1:=Rd.inil_inv hx
     obtain ⟨v,d,h1,h2,h3⟩:=evEq_sound (P:=P) (dst:=dst) (ty:=ty) (p:=p) (af:=af) (gd:=gd) (X:=X) (U:=Y) (x:=x) (y := .const .nilIface) (b:=true) (fun _ _ _=>pu_eql_ii e1) (fun _ _ _=>pu_neq_ii e1) h
     exact ⟨v,d,fun h hm=>h1 h _ hm,h2,h3⟩
    ·cases h
   ·rename_i b hg
    split at h
    ·rename_i ht
     obtain ⟨ms,hu⟩:=(ti_ok hT ht).und
     haveI:Und P X (.interface ms):=⟨hu⟩
     have hx:=g_rd hr x
     rw [hg] at hx
     have e1:=Rd.err_inv hx
     cases b with
     | true =>
      obtain ⟨tx,u,e1⟩:=e1
      obtain ⟨v,d,h1,h2,h3⟩:=evEq_sound (P:=P) (dst:=dst) (ty:=ty) (p:=p) (af:=af) (gd:=gd) (X:=X) (U:=Y) (x:=x) (y := .const .nilIface) (b:=false) (fun _ _ _=>pu_eql_in e1) (fun _ _ _=>pu_neq_in e1) h
      exact ⟨v,d,fun h hm=>h1 h _ hm,h2,h3⟩
     | false =>
      have e1:ev ρ x = .nilIface:=e1
      obtain ⟨v,d,h1,h2,h3⟩:=evEq_sound (P:=P) (dst:=dst) (ty:=ty) (p:=p) (af:=af) (gd:=gd) (X:=X) (U:=Y) (x:=x) (y := .const .nilIface) (b:=true) (fun _ _ _=>pu_eql_ii e1) (fun _ _ _=>pu_neq_ii e1) h
      exact ⟨v,d,fun h hm=>h1 h _ hm,h2,h3⟩
    ·cases h
   ·rename_i T0 l0 hg
    split at h
    ·rename_i ht
     obtain ⟨ms,hu⟩:=(ti_ok hT ht).und
     haveI:Und P X (.interface ms):=⟨hu⟩
     have hx:=g_rd hr x
     rw [hg] at hx
     obtain ⟨cs0,e1,_⟩:=Rd.ifc_inv hx
     obtain ⟨v,d,h1,h2,h3⟩:=evEq_sound (P:=P) (dst:=dst) (ty:=ty) (p:=p) (af:=af) (gd:=gd) (X:=X) (U:=Y) (x:=x) (y := .const .nilIface) (b:=false) (fun _ _ _=>pu_eql_in e1) (fun _ _ _=>pu_neq_in e1) h
     exact ⟨v,d,fun h hm=>h1 h _ hm,h2,h3⟩
    ·cases h
   ·rename_i f t ds hg
    split at h
    ·rename_i ht
     cases hf:isIf C f with
     | false=>rw [hf] at h; cases h
     | true =>
      rw [hf] at h
      obtain ⟨ms,hu⟩:=(ti_ok hT ht).und
      haveI:Und P X (.interface ms):=⟨hu⟩
      have hx:=g_rd hr x
      rw [hg] at hx
      obtain ⟨B,cs,_,e1,_⟩:=hx
      obtain ⟨T1,rfl⟩:=isIf_ok hf
      have e1:=e1.of_if
      obtain ⟨v,d,h1,h2,h3⟩:=evEq_sound (P:=P) (dst:=dst) (ty:=ty) (p:=p) (af:=af) (gd:=gd) (X:=X) (U:=Y) (x:=x) (y := .const .nilIface) (b:=false) (fun _ _ _=>pu_eql_in e1) (fun _ _ _=>pu_neq_in e1) h
      exact ⟨v,d,fun h hm=>h1 h _ hm,h2,h3⟩
    ·cases h
   ·cases h
  ·split at h
   ·rename_i et _ _ _ _ _ ht
    haveI:Und P X (.slice et):=⟨(ti_ok hT ht).und⟩
    split at h
    ·rename_i hg
     have hx:=g_rd hr x
     rw [hg] at hx
     have e1:=Rd.nil_inv hx
     obtain ⟨v,d,h1,h2,h3⟩:=evEq_sound (P:=P) (dst:=dst) (ty:=ty) (p:=p) (af:=af) (gd:=gd) (X:=X) (U:=Y) (x:=x) (y := .const (.slice none 0 0)) (b:=true) (fun _ _ _=>pu_eql_ss (e:=et) e1) (fun _ _ _=>pu_neq_ss (e:=et) e1) h
     exact ⟨v,d,fun h hm=>h1 h _ hm,h2,h3⟩
    ·rename_i t hg
     have hx:=g_rd hr x
     rw [hg] at hx
     split at h
     ·rename_i eE eT xs hlk
      cases hxs:decide ((xs.length:Int)=0) with
      | true=>rw [hxs] at h; cases h
      | false =>
       rw [hxs] at h
       simp only [cond_false] at h
       have hne:¬ (xs.length:Int)=0:=by simpa using hxs
       obtain ⟨q,n',cp,rows,g1,g2,g3⟩:=hr.look hlk
       have hn0:n'≠0:=by have:=forall2_len g3; rw [g2.len]; omega
       have hq:q.isNone=false:=by
        rcases g2.sh with ⟨he,_,_⟩ | ⟨_,_,_,_,he,_,_,_,_⟩
        ·cases he; exact absurd rfl hn0
        ·cases he; rfl
       have e1:ev ρ x = .slice q n' cp:=by have:ev ρ x=(ι t).1:=hx; rw [this,g1]
       obtain ⟨v,d,h1,h2,h3⟩:=evEq_sound (P:=P) (dst:=dst) (ty:=ty) (p:=p) (af:=af) (gd:=gd) (X:=X) (U:=Y) (x:=x) (y := .const (.slice none 0 0)) (b:=false) (fun _ _ _=>hq ▸ pu_eql_ss (e:=et) e1) (fun _ _ _=>by have:=pu_neq_ss (P:=P) (ρ:=ρ) (dst:=dst) (ty:=ty) (p:=p) (af:=af) (gd:=gd) (T:=X) (U:=Y) (e:=et) (x:=x) (h:=‹_›) e1; rwa [hq] at this) h
       exact ⟨v,d,fun h hm=>h1 h _ hm,h2,h3⟩
     ·cases h
    ·cases h
   ·cases h
  ·split at h
   ·rename_i kt vt _ _ _ _ _ ht
    haveI:Und P X (.map kt vt):=⟨(ti_ok hT ht).und⟩
    split at h
    ·rename_i hg
     have hx:=g_rd hr x
     rw [hg] at hx
     have e1:=Rd.mnil_inv hx
     obtain ⟨v,d,h1,h2,h3⟩:=evEq_sound (P:=P) (dst:=dst) (ty:=ty) (p:=p) (af:=af) (gd:=gd) (X:=X) (U:=Y) (x:=x) (y := .const (.map none)) (b:=true) (fun _ _ _=>pu_eql_map e1 rfl) (fun _ _ _=>pu_neq_map e1 rfl) h
     exact ⟨v,d,fun h hm=>h1 h _ hm,h2,h3⟩
    ·rename_i t hg
     have hx:=g_rd hr x
     rw [hg] at hx
     split at h
     ·rename_i l hlk
      obtain ⟨B,cs,g1,_,_⟩:=hr.look hlk
      have e1:ev ρ x = .map (some B):=by have:ev ρ x=(ι t).1:=hx; rw [this,g1]
      obtain ⟨v,d,h1,h2,h3⟩:=evEq_sound (P:=P) (dst:=dst) (ty:=ty) (p:=p) (af:=af) (gd:=gd) (X:=X) (U:=Y) (x:=x) (y := .const (.map none)) (b:=false) (fun _ _ _=>pu_eql_map e1 rfl) (fun _ _ _=>pu_neq_map e1 rfl) h
      exact ⟨v,d,fun h hm=>h1 h _ hm,h2,h3⟩
     ·cases h
    ·cases h
   ·cases h
  ·obtain ⟨v,d,h1,h2,h3⟩:=evBin_sound (P:=P) (dst:=dst) (ty:=ty) (p:=p) (af:=af) (gd:=gd) (X:=X) (U:=Y) (g_rd hr x) (g_rd hr y) hT h
   exact ⟨v,d,fun h hm=>h1 h _ hm,h2,h3⟩
 ·rename_i T x
  split at h
  ·rename_i b hb
   have hc:=g_rd hr x
   rw [hb] at hc
   exact ⟨_,_,fun _ _=>pu_not (Rd.bool_inv hc), .of_rd (.bool .nil),h⟩
  ·cases h
 ·rename_i T x
  split at h
  ·rename_i k n hb
   have hc:=g_rd hr x
   rw [hb] at hc
   exact ⟨_,_,fun _ _=>pu_neg (Rd.int_inv hc), .of_rd (.int .nil),h⟩
  ·cases h
 ·rename_i x i
  split at h
  ·rename_i l hl
   split at h
   ·rename_i d hd
    have hx:=g_rd hr x
    rw [hl] at hx
    obtain ⟨vs,h1,h2⟩:=hx
    obtain ⟨v,hv,hvr⟩:=forall2_get h2 hd
    exact ⟨v,d,fun _ _=>pu_extract h1 (by simpa using hv), .of_w hvr,h⟩
   ·cases h
  ·cases h
 ·rename_i T x y
  split at h
  ·rename_i ht
   split at h
   ·rename_i l hl
    split at h
    ·rename_i k i hi
     have hx:=g_rd hr x
     have hy:=g_rd hr y
     rw [hl] at hx
     rw [hi] at hy
     have hx:=Rd.str_inv hx
     have hy:=Rd.int_inv hy
     obtain ⟨c,hc,hk1⟩:=Option.bind_eq_some_iff.1 h
     obtain ⟨n,rfl,hn,hlt⟩:=atI_some hc
     haveI:Und P T .string:=⟨(ti_ok hT ht).und⟩
     have hgd:l.getD n 0=c:=by rw [List.getD_eq_getElem?_getD,hn]; rfl
     exact ⟨_,_,fun _ _=>(by rw [← hgd]; exact pu_index hx hy hlt:Pu P ρ _ _ (.int .u8 (c.toNat:Int))), .of_rd (.int .nil),hk1⟩
    ·cases h
   ·cases h
  ·cases h
 ·rename_i T x y
  split at h
  ·rename_i et _ _ _ _ _ ht
   split at h
   ·rename_i te hte
    split at h
    ·rename_i k i hi
     have hy:=g_rd hr y
     rw [hi] at hy
     have hy:=Rd.int_inv hy
     have hx:=g_rd hr x
     haveI:Und P T (.slice et):=⟨(ti_ok hT ht).und⟩
     split at h
     ·rename_i e xs hl
      rw [hl] at hx
      cases hz:(te.size == e.sz) with
      | false=>rw [hz] at h; cases h
      | true =>
       rw [hz] at h
       simp only [cond_true] at h
       have hz:te.size=e.sz:=by simpa using hz
       haveI:Siz P et e.sz:=⟨fun w=>by rw [← hz]; exact (ti_ok hT hte).siz w⟩
       obtain ⟨c,hc,hk1⟩:=Option.bind_eq_some_iff.1 h
       obtain ⟨n,rfl,hn,hlt⟩:=atI_some hc
       obtain ⟨q,cp,hv,hcp,hat⟩:=Rd.at hx
       obtain ⟨cs,h1,h2,h3⟩:=hat _ _ hn
       exact ⟨_,_,fun _ _=>pu_indexAddrQ hv hy hlt h1, .of_rd (by
        have:=Rd.fp (F:=F) (off:=0) (ds:=[]) (vs:=[]) h2 h3 .nil
        exact this),hk1⟩
     ·rename_i t hl
      split at h
      ·rename_i e T' xs hlk
       rw [hl] at hx
       cases hz:(te.size == e.sz) with
       | false=>rw [hz] at h; cases h
       | true =>
        rw [hz] at h
        simp only [cond_true] at h
        have hz:te.size=e.sz:=by simpa using hz
        haveI:Siz P et e.sz:=⟨fun w=>by rw [← hz]; exact (ti_ok hT hte).siz w⟩
        obtain ⟨c,hc,hk1⟩:=Option.bind_eq_some_iff.1 h
        obtain ⟨n,rfl,hn,hlt⟩:=atI_some hc
        obtain ⟨q,m,cp,rows,g1,g2,g3⟩:=hr.look hlk
        have hx:ev ρ x=(ι t).1:=hx
        rw [g1] at hx
        have hml:m=xs.length:=by rw [g2.len,← forall2_len g3]
        rcases g2.sh with ⟨he,_,hv⟩ | ⟨B,n',cap,spare,he,hL,_,_,_⟩
        ·have hz:m=0:=by cases he; rfl
         omega
        ·cases he
         refine ⟨_,_,fun _ _=>pu_indexAddr (B:=B) (off:=0) hx hy (by omega), .of_w (RdW.mkoe g1 ?_),hk1⟩
         simp
      ·cases h
     ·rename_i j hl
      rw [hl] at hx
      split at h
      ·rename_i cl T0 A hs hlk
       cases hz:(te.size == cl.e.sz) with
       | false=>rw [hz] at h; cases h
       | true =>
        rw [hz] at h
        simp only [cond_true] at h
        have hz:te.size=cl.e.sz:=by simpa using hz
        haveI:Siz P et cl.e.sz:=⟨fun w=>by rw [← hz]; exact (ti_ok hT hte).siz w⟩
        obtain ⟨nd,hnd,h⟩:=Option.bind_eq_some_iff.1 h
        obtain ⟨c,hc,hk1⟩:=Option.bind_eq_some_iff.1 h
        obtain ⟨n,rfl,hn,hlt⟩:=atI_some hc
        obtain ⟨q,n',cp,rows,Lv,e1,e2,e3,e4,e5⟩:=na_at hr hlk hnd hx
        rcases e3.sh with ⟨he,_,hv⟩ | ⟨B,n'',cap,spare,he,hL,_,_,_⟩
        ·have:n'=0:=by cases he; rfl
         omega
        ·cases he
         obtain ⟨hds,g1,g2⟩:=hx
         refine ⟨_,_,fun _ _=>pu_indexAddr (B:=B) (off:=0) e1 hy (by omega), .of_w (RdW.mknae g1 (by rw [g2,e1]) (by simp)),hk1⟩
      ·cases h
     ·cases h
    ·cases h
   ·cases h
  ·cases h
 ·rename_i T x i
  split at h
  ·rename_i fs _ _ _ _ _ ht
   split at h
   ·rename_i ft fo hf
    split at h
    ·rename_i t hft
     cases hz:(Nat.blt 0 t.size) with
     | false=>rw [hz] at h; cases h
     | true =>
      rw [hz] at h
      simp only [cond_true] at h
      have hz:0<t.size:=by simpa [Nat.blt_eq] using hz
      haveI:=fld_of (ti_ok hT ht).und hf
      have hsz:∀ w,(sizeOf ft).run P w = .ok (t.size - 1+1) w:=fun w=>by rw [show t.size - 1+1=t.size by omega]; exact (ti_ok hT hft).siz w
      have hx:=g_rd hr x
      split at h
      ·rename_i ds off hl
       rw [hl] at hx
       obtain ⟨B,o,cs,hv,h1,h2⟩:=Rd.fp_inv hx
       exact ⟨_,_,fun _ _=>pu_fieldAddr hv hsz, .of_rd (by rw [Nat.add_assoc]; exact .fp h1 h2 .nil),h⟩
      ·rename_i t' off hl
       rw [hl] at hx
       obtain ⟨B,h1,hv⟩:=hx
       exact ⟨_,_,fun _ _=>pu_fieldAddr hv hsz, .of_w (RdW.mkop h1),h⟩
      ·rename_i t' z j off hl
       rw [hl] at hx
       obtain ⟨B,n,cp,h1,hv⟩:=hx
       exact ⟨_,_,fun _ _=>pu_fieldAddr hv hsz, .of_w (RdW.mkoe h1 (by rw [Nat.add_assoc])),h⟩
      ·rename_i o hl
       rw [hl] at hx
       obtain ⟨i0,rfl,h⟩:=Option.bind_eq_some_iff.1 h
       obtain ⟨B,hB,hv⟩:=Rd.npS_inv hx
       exact ⟨_,_,fun _ _=>pu_fieldAddr hv hsz, .of_w (RdW.mknf hB (by rw [Nat.zero_add])),h⟩
      ·rename_i z0 i0 j0 off hl
       rw [hl] at hx
       obtain ⟨hd,B,n,cp,g1,g2,hv⟩:=hx
       exact ⟨_,_,fun _ _=>pu_fieldAddr hv hsz, .of_w (RdW.mknae g1 g2 (by rw [Nat.add_assoc])),h⟩
      ·rename_i i0 off hl
       rw [hl] at hx
       obtain ⟨B,hB,hv⟩:=hx
       exact ⟨_,_,fun _ _=>pu_fieldAddr hv hsz, .of_w (RdW.mknf hB rfl),h⟩
      ·cases h
    ·cases h
   ·cases h
  ·cases h
 ·rename_i T n
  split at h
  ·rename_i zv by_ el ht
   split at h
   ·rename_i hg
    obtain ⟨T0,z,u,v,e1⟩:=gl_ok hgl hg
    haveI:Agg P T false:=⟨(ti_ok hT ht).agg⟩
    refine ⟨.iface u v, .err true,fun hh hm=>pu_load (q:=⟨n,0,none⟩) rfl ?_, .of_rd (.err (b:=true) ⟨_,_,rfl⟩ .nil),h⟩
    exact hm.cell (by simp [cellF,e1])
   ·cases h
  ·rename_i k0 v0 zv by_ el ht
   split at h
   ·rename_i l hg
    obtain ⟨T0,z,b,es,c,e1,e2,_⟩:=gl_ok hgl hg
    haveI:Agg P T false:=⟨(ti_ok hT ht).agg⟩
    refine ⟨.map (some b), .gm n,fun hh hm=>pu_load (q:=⟨n,0,none⟩) rfl ?_, .of_rd (.gm ⟨_,_,e1⟩ .nil),h⟩
    exact hm.cell (by simp [cellF,e1])
   ·cases h
  ·cases h
 ·rename_i T x hxg
  split at h
  ·rename_i t ht
   have hk:=ti_ok hT ht
   have hx:=g_rd hr x
   split at h
   ·rename_i ds off hl
    rw [hl] at hx
    obtain ⟨B,o,cs,hv,h1,h2⟩:=Rd.fp_inv hx
    exact rdCells_sound (P:=P) (s:=s) hk h2.f2 hv (fun hh hm=>hm.cells h1) h
   ·rename_i b off hl
    rw [hl] at hx
    split at h
    ·rename_i T' ds hlk
     obtain ⟨B,h1,hv⟩:=hx
     obtain ⟨B',cs,g1,g2,g3⟩:=hr.look hlk
     rw [h1] at g1
     cases g1
     refine rdCells_sound (P:=P) (s:=s) (o:=0) hk g3 (by simpa using hv) (fun hh hm=>?_) h
     obtain ⟨fz,_,this⟩:=(hm.own (B,cs,BT.c T') (List.mem_append_left _ (lv_mem hlk (by rw [g2]; simp)))).cells
     exact cells_of_row cs [] [] 0 (by simpa using this) rfl
    ·cases h
   ·rename_i b z i off hl
    rw [hl] at hx
    split at h
    ·rename_i e T' xs hlk
     cases hz:(z == e.sz) with
     | false=>rw [hz] at h; cases h
     | true =>
      rw [hz] at h
      simp only [cond_true] at h
      have hz:z=e.sz:=by simpa using hz
      subst hz
      obtain ⟨v,hv,hk1⟩:=Option.bind_eq_some_iff.1 h
      obtain ⟨B,n,cp,h1,hv'⟩:=hx
      obtain ⟨q,m,cp',rows,g1,g2,g3⟩:=hr.look hlk
      rw [h1] at g1
      cases g1
      obtain ⟨row,hrow,hrd⟩:=forall2_get g3 hv
      exact rdCells_sound (P:=P) (s:=s) hk hrd.f2 hv' (fun hh hm=>row_cells g2 hrow fun p hp=>hm.own p (List.mem_append_left _ (lv_mem hlk hp))) hk1
    ·cases h
   ·rename_i i0 off hl
    rw [hl] at hx
    obtain ⟨B,hB,hv⟩:=hx
    split at h
    ·rename_i own cl hs hn
     cases h9:(off == cl.n) with
     | true =>
      have h9':off=cl.n:=by simpa using h9
      subst h9'
      rw [h9] at h
      simp only [cond_true] at h
      cases ha:t.agg with
      | true=>rw [ha] at h; cases h
      | false =>
       rw [ha] at h
       simp only [cond_false] at h
       haveI:Agg P T false:=⟨fun w=>by rw [hk.agg w,ha]⟩
       obtain ⟨n,hi,h⟩:=Option.bind_eq_some_iff.1 h
       obtain ⟨cs,c9,g1,g2,g3,g4⟩:=nodes_at (L0:=L0) hr hn hi hB
       have hcl:cs.length=cl.n:=by rw [g1.length,Cl.enc_len]
       have hld:∀ hh,Hp hh F (lv ι s.ow++L0)→Pu P ρ ⟨dst, .load T x,ty,p,af,gd⟩ hh c9:=fun hh hm=>pu_load hv (by
        have:=cellsFrom_get (g2 hh hm) (i:=cl.n) (v:=c9) (by rw [List.getElem?_append_right (by omega),hcl,Nat.sub_self]; rfl)
        rwa [Nat.zero_add] at this)
       cases own with
       | true=>exact ⟨c9,_,hld,g3 rfl,h⟩
       | false=>exact ⟨c9,_,hld, .of_rd (g4 rfl),h⟩
     | false =>
      rw [h9] at h
      simp only [cond_false] at h
      obtain ⟨n,hi,h⟩:=Option.bind_eq_some_iff.1 h
      obtain ⟨cs,c9,g1,g2,g3,g4⟩:=nodes_at (L0:=L0) hr hn hi hB
      exact rdCells_sound (P:=P) (s:=s) (o:=0) hk g1.f2 (by simpa using hv) (fun hh hm=>cellsFrom_left (g2 hh hm)) h
    ·cases h
   ·rename_i z0 i0 j0 off hl
    rw [hl] at hx
    split at h
    ·rename_i cl T0 A hs hlk
     cases hz:(z0 == cl.e.sz) with
     | false=>rw [hz] at h; cases h
     | true =>
     rw [hz] at h
     simp only [cond_true] at h
     have hz:z0=cl.e.sz:=by simpa using hz
     subst hz
     obtain ⟨n,hi,h⟩:=Option.bind_eq_some_iff.1 h
     obtain ⟨a,ha,h⟩:=Option.bind_eq_some_iff.1 h
     obtain ⟨hds,B,n',cp,g1,g2,hv⟩:=hx
     obtain ⟨q,n'',cp',rows,Lv,e1,e2,e3,e4,e5⟩:=na_at hr hlk hi ⟨hds,g1,g2⟩
     cases e1
     obtain ⟨row,hrow,hrd⟩:=forall2_get e4 ha
     exact rdCells_sound (P:=P) (s:=s) hk hrd.f2 hv (fun hh hm=>row_cells e3 hrow fun p hp=>e5 hm p hp) h
    ·cases h
   ·cases h
  ·cases h
 ·rename_i x
  have hx:=g_rd hr x
  split at h
  ·rename_i ds off hl
   rw [hl] at hx
   obtain ⟨B,o,cs,hv,h1,h2⟩:=Rd.fp_inv hx
   exact ⟨_,_,fun _ _=>pu_nilCheck_p hv, .of_rd (.fp h1 h2 .nil),h⟩
  ·rename_i t off hl
   rw [hl] at hx
   obtain ⟨B,h1,hv⟩:=hx
   exact ⟨_,_,fun _ _=>pu_nilCheck_p hv, .of_w (RdW.mkop h1),h⟩
  ·rename_i o hl
   rw [hl] at hx
   obtain ⟨i0,rfl,h⟩:=Option.bind_eq_some_iff.1 h
   obtain ⟨B,hB,hv⟩:=Rd.npS_inv hx
   exact ⟨_,_,fun _ _=>pu_nilCheck_p hv, .of_rd (.npS hB .nil),h⟩
  ·rename_i z0 i0 j0 off hl
   rw [hl] at hx
   obtain ⟨hd,B,n,cp,g1,g2,hv⟩:=hx
   exact ⟨_,_,fun _ _=>pu_nilCheck_p hv, .of_w (RdW.mknae g1 g2 rfl),h⟩
  ·rename_i o hl
   rw [hl] at hx
   obtain ⟨q0,rfl,h⟩:=Option.bind_eq_some_iff.1 h
   obtain ⟨hd,B,n,cp,g1,g2,hv⟩:=hx
   exact ⟨_,_,fun _ _=>pu_nilCheck_p hv, .of_w (RdW.mknae g1 g2 (by omega)),h⟩
  ·rename_i i0 off hl
   rw [hl] at hx
   obtain ⟨B,hB,hv⟩:=hx
   exact ⟨_,_,fun _ _=>pu_nilCheck_p hv, .of_w (RdW.mknf hB rfl),h⟩
  ·rename_i t z i0 off hl
   rw [hl] at hx
   obtain ⟨B,n,cp,g1,hv⟩:=hx
   exact ⟨_,_,fun _ _=>pu_nilCheck_p hv, .of_w (RdW.mkoe g1 rfl),h⟩
  ·rename_i f t ds hl
   rw [hl] at hx
   cases hc:isMt C f with
   | false=>rw [hc] at h; cases h
   | true =>
    rw [hc] at h
    obtain ⟨T1,c1,m,rfl,hc1,hm⟩:=isMt_ok hT hc
    obtain ⟨B,cs,e1,e2,e3⟩:=hx
    have e2':=e2
    have e2:=e2.of_mt hc1
    obtain ⟨k,hk⟩:=types_succ P
    have hna:=nilAhead_run hm k (.pointer (some ⟨B,0,none⟩))
    refine ⟨ev ρ x,_,fun _ _=>⟨fun w _=>?_⟩, .of_w (show RdW F ι (.clov (mtN T1 c1) t ds) _ from ⟨B,cs,e1,e2',e3⟩),h⟩
    simp [execOp,e2,hk,hna]
  ·cases h
 ·rename_i T x i
  split at h
  ·rename_i fs _ _ _ _ _ ht
   split at h
   ·rename_i ft fo hf
    split at h
    ·rename_i t hft
     have hk:=ti_ok hT hft
     have hx:=g_rd hr x
     split at h
     ·rename_i ds hl
      rw [hl] at hx
      obtain ⟨cs,hv,hcs⟩:=Rd.agg_inv hx
      haveI:=fld_of (ti_ok hT ht).und hf
      unfold rdCells at h
      cases ha:t.agg with
      | true =>
       rw [ha] at h
       cases h
      | false =>
       rw [ha] at h
       simp only [cond_false] at h
       cases hd:ds[fo]? with
       | none=>rw [hd] at h; cases h
       | some d =>
        rw [hd] at h
        obtain ⟨v,hv',hrd⟩:=Rd.get hcs hd
        haveI:Agg P ft false:=⟨fun w=>by rw [hk.agg w,ha]⟩
        exact ⟨v,d,fun _ _=>pu_field hv hv', .of_rd hrd,h⟩
     ·cases h
    ·cases h
   ·cases h
  ·cases h
 ·rename_i T parts
  split at h
  ·rename_i fs sz ag z by_ el ht
   cases hall:(fs.all fun f=>(C.tb[f.1]?).join.isSome) with
   | false=>rw [hall] at h; cases h
   | true =>
    rw [hall] at h
    simp only [cond_true] at h
    split at h
    ·rename_i ds hp
     have hk:=ti_ok hT ht
     obtain ⟨a,hu,hfs⟩:=hk.und
     have hz:F2 (RdW F ι) (z.cells.toList.map ofVal) z.cells.toList:=ofVals_f2 _
     have hsz:∀ f∈a.toList,∃ t,ti C f.type=some t:=fun f hf=>by
      have h1:=List.all_eq_true.1 hall (f.type,f.offset) (by rw [hfs]; exact List.mem_map.2 ⟨f,hf,rfl⟩)
      obtain ⟨t,ht⟩:=Option.isSome_iff_exists.1 h1
      exact ⟨t,ht⟩
     let gf:Field→Nat×Nat:=fun f=>(f.offset,((ti C f.type).map (·.size)).getD 0)
     have hrun:∀ w,(a.mapM (m:=Sem) fun f=>do pure (f.offset,← sizeOf f.type)).run P w = .ok (a.toList.map gf).toArray w:=fun w=>by
      rw [Array.mapM_eq_mapM_toList]
      have:=run_mapM (P:=P) (f:=fun f:Field=>(do pure (f.offset,← sizeOf f.type):Sem (Nat×Nat))) (gf:=gf) (w:=w) (l:=a.toList) fun f hf=>by
       obtain ⟨t,ht⟩:=hsz f hf
       simp [(ti_ok hT ht).siz w,gf,ht]
      simp only [map_eq_pure_bind,Sem.run_bind,Sem.run_pure] at this ⊢
      rw [this]
      rfl
     obtain ⟨cs,h1,h2⟩:=placed_sound (ι:=ι) (F:=F) (ρ:=ρ) (parts:=parts.toList) (zv:=z.cells.toList) hT hr hp (fun q _=>g_rd hr q.2) hz (pl:=fun i=>(a.toList.map gf).toArray[i]?) (fun i ft fo hi t ht=>by
      rw [hfs,List.getElem?_map] at hi
      cases hf:a.toList[i]? with
      | none=>rw [hf] at hi; cases hi
      | some f =>
       rw [hf] at hi
       cases hi
       simp only [List.getElem?_toArray,List.getElem?_map,hf,Option.map_some,gf,ht,Option.getD_some])
     have run:∀ h',Pu P ρ ⟨dst, .build T parts,ty,p,af,gd⟩ h' (.agg cs.toArray):=fun _=>⟨fun w _=>by
      have hz0:=hk.zer w
      simp only at hz0
      have h1':Instr.fill (fun i=>(a.toList.map gf).toArray[i]?) z.cells (parts.toList.map fun q=>(q.1,ev ρ q.2))=some cs.toArray:=by simpa using h1
      simp only [execOp,Instr.build,Sem.run_bind,hz0,Result.andThen_ok,run_underlying hu,hrun w,Array.toList_map,h1',Sem.run_pure]⟩
     cases hpl:ds.all D.plain with
     | false =>
      rw [hpl] at h
      simp only [cond_false] at h
      split at h
      ·rename_i t hdr
       cases hp9:(ds.take 9).all D.plain with
       | false=>rw [hp9] at h; cases h
       | true =>
        rw [hp9] at h
        simp only [cond_true] at h
        have e1:ds=ds.take 9++[.own t]:=by rw [← hdr,List.take_append_drop]
        have k9:=h2.drop 9
        rw [hdr] at k9
        have hcs:cs.drop 9=[(ι t).1]:=by
         generalize cs.drop 9=c9 at k9
         cases k9 with
         | cons a b =>
          cases b
          have a':_=(ι t).1:=a
          rw [a']
        refine ⟨.agg cs.toArray,_,fun h' _=>run h', .of_w (show RdW F ι (.aggo (ds.take 9) t) (.agg cs.toArray) from ⟨cs.take 9,by rw [← hcs,List.take_append_drop],(h2.take 9).rd hp9⟩),h⟩
      ·split at h
       ·rename_i t rest hno9
        cases hpr:rest.all D.plain with
        | false=>rw [hpr] at h; cases h
        | true =>
         rw [hpr] at h
         simp only [cond_true] at h
         cases h2 with
         | cons ha hb =>
          have ha':_=(ι t).1:=ha
          refine ⟨_,_,fun h' _=>run h', .of_w (show RdW F ι (.aggh t rest) _ from ⟨_,by rw [ha'],hb.rd hpr⟩),h⟩
       ·cases h
     | true =>
      rw [hpl] at h
      simp only [cond_true] at h
      exact ⟨.agg cs.toArray,_,fun h' _=>run h', .of_rd (.agg (h2.rd hpl) .nil),h⟩
    ·cases h
  ·cases h
 ·rename_i T x lo hi
  have hlo:∀ {k a n},(match lo with | none=>D.int .i64 n | some y=>g s y)=D.int k a→(∀ y,lo=some y→ev ρ y = .int k a)∧(lo=none→a=n):=fun {k a n} he=>by
   cases lo with
   | none=>cases he; exact ⟨fun y hy=>(by cases hy),fun _=>rfl⟩
   | some y =>
    simp only at he
    have:=g_rd hr y
    rw [he] at this
    exact ⟨fun y' hy=>(by cases hy; exact Rd.int_inv this),fun h=>(by cases h)⟩
  have hhi:∀ {k a n},(match hi with | none=>D.int .i64 n | some y=>g s y)=D.int k a→(∀ y,hi=some y→ev ρ y = .int k a)∧(hi=none→a=n):=fun {k a n} he=>by
   cases hi with
   | none=>cases he; exact ⟨fun y hy=>(by cases hy),fun _=>rfl⟩
   | some y =>
    simp only at he
    have:=g_rd hr y
    rw [he] at this
    exact ⟨fun y' hy=>(by cases hy; exact Rd.int_inv this),fun h=>(by cases h)⟩
  split at h
  ·rename_i ht
   split at h
   ·rename_i l hl
    split at h
    ·rename_i k1 a ha
     split at h
     ·rename_i k2 b hb
      have hx:=g_rd hr x
      rw [hl] at hx
      have hx:=Rd.str_inv hx
      haveI:Und P T .string:=⟨(ti_ok hT ht).und⟩
      obtain ⟨m,hm,hk1⟩:=Option.bind_eq_some_iff.1 h
      obtain ⟨a',b',rfl,rfl,h1,h2,rfl⟩:=subL_some hm
      obtain ⟨q1,q2⟩:=hlo ha
      obtain ⟨q3,q4⟩:=hhi hb
      exact ⟨_,_,fun _ _=>pu_slices_gen hx (fun y hy=>⟨_,q1 y hy⟩) (fun hn=>by have:=q2 hn; omega) (fun y hy=>⟨_,q3 y hy⟩) (fun hn=>by have:=q4 hn; omega) h1 h2, .of_rd (.str .nil),hk1⟩
     ·cases h
    ·cases h
   ·cases h
  ·rename_i et _ _ _ _ _ ht
   split at h
   ·rename_i te hte
    split at h
    ·rename_i e xs hl
     cases hz:(te.size == e.sz) with
     | false=>rw [hz] at h; cases h
     | true =>
      rw [hz] at h
      simp only [cond_true] at h
      have hz:te.size=e.sz:=by simpa using hz
      split at h
      ·rename_i k1 a ha
       split at h
       ·rename_i k2 b hb
        have hx:=g_rd hr x
        rw [hl] at hx
        obtain ⟨q,cp,hv,hcp,hat⟩:=Rd.at hx
        haveI:Und P T (.slice et):=⟨(ti_ok hT ht).und⟩
        haveI:Siz P et e.sz:=⟨fun w=>by rw [← hz]; exact (ti_ok hT hte).siz w⟩
        obtain ⟨m,hm,hk1⟩:=Option.bind_eq_some_iff.1 h
        obtain ⟨a',b',rfl,rfl,h1,h2,rfl⟩:=subL_some hm
        obtain ⟨q1,q2⟩:=hlo ha
        obtain ⟨q3,q4⟩:=hhi hb
        have hx':Rd F [.lst e xs] [.slice q xs.length cp]:=by rw [← hv]; exact hx
        exact ⟨_,_,fun _ _=>pu_slice_gen hv (fun y hy=>⟨_,q1 y hy⟩) (fun hn=>by have:=q2 hn; omega) (fun y hy=>⟨_,q3 y hy⟩) (fun hn=>by have:=q4 hn; omega) h1 (by omega), .of_rd (lst_slice hx' h1 h2),hk1⟩
       ·cases h
      ·cases h
    ·rename_i j0 hl
     split at h
     ·rename_i cl T0 A hs hlk
      cases hz:(te.size == cl.e.sz) with
      | false=>rw [hz] at h; cases h
      | true =>
       rw [hz] at h
       simp only [cond_true] at h
       have hz:te.size=cl.e.sz:=by simpa using hz
       obtain ⟨n,hnd,h⟩:=Option.bind_eq_some_iff.1 h
       split at h
       ·rename_i k1 a ha
        split at h
        ·rename_i k2 b hb
         have hx:=g_rd hr x
         rw [hl] at hx
         obtain ⟨q,n',cp,rows,Lv,e1,e2,e3,e4,e5⟩:=na_at hr hlk hnd hx
         obtain ⟨hds,g1,g2⟩:=hx
         haveI:Und P T (.slice et):=⟨(ti_ok hT ht).und⟩
         haveI:Siz P et cl.e.sz:=⟨fun w=>by rw [← hz]; exact (ti_ok hT hte).siz w⟩
         obtain ⟨m,hm,hk1⟩:=Option.bind_eq_some_iff.1 h
         obtain ⟨a',b',rfl,rfl,h1,h2,rfl⟩:=subL_some hm
         obtain ⟨q1,q2⟩:=hlo ha
         obtain ⟨q3,q4⟩:=hhi hb
         have hle:=e3.le
         rw [e1] at g2
         exact ⟨_,_,fun _ _=>pu_slice_gen (sz:=cl.e.sz) e1 (fun y hy=>⟨_,q1 y hy⟩) (fun hn=>by have:=q2 hn; omega) (fun y hy=>⟨_,q3 y hy⟩) (fun hn=>by have:=q4 hn; omega) h1 (by omega), .of_w (show RdW F ι (.nas cl.e.sz j0 (a':Int).toNat (b':Int).toNat) _ from ⟨hds,q,n',cp,g1,g2,by simpa using h1,by simpa [e2] using h2,by simp⟩),hk1⟩
        ·cases h
       ·cases h
     ·cases h
    ·cases h
   ·cases h
  ·cases h
 ·rename_i S T x
  split at h
  ·rename_i k0 _ _ _ _ _ hS
   split at h
   ·rename_i k _ _ _ _ _ hD
    split at h
    ·rename_i k' a ha
     have hx:=g_rd hr x
     rw [ha] at hx
     haveI:Und P S (.int k0):=⟨(ti_ok hT hS).und⟩
     haveI:Und P T (.int k):=⟨(ti_ok hT hD).und⟩
     exact ⟨_,_,fun _ _=>pu_conv (Rd.int_inv hx) rfl, .of_rd (.int .nil),h⟩
    ·cases h
   ·rename_i _ _ _ _ _ hD
    split at h
    ·rename_i k' a ha
     have hx:=g_rd hr x
     rw [ha] at hx
     haveI:Und P S (.int k0):=⟨(ti_ok hT hS).und⟩
     haveI:Und P T .string:=⟨(ti_ok hT hD).und⟩
     exact ⟨_,_,fun _ _=>pu_i2s (Rd.int_inv hx), .of_rd (.str .nil),h⟩
    ·cases h
   ·cases h
  ·rename_i et _ _ _ _ _ hS
   split at h
   ·rename_i _ _ _ _ hE
    split at h
    ·rename_i _ _ _ _ _ hD
     haveI:Und P S (.slice et):=⟨(ti_ok hT hS).und⟩
     haveI:Und P et (.int .i32):=⟨(ti_ok hT hE).und⟩
     haveI:Und P T .string:=⟨(ti_ok hT hD).und⟩
     have hx:=g_rd hr x
     split at h
     ·rename_i hg
      rw [hg] at hx
      exact ⟨_,_,fun _ _=>pu_r2s0 (e:=et) (Rd.nil_inv hx), .of_rd (.str .nil),h⟩
     ·rename_i e xs hg
      obtain ⟨xs',hc,h⟩:=Option.bind_eq_some_iff.1 h
      obtain ⟨rfl,hc⟩:=castE_eq hc
      have hc:xs=xs':=hc
      subst hc
      rw [hg] at hx
      obtain ⟨q,cp,hv,hcp,hat⟩:=Rd.at hx
      refine ⟨bs (encs8 xs),_,fun hh hm=>?_, .of_rd (.str .nil),h⟩
      exact runes_at (e:=et) hv (fun i c hc=>by
       obtain ⟨cs,a,b,c'⟩:=hat i c hc
       have h1:=(Rd.rune_inv c').symm ▸ b
       exact ⟨a,hm.cell (by simpa [E.sz] using h1.1)⟩)
     ·rename_i t hg
      rw [hg] at hx
      split at h
      ·rename_i e T' xs hlk
       obtain ⟨xs',hc,h⟩:=Option.bind_eq_some_iff.1 h
       obtain ⟨rfl,hc⟩:=castE_eq hc
       have hc:xs=xs':=hc
       subst hc
       obtain ⟨q,n,cp,rows,g1,g2,g3⟩:=hr.look hlk
       have hx:ev ρ x=(ι t).1:=hx
       rw [g1] at hx
       have hn:n=xs.length:=by rw [g2.len,← forall2_len g3]
       refine ⟨bs (encs8 xs),_,fun hh hm=>?_, .of_rd (.str .nil),h⟩
       refine runes_at (e:=et) (by rw [hx,hn]) fun i c hc=>?_
       rcases g2.sh with ⟨he,_,_⟩ | ⟨B,n',cap,spare,he,hL,hn',hcap,hle⟩
       ·have hz:n=0:=by cases he; rfl
        have:=(List.getElem?_eq_some_iff.1 hc).1
        omega
       ·cases he
        obtain ⟨row,hrow,hrd⟩:=forall2_get g3 hc
        have h2:=row_cells g2 hrow fun p hp=>hm.own p (List.mem_append_left _ (lv_mem hlk hp))
        rw [Rd.rune_inv hrd] at h2
        exact ⟨rfl,by have:=h2.1; simpa [E.sz,blk,offs] using this⟩
      ·cases h
     ·cases h
    ·cases h
   ·rename_i _ _ _ _ hE
    split at h
    ·rename_i _ _ _ _ _ hD
     haveI:Und P S (.slice et):=⟨(ti_ok hT hS).und⟩
     haveI:Und P et (.int .u8):=⟨(ti_ok hT hE).und⟩
     haveI:Und P T .string:=⟨(ti_ok hT hD).und⟩
     have hx:=g_rd hr x
     split at h
     ·rename_i hg
      rw [hg] at hx
      exact ⟨_,_,fun _ _=>pu_b2s0 (e:=et) (Rd.nil_inv hx), .of_rd (.str .nil),h⟩
     ·rename_i e xs hg
      obtain ⟨xs',hc,h⟩:=Option.bind_eq_some_iff.1 h
      obtain ⟨rfl,hc⟩:=castE_eq hc
      have hc:xs=xs':=hc
      subst hc
      rw [hg] at hx
      obtain ⟨q,cp,hv,hcp,hat⟩:=Rd.at hx
      refine ⟨bs xs,_,fun hh hm=>?_, .of_rd (.str .nil),h⟩
      exact bytes_at (e:=et) hv (fun i c hc=>by
       obtain ⟨cs,a,b,c'⟩:=hat i c hc
       have h1:=(Rd.u8_inv c').symm ▸ b
       exact ⟨a,hm.cell (by simpa [E.sz] using h1.1)⟩)
     ·rename_i t hg
      rw [hg] at hx
      split at h
      ·rename_i e T' xs hlk
       obtain ⟨xs',hc,h⟩:=Option.bind_eq_some_iff.1 h
       obtain ⟨rfl,hc⟩:=castE_eq hc
       have hc:xs=xs':=hc
       subst hc
       obtain ⟨q,n,cp,rows,g1,g2,g3⟩:=hr.look hlk
       have hx:ev ρ x=(ι t).1:=hx
       rw [g1] at hx
       have hn:n=xs.length:=by rw [g2.len,← forall2_len g3]
       refine ⟨bs xs,_,fun hh hm=>?_, .of_rd (.str .nil),h⟩
       refine bytes_at (e:=et) (by rw [hx,hn]) fun i c hc=>?_
       rcases g2.sh with ⟨he,_,_⟩ | ⟨B,n',cap,spare,he,hL,hn',hcap,hle⟩
       ·have hz:n=0:=by cases he; rfl
        have:=(List.getElem?_eq_some_iff.1 hc).1
        omega
       ·cases he
        obtain ⟨row,hrow,hrd⟩:=forall2_get g3 hc
        have h2:=row_cells g2 hrow fun p hp=>hm.own p (List.mem_append_left _ (lv_mem hlk hp))
        rw [Rd.u8_inv hrd] at h2
        exact ⟨rfl,by have:=h2.1; simpa [E.sz,blk,offs] using this⟩
      ·cases h
     ·cases h
    ·cases h
   ·cases h
  ·cases h
 ·rename_i T x y
  split at h
  ·rename_i kt vt _ _ _ _ _ ht
   split at h
   ·rename_i e _ _ _ _ _ hk
    split at h
    ·rename_i te hte
     cases hz:Nat.blt 0 te.size with
     | false=>rw [hz] at h; cases h
     | true =>
      rw [hz] at h
      simp only [cond_true] at h
      have hz:0<te.size:=by simpa [Nat.blt_eq] using hz
      haveI:Und P T (.map kt vt):=⟨(ti_ok hT ht).und⟩
      haveI:Und P kt (.pointer e):=⟨(ti_ok hT hk).und⟩
      haveI:Siz P e te.size:=⟨(ti_ok hT hte).siz⟩
      split at h
      ·rename_i hv
       haveI:Zer P vt (.bool false):=⟨(ti_ok hT hv).zer⟩
       split at h
       ·rename_i o ho
        have hy:=dPtr_rd ho (RdV.to_rd (g_rd hr y) (by
         have:=ho
         unfold dPtr at this
         split at this
         ·rename_i hd; rw [hd]; rfl
         ·rename_i hd; rw [hd]; rfl
         ·cases this))
        obtain ⟨a,ha⟩:=hy.np_ptr
        rw [ha] at hy
        have hx:=g_rd hr x
        split at h
        ·rename_i hg
         rw [hg] at hx
         exact ⟨_,_,fun _ _=>pu_lookup0 (kt:=kt) (vt:=vt) (e:=e) (Rd.mnil_inv hx) ha, .of_rd (.bool .nil),h⟩
        ·rename_i t hg
         rw [hg] at hx
         split at h
         ·rename_i l hlk
          obtain ⟨B,cs,g1,g2,g3⟩:=hr.look hlk
          have hx:ev ρ x=(ι t).1:=hx
          rw [g1] at hx
          have hf:=mp_find hy 0 0 g3
          refine ⟨_,_,fun hh hm=>?_, .of_rd (.bool .nil),h⟩
          have hb:hh[B]?=some (mapO cs):=hm.own (B,cs,BT.map) (List.mem_append_left _ (lv_mem hlk (by rw [g2]; simp)))
          have:=pu_lookup (P:=P) (T:=T) (kt:=kt) (vt:=vt) (e:=e) (u := .bool false) (d:=dst) (ty:=ty) (p:=p) (af:=af) (g:=gd) (isA a) hx ha hb (fun w hw m hm'=>by
           obtain ⟨o',a',e1,e2⟩:=mp_keys 0 g3 m (by simpa using hm')
           rw [e1]
           exact np_equal (P:=P) (kt:=kt) (e:=e) (n:=te.size) (by omega) hm hw hy e2)
          rw [← hf]
          exact this
         ·cases h
        ·cases h
       ·cases h
      ·cases h
    ·cases h
   ·rename_i hk
    split at h
    ·rename_i hv
     haveI:Und P T (.map kt vt):=⟨(ti_ok hT ht).und⟩
     haveI:Und P kt .string:=⟨(ti_ok hT hk).und⟩
     haveI:Zer P vt (.bool false):=⟨(ti_ok hT hv).zer⟩
     split at h
     ·rename_i kk hy0
      have hy:=g_rd hr y
      rw [hy0] at hy
      have hy:=Rd.str_inv hy
      split at h
      ·rename_i n hx0
       have hx:=g_rd hr x
       rw [hx0] at hx
       obtain ⟨T1,z1,b1,e1,e2⟩:=Rd.gm_inv hx
       split at h
       ·rename_i l hg
        obtain ⟨T0,z,b,es,c,f1,f2,f3,f4⟩:=gl_ok hgl hg
        rw [e2] at f1
        cases f1
        have hgm:gmem n kk=l.contains kk:=by simp [gmem,hg]
        refine ⟨_,_,fun hh hm=>?_, .of_rd (.bool .nil),h⟩
        refine pu_lookup_str (kt:=kt) (vt:=vt) e1 hy (hm.frz _ _ f2) (fun x hx=>?_) (fun hb=>?_) (fun hb x hx e=>?_)
        ·obtain ⟨k,_,k1,k2⟩:=f3 x hx
         exact ⟨_,k1,k2⟩
        ·rw [hgm,List.contains_iff_mem] at hb
         exact f4 kk hb
        ·obtain ⟨k,k0,k1,k2⟩:=f3 x hx
         rw [k1] at e
         have e:k=kk:=by
          injection e with e
          injection e with e
          have:=congrArg Array.toList e
          simpa using this
         subst e
         rw [hgm] at hb
         have:l.contains k=true:=List.contains_iff_mem.2 k0
         rw [this] at hb
         cases hb
       ·cases h
      ·cases h
     ·cases h
    ·cases h
   ·cases h
  ·cases h
 ·rename_i nm fs cs
  split at h
  ·rename_i x hfs
   split at h
   ·rename_i f t hg
    split at h
    ·rename_i q hq
     obtain ⟨hm,rfl⟩:=mfind_ok hT hq
     cases hc1:(cs.isEmpty && mname (mcode nm) == nm) with
     | false=>rw [hc1] at h; cases h
     | true =>
      rw [hc1] at h
      simp only [Bool.and_eq_true,beq_iff_eq] at hc1
      obtain ⟨c1,c3⟩:=hc1
      have hx:=g_rd hr x
      rw [hg] at hx
      obtain ⟨B,vs,e1,e2,e3⟩:=hx
      have e2:=e2.of_if
      obtain rfl:fs=#[x]:=by cases fs; simp_all
      obtain rfl:cs=#[]:=by simpa using c1
      have hcv:=CloV.mk_mt (T:=q.1) (B:=B) (cs:=[]) (mcode_lt nm)
      rw [c3] at hcv
      exact ⟨.func (.method nm) #[.iface q.1 (.pointer (some ⟨B,0,none⟩))] #[],_,fun _ _=>⟨fun w _=>by simp [execOp,Instr.makeFunc,e2]⟩, .of_w (show RdW F ι (.clov (mtN q.1 (mcode nm)) t []) _ from ⟨B,[],e1,hcv, .nil⟩),h⟩
    ·cases h
   ·cases h
  ·cases h
 ·rename_i f fs cs
  cases hc1:fs.isEmpty with
  | false=>rw [hc1] at h; cases h
  | true =>
   rw [hc1] at h
   simp only [cond_true] at h
   have hfs:fs=#[]:=by simpa using hc1
   subst hfs
   have e:cs.map (ev ρ)=(cs.toList.map (ev ρ)).toArray:=Array.ext' (by rw [Array.toList_map])
   have hall:∀ l:List Operand,(l.map (g s)).all D.plain=true→Rd F (l.map (g s)) (l.map (ev ρ)):=fun l hl=>by
    induction l with
    | nil=>exact .nil
    | cons x l ih =>
     simp only [List.map_cons,List.all_cons,Bool.and_eq_true] at hl
     exact (RdV.to_rd (g_rd hr x) hl.1).cons (ih hl.2)
   split at h
   ·rename_i t ds hl
    cases hp0:(ds.all D.plain && Nat.blt f 1000000) with
    | false=>rw [hp0] at h; cases h
    | true =>
     rw [hp0] at h
     simp only [cond_true] at h
     rw [Bool.and_eq_true] at hp0
     obtain ⟨hp,hfb⟩:=hp0
     rw [Nat.blt_eq] at hfb
     cases hcs:cs.toList with
     | nil=>rw [hcs] at hl; cases hl
     | cons x l =>
      rw [hcs,List.map_cons] at hl
      injection hl with h1 h2
      subst h2
      have hx:=g_rd hr x
      rw [h1] at hx
      obtain ⟨B,g1,g2⟩:=hx
      refine ⟨.func (.func f) #[] (cs.toList.map (ev ρ)).toArray, .clov f t (l.map (g s)),fun _ _=>⟨fun w _=>by simp [execOp,Instr.makeFunc,e]⟩,?_,h⟩
      exact RdV.of_w ⟨B,l.map (ev ρ),g1,by rw [hcs,List.map_cons,g2]; exact .mk_fn hfb,hall l hp⟩
   ·cases hp:(cs.toList.map (g s)).all D.plain with
    | false=>rw [hp] at h; cases h
    | true =>
     rw [hp] at h
     simp only [cond_true] at h
     exact ⟨.func (.func f) #[] (cs.toList.map (ev ρ)).toArray,_,fun _ _=>⟨fun w _=>by simp [execOp,Instr.makeFunc,e]⟩, .of_rd (Rd.clo (hall _ hp) .nil),h⟩
 ·rename_i x xT T
  split at h
  ·rename_i fs0 _ _ _ _ _ ht
   obtain ⟨a0,hu,_⟩:=(ti_ok hT ht).und
   haveI:Und P T (.struct a0):=⟨hu⟩
   have hx:=g_rd hr x
   split at h
   ·rename_i T' l hl
    rw [hl] at hx
    obtain ⟨cs,e1,e2⟩:=Rd.ifc_inv hx
    cases hq:(T' == T) with
    | true =>
     rw [hq] at h
     have:T'=T:=by simpa using hq
     subst this
     exact ⟨_, .tup [.agg l, .bool true],fun _ _=>pu_ta_yes e1,⟨[.agg cs.toArray, .bool true],rfl, .cons (.of_rd (.agg e2 .nil)) (.cons (.of_rd (.bool .nil)) .nil)⟩,h⟩
    | false =>
     rw [hq] at h
     have:T'≠T:=by simpa using hq
     exact ⟨_, .tup [.u, .bool false],fun _ _=>pu_ta_no this (ti_ok hT ht).zer e1,⟨[_, .bool false],rfl, .cons trivial (.cons (.of_rd (.bool .nil)) .nil)⟩,h⟩
   ·cases h
  ·rename_i ht
   split at h
   ·rename_i f t ds hg
    cases hc:(C.ast.any fun q=>ifN q.1 == f && q.2 == T) with
    | false=>rw [hc] at h; cases h
    | true =>
     rw [hc] at h
     obtain ⟨q,hq,hc⟩:=List.any_eq_true.1 hc
     simp only [Bool.and_eq_true,beq_iff_eq] at hc
     obtain ⟨rfl,rfl⟩:=hc
     have hx:=g_rd hr x
     rw [hg] at hx
     obtain ⟨B,vs,e1,e2,e3⟩:=hx
     have e2':=e2
     have e2:=e2.of_if
     obtain ⟨i,want,a1,a2,a3⟩:=hT.2.2 q hq
     haveI:Und P q.2 (.interface want):=⟨a2⟩
     have hu:=und (P:=P) q.2
     exact ⟨.tuple #[.iface q.1 (.pointer (some ⟨B,0,none⟩)), .bool true], .tup [.clov (ifN q.1) t ds, .bool true],fun _ _=>⟨fun w _=>by simp [execOp,Instr.typeAssert,e2,hu w,a1,a3]⟩,⟨[_, .bool true],rfl, .cons (show RdW F ι (.clov (ifN q.1) t ds) _ from ⟨B,vs,e1, .mk_if,e3⟩) (.cons (.of_rd (.bool .nil)) .nil)⟩,h⟩
   ·cases h
  ·cases h
 ·rename_i T x
  split at h
  ·rename_i t ht
   cases hc:t.sh.conc with
   | false=>rw [hc] at h; cases h
   | true =>
    rw [hc] at h
    simp only [cond_true] at h
    have hu:=(ti_ok hT ht).und
    have hun:∃ U,P.underlying T=some U∧∀ ms,U ≠ .interface ms:=by
     cases hs:t.sh <;> rw [hs] at hc hu <;> first | (simp [Sh.conc] at hc; done) | exact ⟨_,hu,fun _ e=>by cases e⟩ | (obtain ⟨a,hu,_⟩:=hu; exact ⟨_,hu,fun _ e=>by cases e⟩)
    obtain ⟨U,hU,hne⟩:=hun
    haveI:Und P T U:=⟨hU⟩
    have hrun:∀ hh,Pu P ρ ⟨dst, .makeInterface T x,ty,p,af,gd⟩ hh (.iface T (ev ρ x)):=fun hh=>⟨fun w _=>by
     cases U <;> first | (exact absurd rfl (hne _)) | simp [execOp,Instr.makeInterface,und T w]⟩
    split at h
    ·rename_i l hl
     cases hp:l.all D.plain with
     | false =>
      rw [hp] at h
      exact ⟨_, .err true,fun _ _=>hrun _, .of_rd (.err (b:=true) ⟨_,_,rfl⟩ .nil),h⟩
     | true =>
      rw [hp] at h
      have hx:=g_rd hr x
      rw [hl] at hx
      obtain ⟨cs,e1,e2⟩:=Rd.agg_inv hx
      exact ⟨_, .ifc T l,fun _ _=>hrun _, .of_rd (by rw [e1]; exact .ifc e2 .nil),h⟩
    ·rename_i b0 hl
     cases hc:(C.mth.any fun q=>q.1 == T) with
     | false =>
      rw [hc] at h
      exact ⟨_, .err true,fun _ _=>hrun _, .of_rd (.err (b:=true) ⟨_,_,rfl⟩ .nil),h⟩
     | true =>
      rw [hc] at h
      have hx:=g_rd hr x
      rw [hl] at hx
      obtain ⟨B,e1,e2⟩:=hx
      exact ⟨_, .clov (ifN T) b0 [],fun _ _=>hrun _, .of_w (show RdW F ι (.clov (ifN T) b0 []) _ from ⟨B,[],e1,by rw [e2]; exact .mk_if, .nil⟩),h⟩
    ·exact ⟨_, .err true,fun _ _=>hrun _, .of_rd (.err (b:=true) ⟨_,_,rfl⟩ .nil),h⟩
  ·cases h
 ·rename_i c
  obtain ⟨callee,args,tys⟩:=c
  split at h
  ·rename_i b hb
   simp only at hb
   subst hb
   unfold evBI at h
   split at h
   ·split at h
    ·rename_i x hx0
     split at h
     ·rename_i T hT0
      have ea:args=#[x]:=Array.ext' hx0
      have et:tys=#[T]:=Array.ext' hT0
      subst ea
      have hx:=g_rd hr x
      split at h
      ·rename_i ht
       haveI:Und P T .string:=⟨(ti_ok hT ht).und⟩
       split at h
       ·rename_i l hl
        rw [hl] at hx
        exact ⟨_,_,fun _ _=>pu_lens (Rd.str_inv hx) et, .of_rd (.int .nil),h⟩
       ·cases h
      ·rename_i e0 _ _ _ _ _ ht
       haveI:Und P T (.slice e0):=⟨(ti_ok hT ht).und⟩
       split at h
       ·rename_i e xs hl
        rw [hl] at hx
        obtain ⟨q,cp,hv,hcp,hat⟩:=Rd.at hx
        exact ⟨_,_,fun _ _=>pu_lensl hv et, .of_rd (.int .nil),h⟩
       ·rename_i hl
        rw [hl] at hx
        exact ⟨_,_,fun _ _=>pu_lensl (Rd.nil_inv hx) et, .of_rd (.int .nil),h⟩
       ·rename_i t hl
        rw [hl] at hx
        split at h
        ·rename_i e T' xs hlk
         obtain ⟨q,n,cp,rows,g1,g2,g3⟩:=hr.look hlk
         have hx:ev ρ x=(ι t).1:=hx
         rw [g1] at hx
         have hml:n=xs.length:=by rw [g2.len,← forall2_len g3]
         exact ⟨_,_,fun _ _=>pu_lensl hx et,by rw [hml]; exact .of_rd (.int .nil),h⟩
        ·cases h
       ·rename_i i0 hl
        rw [hl] at hx
        split at h
        ·rename_i cl T0 A hs hlk
         obtain ⟨n,hi,h⟩:=Option.bind_eq_some_iff.1 h
         obtain ⟨q,n',cp,rows,Lv,e1,e2,e3,e4,e5⟩:=na_at hr hlk hi hx
         exact ⟨_,_,fun _ _=>pu_lensl e1 et,by rw [e2]; exact .of_rd (.int .nil),h⟩
        ·cases h
       ·cases h
      ·cases h
     ·cases h
    ·cases h
   ·split at h
    ·rename_i x y hx0
     have ea:args=#[x,y]:=Array.ext' hx0
     subst ea
     have hx:=g_rd hr x
     have hy:=g_rd hr y
     split at h
     ·rename_i k a ha
      split at h
      ·rename_i k' b hb
       rw [ha] at hx
       rw [hb] at hy
       cases hk:decide (k=k') with
       | false=>rw [hk] at h; cases h
       | true =>
        rw [hk] at h
        have hkk:k=k':=by simpa using hk
        subst hkk
        exact ⟨_,_,fun _ _=>pu_min (Rd.int_inv hx) (Rd.int_inv hy), .of_rd (.int .nil),h⟩
      ·cases h
     ·cases h
    ·cases h
   ·split at h
    ·rename_i x y hx0
     have ea:args=#[x,y]:=Array.ext' hx0
     subst ea
     have hx:=g_rd hr x
     have hy:=g_rd hr y
     split at h
     ·rename_i k a ha
      split at h
      ·rename_i k' b hb
       rw [ha] at hx
       rw [hb] at hy
       cases hk:decide (k=k') with
       | false=>rw [hk] at h; cases h
       | true =>
        rw [hk] at h
        have hkk:k=k':=by simpa using hk
        subst hkk
        exact ⟨_,_,fun _ _=>pu_max (Rd.int_inv hx) (Rd.int_inv hy), .of_rd (.int .nil),h⟩
      ·cases h
     ·cases h
    ·cases h
   ·cases h
  ·cases h
 ·cases h
theorem evFree_sound {K:D→Option R} {o:Op} (hT:CtOK P C) (hr:Rel F ι s ρ) (hf:freeB s o=true) (h:evPure C s o K=some r):∃ v d,(∀ h,Pu P ρ ⟨dst,o,ty,p,af,gd⟩ h v)∧RdV F ι d v∧K d=some r:=by
 unfold freeB at hf
 split at hf
 ·rename_i T x lo hi
  split at hf
  ·rename_i j0 hl
   simp only [evPure,hl] at h
   have hlo:∀ {k a n},(match lo with | none=>D.int .i64 n | some y=>g s y)=D.int k a→(∀ y,lo=some y→ev ρ y = .int k a)∧(lo=none→a=n):=fun {k a n} he=>by
    cases lo with
    | none=>cases he; exact ⟨fun y hy=>(by cases hy),fun _=>rfl⟩
    | some y =>
     simp only at he
     have:=g_rd hr y
     rw [he] at this
     exact ⟨fun y' hy=>(by cases hy; exact Rd.int_inv this),fun h=>(by cases h)⟩
   have hhi:∀ {k a n},(match hi with | none=>D.int .i64 n | some y=>g s y)=D.int k a→(∀ y,hi=some y→ev ρ y = .int k a)∧(hi=none→a=n):=fun {k a n} he=>by
    cases hi with
    | none=>cases he; exact ⟨fun y hy=>(by cases hy),fun _=>rfl⟩
    | some y =>
     simp only at he
     have:=g_rd hr y
     rw [he] at this
     exact ⟨fun y' hy=>(by cases hy; exact Rd.int_inv this),fun h=>(by cases h)⟩
   split at h
   ·cases h
   ·rename_i et _ _ _ _ _ ht
    split at h
    ·rename_i te hte
     split at h
     ·rename_i cl T0 A hs hlk
      cases hz:(te.size == cl.e.sz) with
      | false=>rw [hz] at h; cases h
      | true =>
       rw [hz] at h
       simp only [cond_true] at h
       have hz:te.size=cl.e.sz:=by simpa using hz
       obtain ⟨n,hnd,h⟩:=Option.bind_eq_some_iff.1 h
       split at h
       ·rename_i k1 a ha
        split at h
        ·rename_i k2 b hb
         have hx:=g_rd hr x
         rw [hl] at hx
         obtain ⟨q,n',cp,rows,Lv,e1,e2,e3,e4,e5⟩:=na_at hr hlk hnd hx
         obtain ⟨hds,g1,g2⟩:=hx
         haveI:Und P T (.slice et):=⟨(ti_ok hT ht).und⟩
         haveI:Siz P et cl.e.sz:=⟨fun w=>by rw [← hz]; exact (ti_ok hT hte).siz w⟩
         obtain ⟨m,hm,hk1⟩:=Option.bind_eq_some_iff.1 h
         obtain ⟨a',b',rfl,rfl,h1,h2,rfl⟩:=subL_some hm
         obtain ⟨q1,q2⟩:=hlo ha
         obtain ⟨q3,q4⟩:=hhi hb
         have hle:=e3.le
         rw [e1] at g2
         exact ⟨_,_,fun _=>pu_slice_gen (sz:=cl.e.sz) e1 (fun y hy=>⟨_,q1 y hy⟩) (fun hn=>by have:=q2 hn; omega) (fun y hy=>⟨_,q3 y hy⟩) (fun hn=>by have:=q4 hn; omega) h1 (by omega), .of_w (show RdW F ι (.nas cl.e.sz j0 (a':Int).toNat (b':Int).toNat) _ from ⟨hds,q,n',cp,g1,g2,by simpa using h1,by simpa [e2] using h2,by simp⟩),hk1⟩
        ·cases h
       ·cases h
     ·cases h
    ·cases h
   ·cases h
  ·cases hf
 ·rename_i xs tys
  split at hf
  ·rename_i x hx0
   split at hf
   ·rename_i i0 hl
    simp only [evPure] at h
    unfold evBI at h
    simp only [hx0] at h
    split at h
    ·rename_i T hT0
     have ea:xs=#[x]:=Array.ext' hx0
     have et:tys=#[T]:=Array.ext' hT0
     subst ea
     have hx:=g_rd hr x
     rw [hl] at hx
     simp only [hl] at h
     split at h
     ·cases h
     ·rename_i e0 _ _ _ _ _ ht
      haveI:Und P T (.slice e0):=⟨(ti_ok hT ht).und⟩
      split at h
      ·rename_i cl T0 A hs hlk
       obtain ⟨n,hi,h⟩:=Option.bind_eq_some_iff.1 h
       obtain ⟨q,n',cp,rows,Lv,e1,e2,e3,e4,e5⟩:=na_at hr hlk hi hx
       exact ⟨_,_,fun _=>pu_lensl e1 et,by rw [e2]; exact .of_rd (.int .nil),h⟩
      ·cases h
     ·cases h
    ·cases h
   ·cases hf
  ·cases hf
 ·cases hf
end
end Go.Proofs.YtkmigbicabfodaaGreat.V
set_option linter.unusedVariables false
set_option linter.unusedSimpArgs false
namespace Go.Proofs.YtkmigbicabfodaaGreat.V
open Go K
theorem run_appendL {P:Program} {S X e ty:TypeId} {X':TypeId} {i:TypeInfo} {z:Value} {sz n:Nat} {xv:Value} {v:Value} {vals new:List Value} {Lv L1 L2 Lf:List Blk} {F:Frz} {E:Env} {h:Array Obj}
  [Und P S (.slice e)] [Und P X (.slice X')] [Siz P e sz] [Inf P e i] [Zer P e z] (hz:z.cells.size=sz) (hm:Hp h F Lf) (hL:Lf=L1++(Lv++L2)) (sh:SlSh sz e v Lv vals) (hlx:∀ w:World,(Builtin.lenOf xv).run P w = .ok n w) (hload:∀ w:World,w.heap=h→(Builtin.firstCells sz n xv).run P w = .ok new.toArray w) (hn:new.length=n*sz) (hone:∀ u∈new,u.oneCell'=true)
  (hr:(vals.length+new.length)*(i.bytes+1)≤2 ^ 46) (hsz:0<sz) (w:World) (hw:At E h w) (hpos:0<n) :
  ∃ v' w' Lv' h',(Builtin.append_ #[S,X] ty #[v,xv]).run P w = .ok v' w'∧At E h' w'∧SlSh sz e v' Lv' (vals++new)∧Hp h' F (L1++(Lv'++L2)):=by
 have hlen:new.length ≥ n:=by rw [hn]; exact Nat.le_mul_of_pos_right n hsz
 have key:∀ (q:Option Addr) (sLen sCap:Nat) (old:List Value),v = .slice q sLen sCap→sCap<sLen+n→sLen≤vals.length→old=vals→(∀ w:World,w.heap=h→(Builtin.firstCells sz sLen v).run P w = .ok old.toArray w)→sLen*sz=vals.length →
   ∃ v' w' Lv' h',(Builtin.append_ #[S,X] ty #[v,xv]).run P w = .ok v' w'∧At E h' w'∧SlSh sz e v' Lv' (vals++new)∧Hp h' F (L1++(Lv'++L2)):=by
  intro q sLen sCap old hv hcap hsl hold hfirst hlen'
  subst hold
  have hb0:(sLen+n)*i.bytes≤2 ^ 46:=Nat.le_trans (Nat.mul_le_mul (by omega) (by omega)) hr
  have hb1:¬ Builtin.nextslicecap (sLen+n) sCap*i.bytes > 2 ^ 48:=by
   have h1:=K.nextslicecap_le (sLen+n) sCap hcap
   have h2:Builtin.nextslicecap (sLen+n) sCap*i.bytes≤2*(sLen+n)*i.bytes:=Nat.mul_le_mul_right _ h1
   have h3:2*(sLen+n)*i.bytes=2*((sLen+n)*i.bytes):=by rw [Nat.mul_assoc]
   omega
  have hb2:¬ (((sLen+n:Nat):Int) > IntKind.i64.max∧(false=true∨i.bytes=0)):=by
   have h4:(sLen+n)≤(old.length+new.length)*(i.bytes+1):=Nat.le_trans (by omega) (Nat.le_mul_of_pos_right _ (by omega))
   simp only [IntKind.max,IntKind.signed,IntKind.bits]
   simp
   omega
  let q':Question := .appendCap (sLen+n) sCap e
  let nc:=q'.cut (w.tape w.drawn q')
  have hnc:sLen+n≤nc:=Nat.le_add_right _ _
  let w1:World:=w.drew
  let cs:=old++new++(Builtin.zeroCells z.cells (nc - (sLen+n))).toList
  have hwh:w.heap=h:=hw.1
  refine ⟨.slice (some ⟨h.size,0,none⟩) (sLen+n) nc,{ w1 with heap:=w1.heap.push (.cells cs.toArray e (0,0)) },[(h.size,cs,BT.c e)],h.push (.cells cs.toArray e (0,0)),?_,⟨by rw [← hwh]; rfl,hw.2.1,hw.2.2.1,hw.2.2.2⟩, .inr ⟨h.size,sLen+n,nc,(Builtin.zeroCells z.cells (nc - (sLen+n))).toList,rfl,rfl,?_,?_,hnc⟩,?_⟩
  ·have hneg:¬ (sLen+n≤sCap):=by omega
   subst hv
   simp only [Builtin.append_]
   simp [und S w,und X w,siz e w,hlx,hneg,fun w=>inf (P:=P) e w,hb1]
   have hb2':¬ (9223372036854775807<((sLen:Int)+(n:Int))∧i.bytes=0):=by
    simp only [IntKind.max,IntKind.signed,IntKind.bits] at hb2
    simp at hb2
    omega
   simp only [IntKind.max,IntKind.signed,IntKind.bits] at *
   simp [hb2',Question.forced]
   have h5:=hfirst w1 hwh
   have h6:=hload w1 hwh
   simp only [w1] at h5 h6
   simp [h5,h6,fun w=>zer (P:=P) e w,newRow,hwh,cs,nc,q',w1]
   exact congrArg (fun a=>w.drew.alloc (Obj.cells a e)) (Array.ext' (by simp))
  ·simp [Nat.add_mul,hn]; omega
  ·simp only [List.length_append,Array.length_toList,length_zeroCells,hz]
   rw [hn,← hlen',Nat.sub_mul,Nat.add_mul]
   have:=Nat.mul_le_mul_right sz hnc
   rw [Nat.add_mul] at this
   omega
  ·have h7:=hm.push cs e
   have h8:Hp _ F ((h.size,cs,BT.c e)::(L1++L2)):=h7.sub (by rw [hL]; exact List.Sublist.cons_cons _ ((List.Sublist.refl _).append (List.sublist_append_right _ _)))
   exact h8.perm List.perm_middle
 rcases sh with ⟨rfl,rfl,rfl⟩ | ⟨B,sLen,cap,spare,rfl,rfl,hlen',hcap',hle⟩
 ·exact key none 0 0 [] rfl (by omega) (Nat.le_refl _) rfl (fun w _=>by simp [Builtin.firstCells]) (by simp)
 ·by_cases hroom:sLen+n≤cap
  ·have hmem:(B,vals++spare,BT.c e)∈Lf:=by rw [hL]; simp
   obtain ⟨fz,hfz,hb⟩:=(hm.own _ hmem).cells
   have hsp:new.length≤spare.length:=by
    have:=Nat.mul_le_mul_right sz hroom
    rw [Nat.add_mul] at this
    omega
   obtain ⟨w',h1,h2,h3,h4,h5,h6,h7⟩:=run_storeCellsZ (P:=P) new vals spare w B 0 e hfz hone (by rw [hw.1]; exact hb) hsp (sLen*sz) (by rw [hlen']; rfl)
   refine ⟨.slice (some ⟨B,0,none⟩) (sLen+n) cap,w',[(B,(vals++new)++spare.drop new.length,BT.c e)],w'.heap,?_,⟨rfl,by rw [h2]; exact hw.2.1,by rw [h3]; exact hw.2.2.1,by rw [h4]; exact hw.2.2.2⟩, .inr ⟨B,sLen+n,cap,spare.drop new.length,rfl,rfl,by simp [Nat.add_mul,hn]; omega,by simp; omega,hroom⟩,?_⟩
   ·have h8:=hload w hw.1
    simp only [Builtin.append_]
    simp [und S w,und X w,siz e w,hlx,hroom,h8,add_at,h1]
   ·have hml:Lf[L1.length]?=some (B,vals++spare,BT.c e):=by
     rw [hL]
     simp
    have hln2:((vals++new)++spare.drop new.length).length=(vals++spare).length:=by simp; omega
    have hp:=hm.put (h':=w'.heap) (cs':=(vals++new)++spare.drop new.length) hml (fun b hb'=>by rw [h6 b hb',hw.1]) hb (by rw [hln2]; exact hfz) (by rw [h7])
    rw [hL,List.set_append_right _ _ (Nat.le_refl _)] at hp
    simpa using hp
  ·refine key (some ⟨B,0,none⟩) sLen cap vals rfl (by omega) ?_ rfl (fun w hw'=>?_) hlen'
   ·rw [← hlen']; exact Nat.le_mul_of_pos_right _ hsz
   ·have hmem:(B,vals++spare,BT.c e)∈Lf:=by rw [hL]; simp
    obtain ⟨fz,_,hb⟩:=(hm.own _ hmem).cells
    have hc:=cells_of_row vals [] spare 0 (by simpa using hb) rfl
    subst hw'
    have:=K.run_loadCellsFrom (P:=P) w B 0 vals 0 #[] (by simpa using hc)
    simpa [Builtin.firstCells,loadCells,hlen'] using this
theorem run_appendS {P:Program} {S X e ty:TypeId} {X':TypeId} {i:TypeInfo} {z:Value} {sz n:Nat} {xv:Value} {v:Value} {vals new:List Value} {Lv L1 L2 Lf:List Blk} {F:Frz} {E:Env} {h:Array Obj}
  [Und P S (.slice e)] [Und P X .string] [Siz P e sz] [Inf P e i] [Zer P e z] (hz:z.cells.size=sz) (hm:Hp h F Lf) (hL:Lf=L1++(Lv++L2)) (sh:SlSh sz e v Lv vals) (hlx:∀ w:World,(Builtin.lenOf xv).run P w = .ok n w) (hload:∀ w:World,w.heap=h→(Builtin.firstCells sz n xv).run P w = .ok new.toArray w) (hn:new.length=n*sz) (hone:∀ u∈new,u.oneCell'=true)
  (hr:(vals.length+new.length)*(i.bytes+1)≤2 ^ 46) (hsz:0<sz) (w:World) (hw:At E h w) (hpos:0<n) :
  ∃ v' w' Lv' h',(Builtin.append_ #[S,X] ty #[v,xv]).run P w = .ok v' w'∧At E h' w'∧SlSh sz e v' Lv' (vals++new)∧Hp h' F (L1++(Lv'++L2)):=by
 have hlen:new.length ≥ n:=by rw [hn]; exact Nat.le_mul_of_pos_right n hsz
 have key:∀ (q:Option Addr) (sLen sCap:Nat) (old:List Value),v = .slice q sLen sCap→sCap<sLen+n→sLen≤vals.length→old=vals→(∀ w:World,w.heap=h→(Builtin.firstCells sz sLen v).run P w = .ok old.toArray w)→sLen*sz=vals.length →
   ∃ v' w' Lv' h',(Builtin.append_ #[S,X] ty #[v,xv]).run P w = .ok v' w'∧At E h' w'∧SlSh sz e v' Lv' (vals++new)∧Hp h' F (L1++(Lv'++L2)):=by
  intro q sLen sCap old hv hcap hsl hold hfirst hlen'
  subst hold
  have hb0:(sLen+n)*i.bytes≤2 ^ 46:=Nat.le_trans (Nat.mul_le_mul (by omega) (by omega)) hr
  have hb1:¬ Builtin.nextslicecap (sLen+n) sCap*i.bytes > 2 ^ 48:=by
   have h1:=K.nextslicecap_le (sLen+n) sCap hcap
   have h2:Builtin.nextslicecap (sLen+n) sCap*i.bytes≤2*(sLen+n)*i.bytes:=Nat.mul_le_mul_right _ h1
   have h3:2*(sLen+n)*i.bytes=2*((sLen+n)*i.bytes):=by rw [Nat.mul_assoc]
   omega
  have hb2:¬ (((sLen+n:Nat):Int) > IntKind.i64.max∧(false=true∨i.bytes=0)):=by
   have h4:(sLen+n)≤(old.length+new.length)*(i.bytes+1):=Nat.le_trans (by omega) (Nat.le_mul_of_pos_right _ (by omega))
   simp only [IntKind.max,IntKind.signed,IntKind.bits]
   simp
   omega
  let q':Question := .appendCap (sLen+n) sCap e
  let nc:=q'.cut (w.tape w.drawn q')
  have hnc:sLen+n≤nc:=Nat.le_add_right _ _
  let w1:World:=w.drew
  let cs:=old++new++(Builtin.zeroCells z.cells (nc - (sLen+n))).toList
  have hwh:w.heap=h:=hw.1
  refine ⟨.slice (some ⟨h.size,0,none⟩) (sLen+n) nc,{ w1 with heap:=w1.heap.push (.cells cs.toArray e (0,0)) },[(h.size,cs,BT.c e)],h.push (.cells cs.toArray e (0,0)),?_,⟨by rw [← hwh]; rfl,hw.2.1,hw.2.2.1,hw.2.2.2⟩, .inr ⟨h.size,sLen+n,nc,(Builtin.zeroCells z.cells (nc - (sLen+n))).toList,rfl,rfl,?_,?_,hnc⟩,?_⟩
  ·have hneg:¬ (sLen+n≤sCap):=by omega
   subst hv
   simp only [Builtin.append_]
   simp [und S w,und X w,siz e w,hlx,hneg,fun w=>inf (P:=P) e w,hb1]
   have hb2':¬ (9223372036854775807<((sLen:Int)+(n:Int))∧i.bytes=0):=by
    simp only [IntKind.max,IntKind.signed,IntKind.bits] at hb2
    simp at hb2
    omega
   simp only [IntKind.max,IntKind.signed,IntKind.bits] at *
   simp [hb2',Question.forced]
   have h5:=hfirst w1 hwh
   have h6:=hload w1 hwh
   simp only [w1] at h5 h6
   simp [h5,h6,fun w=>zer (P:=P) e w,newRow,hwh,cs,nc,q',w1]
   exact congrArg (fun a=>w.drew.alloc (Obj.cells a e)) (Array.ext' (by simp))
  ·simp [Nat.add_mul,hn]; omega
  ·simp only [List.length_append,Array.length_toList,length_zeroCells,hz]
   rw [hn,← hlen',Nat.sub_mul,Nat.add_mul]
   have:=Nat.mul_le_mul_right sz hnc
   rw [Nat.add_mul] at this
   omega
  ·have h7:=hm.push cs e
   have h8:Hp _ F ((h.size,cs,BT.c e)::(L1++L2)):=h7.sub (by rw [hL]; exact List.Sublist.cons_cons _ ((List.Sublist.refl _).append (List.sublist_append_right _ _)))
   exact h8.perm List.perm_middle
 rcases sh with ⟨rfl,rfl,rfl⟩ | ⟨B,sLen,cap,spare,rfl,rfl,hlen',hcap',hle⟩
 ·exact key none 0 0 [] rfl (by omega) (Nat.le_refl _) rfl (fun w _=>by simp [Builtin.firstCells]) (by simp)
 ·by_cases hroom:sLen+n≤cap
  ·have hmem:(B,vals++spare,BT.c e)∈Lf:=by rw [hL]; simp
   obtain ⟨fz,hfz,hb⟩:=(hm.own _ hmem).cells
   have hsp:new.length≤spare.length:=by
    have:=Nat.mul_le_mul_right sz hroom
    rw [Nat.add_mul] at this
    omega
   obtain ⟨w',h1,h2,h3,h4,h5,h6,h7⟩:=run_storeCellsZ (P:=P) new vals spare w B 0 e hfz hone (by rw [hw.1]; exact hb) hsp (sLen*sz) (by rw [hlen']; rfl)
   refine ⟨.slice (some ⟨B,0,none⟩) (sLen+n) cap,w',[(B,(vals++new)++spare.drop new.length,BT.c e)],w'.heap,?_,⟨rfl,by rw [h2]; exact hw.2.1,by rw [h3]; exact hw.2.2.1,by rw [h4]; exact hw.2.2.2⟩, .inr ⟨B,sLen+n,cap,spare.drop new.length,rfl,rfl,by simp [Nat.add_mul,hn]; omega,by simp; omega,hroom⟩,?_⟩
   ·have h8:=hload w hw.1
    simp only [Builtin.append_]
    simp [und S w,und X w,siz e w,hlx,hroom,h8,add_at,h1]
   ·have hml:Lf[L1.length]?=some (B,vals++spare,BT.c e):=by
     rw [hL]
     simp
    have hln2:((vals++new)++spare.drop new.length).length=(vals++spare).length:=by simp; omega
    have hp:=hm.put (h':=w'.heap) (cs':=(vals++new)++spare.drop new.length) hml (fun b hb'=>by rw [h6 b hb',hw.1]) hb (by rw [hln2]; exact hfz) (by rw [h7])
    rw [hL,List.set_append_right _ _ (Nat.le_refl _)] at hp
    simpa using hp
  ·refine key (some ⟨B,0,none⟩) sLen cap vals rfl (by omega) ?_ rfl (fun w hw'=>?_) hlen'
   ·rw [← hlen']; exact Nat.le_mul_of_pos_right _ hsz
   ·have hmem:(B,vals++spare,BT.c e)∈Lf:=by rw [hL]; simp
    obtain ⟨fz,_,hb⟩:=(hm.own _ hmem).cells
    have hc:=cells_of_row vals [] spare 0 (by simpa using hb) rfl
    subst hw'
    have:=K.run_loadCellsFrom (P:=P) w B 0 vals 0 #[] (by simpa using hc)
    simpa [Builtin.firstCells,loadCells,hlen'] using this
theorem run_appendH {P:Program} {S X e ty:TypeId} {X':TypeId} {i:TypeInfo} {z:Value} {sz n cx:Nat} {v:Value} {vals new:List Value} {Lv L1 L2 Lf:List Blk} {F:Frz} {Bx ox:Nat} {E:Env} {h:Array Obj}
  [Und P S (.slice e)] [Und P X (.slice X')] [Siz P e sz] [Inf P e i] [Zer P e z] (hz:z.cells.size=sz) (hm:Hp h F Lf) (hL:Lf=L1++(Lv++L2)) (sh:SlSh sz e v Lv vals) (hx:cellsFrom h Bx ox new) (hn:new.length=n*sz) (hone:∀ u∈new,u.oneCell'=true)
  (hr:(vals.length+new.length)*(i.bytes+1)≤2 ^ 46) (hsz:0<sz) (w:World) (hw:At E h w) (hpos:0<n) :
  ∃ v' w' Lv' h',(Builtin.append_ #[S,X] ty #[v, .slice (some ⟨Bx,ox,none⟩) n cx]).run P w = .ok v' w'∧At E h' w'∧SlSh sz e v' Lv' (vals++new)∧Hp h' F (L1++(Lv'++L2)) :=
 run_appendL (X':=X') hz hm hL sh (fun w=>by simp [Builtin.lenOf]) (fun w hw=>by
  subst hw
  have:=K.run_loadCellsFrom (P:=P) w Bx ox new 0 #[] (by simpa using hx)
  rw [hn] at this
  simpa [Builtin.firstCells,loadCells] using this) hn hone hr hsz w hw hpos
def Post {R:Type} (K:D→St→Option R) (r:R) (F:Frz) (ι:Gh) (s:St) (ρ:List Value) (L0:List Blk) (dt:Nat) (v:Value) (h':Array Obj):Prop :=
 ∃ F' ι' d' s',F.le F'∧Rel F' ι' s' ρ∧Hp h' F' (lv ι' s'.ow++L0)∧RdV F' ι' d' v∧K d' s'=some r∧s'.n=s.n∧s'.np=s.np∧s'.nw=s.nw∧(s.nw=false→F'.nid=F.nid)∧(∀ t,(s.np / 1000≤t∧t<s.np % 1000)→(ι' t).1=(ι t).1)∧∀ t,(∀ p∈s.ow,p.1≠t)→t≠dt→t / 1000≠dt+1→(SB≤t→(∀ p∈s.ow,p.1≠(t - SB) / 64)∧(t - SB) / 64 / 1000≠dt+1)→ι' t=ι t
section
variable {P:Program} {C:Cx} {R:Type} {F F':Frz} {ι ι':Gh} {s s':St} {ρ:List Value} {d:D} {v:Value} {t dt:Nat} {L0:List Blk} {r:R} {dst:Option Tmp} {ty:TypeId} {p:String} {af:Array Edge} {gd:Option (Nat×Bool)} {h:Array Obj}
theorem split_lv {b:OB} (hn:(s.ow.map (·.1)).Nodup) (hl:s.look t=some b):∃ l1 l2,lv ι s.ow=l1++((ι t).2++l2)∧lv ι (s.purge t).ow=l1++l2:=by
 obtain ⟨A,B,hs,hA,hB⟩:=split_ow hn hl
 refine ⟨lv ι A,lv ι B,by rw [hs,lv_append,lv_cons],?_⟩
 rw [lv_congr (purge_keys s t),hs,List.filter_append,List.filter_cons,filter_ne hA,filter_ne hB]
 simp [lv_append]
theorem f2_of_get {α β:Type} {R:α→β→Prop}:∀ {xs:List α} {Q:Nat→β→Prop},(∀ i x,xs[i]?=some x→∃ r,R x r∧Q i r)→∃ rows,F2 R xs rows∧∀ i r,rows[i]?=some r→Q i r
 | [],Q,_=>⟨[], .nil,fun i r hr=>by simp at hr⟩
 | x::xs,Q,hq=>by
  obtain ⟨r,h1,h2⟩:=hq 0 x rfl
  obtain ⟨rows,h3,h4⟩:=f2_of_get (xs:=xs) (Q:=fun i=>Q (i+1)) fun i y hy=>hq (i+1) y (by simpa using hy)
  refine ⟨r::rows, .cons h1 h3,fun i q hi=>?_⟩
  match i with
  | 0=>simp at hi; subst hi; exact h2
  | i+1=>exact h4 i q (by simpa using hi)
theorem f2_row {e:E}:∀ {xs:List e.T} {rows:List (List Value)},F2 (fun x r=>Rd F (e.enc x) r) xs rows→∀ r∈rows,r.length=e.sz
 | _,_, .nil,r,hr=>by cases hr
 | _,_, .cons h t,r,hr=>by
  rcases List.mem_cons.1 hr with rfl | hr
  ·rw [h.length,enc_len]
  ·exact f2_row t r hr
theorem f2_ones {e:E}:∀ {xs:List e.T} {rows:List (List Value)},F2 (fun x r=>Rd F (e.enc x) r) xs rows→∀ r∈rows,∀ u∈r,u.oneCell'=true
 | _,_, .nil,r,hr=>by cases hr
 | _,_, .cons h t,r,hr=>by
  rcases List.mem_cons.1 hr with rfl | hr
  ·exact h.ones (enc_plain _ _)
  ·exact f2_ones t r hr
theorem naL_inv {i:Nat} {e:E} {xs:List e.T} (h:naL s i e=some xs):∃ (c:Cl) (T A:TypeId) (hs:List c.R) (n:c.R),s.look NT=some (.nodes c T A hs none)∧hs[i]?=some n∧castE c.e e (c.xs n)=some xs:=by
 unfold naL at h
 split at h
 ·rename_i c T A hs hlk
  split at h
  ·rename_i n hn
   exact ⟨c,T,A,hs,n,hlk,hn,h⟩
  ·cases h
 ·cases h
theorem listOf_sound {e:E} {ys:List e.T} (hr:Rel F ι s ρ) (hm:Hp h F (lv ι s.ow++L0)) (hd:RdV F ι d v) (hl:listOf s d e=some ys) :
  ∃ qx nx cx rows,v = .slice qx nx cx∧nx=ys.length∧nx≤cx∧(0<nx→qx=some ⟨blk qx,offs qx,none⟩)∧F2 (fun x r=>Rd F (e.enc x) r) ys rows∧cellsFrom h (blk qx) (offs qx) rows.flatten:=by
 unfold listOf at hl
 split at hl
 ·cases hl
  exact ⟨none,0,0,[],Rd.nil_inv hd,rfl,Nat.le_refl _,fun h=>by omega, .nil,trivial⟩
 ·rename_i e' xs
  obtain ⟨rfl,rfl⟩:=castE_eq hl
  obtain ⟨q,cp,hv,hcp,hat⟩:=Rd.at hd
  obtain ⟨rows,h1,h2⟩:=f2_of_get (R:=fun x r=>Rd F (e'.enc x) r) (Q:=fun i cs=>q=some ⟨blk q,offs q,none⟩∧cellsF F (blk q) (offs q+i*e'.sz) cs) fun i x hx=>by
   obtain ⟨cs,a,b,c⟩:=hat i x hx
   exact ⟨cs,c,a,b⟩
  refine ⟨q,xs.length,cp,rows,hv,rfl,hcp,fun hpos=>?_,h1,SlR.all (f2_row h1) fun i r hi=>hm.cells (h2 i r hi).2⟩
  obtain ⟨cs,a,_⟩:=hat 0 xs[0] (by simp)
  exact a
 ·rename_i t'
  split at hl
  ·rename_i e' T xs hlk
   obtain ⟨rfl,rfl⟩:=castE_eq hl
   obtain ⟨q,n,cp,rows,g1,g2,g3⟩:=hr.look hlk
   have hd:v=(ι t').1:=hd
   have hml:n=xs.length:=by rw [g2.len,← forall2_len g3]
   refine ⟨q,n,cp,rows,by rw [hd,g1],hml,g2.le,fun hpos=>?_,g3,?_⟩
   ·rcases g2.sh with ⟨he,_,_⟩ | ⟨B,n',cap,spare,he,_,_,_,_⟩
    ·cases he; omega
    ·cases he; rfl
   ·rcases g2.sh with ⟨he,_,hv⟩ | ⟨B,n',cap,spare,he,hL,_,_,_⟩
    ·rw [hv]; trivial
    ·cases he
     obtain ⟨fz,_,this⟩:=(hm.own (B,rows.flatten++spare,BT.c T) (List.mem_append_left _ (lv_mem hlk (by rw [hL]; simp)))).cells
     exact cells_of_row rows.flatten [] spare 0 (by show h[B]?=_; simpa using this) rfl
  ·cases hl
 ·rename_i i
  obtain ⟨c,T,A,hs,n,hlk,hn,hl⟩:=naL_inv hl
  obtain ⟨he,hl⟩:=castE_eq hl
  subst he
  have hl:c.xs n=ys:=hl
  subst hl
  obtain ⟨q,n',cp,rows,Lv,e1,e2,e3,e4,e5⟩:=na_at hr hlk hn hd
  refine ⟨q,n',cp,rows,e1,e2,e3.le,fun hpos=>?_,e4,?_⟩
  ·rcases e3.sh with ⟨he,_,_⟩ | ⟨B,n'',cap,spare,he,_,_,_,_⟩
   ·cases he; omega
   ·cases he; rfl
  ·rcases e3.sh with ⟨he,_,hv⟩ | ⟨B,n'',cap,spare,he,hL,_,_,_⟩
   ·rw [hv]; trivial
   ·cases he
    obtain ⟨fz,_,this⟩:=(e5 hm (B,rows.flatten++spare,BT.c A) (by rw [hL]; simp)).cells
    exact cells_of_row rows.flatten [] spare 0 (by show h[B]?=_; simpa using this) rfl
 ·rename_i z i a b
  cases hz:(z == e.sz) with
  | false=>rw [hz] at hl; cases hl
  | true =>
   rw [hz] at hl
   simp only [cond_true] at hl
   have hz:z=e.sz:=by simpa using hz
   subst hz
   split at hl
   ·rename_i xs hna
    cases hl
    obtain ⟨c,T,A,hs,n,hlk,hn,hc⟩:=naL_inv hna
    obtain ⟨he,hc⟩:=castE_eq hc
    subst he
    have hc:c.xs n=xs:=hc
    subst hc
    obtain ⟨hds,q0,n0,cp0,g1,g2,hab,hbn,hv⟩:=hd
    obtain ⟨q,n',cp,rows,Lv,e1,e2,e3,e4,e5⟩:=na_at (v := .slice q0 n0 cp0) hr hlk hn ⟨hds,g1,g2⟩
    cases e1
    have hle:=e3.le
    have hlr:rows.length=n0:=e3.len.symm
    have hlx:(c.xs n).length=n0:=e2.symm
    have hf2:F2 (fun x r=>Rd F (c.e.enc x) r) (((c.xs n).take b).drop a) ((rows.take b).drop a):=(e4.take b).drop a
    have hlen:(((c.xs n).take b).drop a).length=b - a:=by simp; omega
    refine ⟨_,b - a,cp0 - a,(rows.take b).drop a,hv,hlen.symm,by omega,fun hpos=>?_,hf2,?_⟩
    ·rw [if_neg (by omega)]
     rcases e3.sh with ⟨he,_,_⟩ | ⟨B,n'',cap,spare,he,_,_,_,_⟩
     ·have:n0=0:=by cases he; rfl
      omega
     ·have:q0=some ⟨B,0,none⟩:=by cases he; rfl
      subst this
      simp [add_at,blk,offs]
    ·rcases Nat.eq_or_lt_of_le hab with h0 | hlt
     ·have:(rows.take b).drop a=[]:=by
       apply List.eq_nil_of_length_eq_zero
       simp; omega
      rw [this]; trivial
     ·rw [if_neg (by omega)]
      rcases e3.sh with ⟨he,_,_⟩ | ⟨B,n'',cap,spare,he,hL,_,_,_⟩
      ·have:n0=0:=by cases he; rfl
       omega
      ·have:q0=some ⟨B,0,none⟩:=by cases he; rfl
       subst this
       obtain ⟨fz,_,this⟩:=(e5 hm (B,rows.flatten++spare,BT.c A) (by rw [hL]; simp)).cells
       have hsp:rows=rows.take a++((rows.take b).drop a++rows.drop b):=by
        have h1:rows.take b=rows.take a++(rows.take b).drop a:=by
         conv=>lhs; rw [← List.take_append_drop a (rows.take b)]
         rw [List.take_take,Nat.min_eq_left hab]
        rw [← List.append_assoc,← h1,List.take_append_drop]
       have hfl:rows.flatten++spare=(rows.take a).flatten++((rows.take b).drop a).flatten++((rows.drop b).flatten++spare):=by
        conv=>lhs; rw [hsp]
        simp only [List.flatten_append,List.append_assoc]
       simp only at this
       rw [hfl] at this
       have hla:(rows.take a).flatten.length=a*c.e.sz:=by
        rw [flat_len (sz:=c.e.sz) (fun r hr=>e3.row r (List.mem_of_mem_take hr))]
        simp only [List.length_take]
        rw [Nat.min_eq_left (by omega)]
       have:=cells_of_row ((rows.take b).drop a).flatten (rows.take a).flatten ((rows.drop b).flatten++spare) (a*c.e.sz) (by show h[B]?=_; simpa using this) hla.symm
       simpa [blk,offs,add_at] using this
   ·cases hl
 ·cases hl
theorem listK_inv {R:Type} {r:R} {e:E} {k:List e.T→Option R} (h:listK s d e k=some r):∃ ys,listOf s d e=some ys∧k ys=some r:=by
 unfold listK at h
 split at h
 ·split at h
  ·rename_i i c T A hs hlk
   obtain ⟨n,hn,h⟩:=Option.bind_eq_some_iff.1 h
   split at h
   ·rename_i xs hc
    exact ⟨xs,by simp only [listOf,naL,hlk,hn,hc],h⟩
   ·cases h
  ·cases h
 ·rename_i z i a b
  cases hz:(z == e.sz) with
  | false=>rw [hz] at h; cases h
  | true =>
   rw [hz] at h
   simp only [cond_true] at h
   split at h
   ·rename_i c T A hs hlk
    obtain ⟨n,hn,h⟩:=Option.bind_eq_some_iff.1 h
    split at h
    ·rename_i xs hc
     exact ⟨(xs.take b).drop a,by simp only [listOf,naL,hlk,hn,hc,hz,cond_true],h⟩
    ·cases h
   ·cases h
 ·split at h
  ·rename_i xs hl
   exact ⟨xs,hl,h⟩
  ·cases h
theorem ef_append {S X et X':TypeId} {e:E} {x y:Operand} {q qx:Option Addr} {n cp nx cx:Nat} {Lv L1 L2 Lf:List Blk} {rows news:List (List Value)} {i:TypeInfo} {z:Value} [Und P S (.slice et)] [Und P X (.slice X')] [Siz P et e.sz] [Inf P et i] [Zer P et z] (hz:z.cells.size=e.sz) (hx:ev ρ x = .slice q n cp) (hy:ev ρ y = .slice qx nx cx) (hm:Hp h F Lf) (hL:Lf=L1++(Lv++L2)) (hs:SlO e.sz et q n cp Lv rows)
  (hrd:cellsFrom h (blk qx) (offs qx) news.flatten) (hq:0<nx→qx=some ⟨blk qx,offs qx,none⟩) (hnx:nx=news.length) (hn:∀ r∈news,r.length=e.sz) (hone:∀ r∈news,∀ u∈r,u.oneCell'=true) (hb:e.sz*(i.bytes+1)≤32768) (hr:n+nx≤2147483648) :
  Ef P ρ ⟨dst, .call ⟨.builtin .append,#[x,y],#[S,X]⟩,ty,p,af,gd⟩ h fun v h'=>∃ q' cp' Lv',v = .slice q' (n+nx) cp'∧SlO e.sz et q' (n+nx) cp' Lv' (rows++news)∧Hp h' F (L1++(Lv'++L2)):=by
 have hfl:=flat_len hs.row
 have hln:=hs.len
 have hfn:=flat_len hn
 have hsz:=sz_pos e
 rcases Nat.eq_zero_or_pos nx with h0 | hpos
 ·have hnil:news=[]:=List.eq_nil_of_length_eq_zero (by omega)
  subst hnil
  have hle:=hs.le
  refine ⟨fun E w hA=>?_⟩
  have hfc:(Builtin.firstCells e.sz 0 (.slice qx 0 cx)).run P w = .ok #[] w:=by
   cases qx <;> simp [Builtin.firstCells,loadCells,loadCellsFrom]
  have hrun:(Builtin.append_ #[S,X] ty #[.slice q n cp, .slice qx 0 cx]).run P w = .ok (.slice q n cp) w:=by
   simp only [Builtin.append_]
   cases q <;> simp [und S w,und X w,siz et w,Builtin.lenOf,hle,hfc,storeCells]
  refine ⟨.value (.slice q n cp),w,h, .slice q n cp,by simp [execOp,resolve,hx,hy,h0,invoke,builtin,hrun],hA, .inl rfl,q,cp,Lv,by rw [h0]; rfl,by simpa [h0] using hs,by rw [← hL]; exact hm⟩
 ·have hya:ev ρ y = .slice (some ⟨blk qx,offs qx,none⟩) nx cx:=by rw [hy,← hq hpos]
  refine ⟨fun E w hA=>?_⟩
  obtain ⟨v',w',Lv',h',hrun,hA',hsh,hm'⟩:=run_appendH (P:=P) (ty:=ty) hz hm hL hs.sh hrd (by rw [hfn,hnx]) (fun u hu=>by
   obtain ⟨r,hr1,hr2⟩:=List.mem_flatten.1 hu
   exact hone r hr1 u hr2) (by
    rw [hfl,hfn,← hln,← hnx,← Nat.add_mul]
    have h2:(n+nx)*(e.sz*(i.bytes+1))≤2147483648*32768:=Nat.mul_le_mul hr hb
    rw [Nat.mul_assoc]
    omega) hsz w hA hpos (S:=S) (X:=X) (cx:=cx)
  have hv:∃ q' cp',v' = .slice q' (n+nx) cp':=by
   rcases hsh with ⟨rfl,_,h1⟩ | ⟨B,n',cap,spare,rfl,_,h1,_,_⟩
   ·have:=congrArg List.length h1
    have h3:0<nx*e.sz:=Nat.mul_pos hpos hsz
    simp [hfn,← hnx] at this
    omega
   ·have h2:n'*e.sz=(n+nx)*e.sz:=by rw [h1,List.length_append,hfl,hfn,← hln,← hnx,Nat.add_mul]
    have:=Nat.eq_of_mul_eq_mul_right hsz h2
    exact ⟨_,_,by rw [this]⟩
  obtain ⟨q',cp',rfl⟩:=hv
  refine ⟨.value (.slice q' (n+nx) cp'),w',h', .slice q' (n+nx) cp',by simp [execOp,resolve,hx,hya,invoke,builtin,hrun],hA', .inl rfl,q',cp',Lv',rfl,⟨by simpa using hsh,by simp [hln,hnx],fun r hr=>?_⟩,hm'⟩
  rcases List.mem_append.1 hr with hr | hr
  ·exact hs.row r hr
  ·exact hn r hr
theorem zero_repN {z:Array Value} {sz:Nat} (hz:z.size=sz) (hp:0<sz) (m:Nat):(Array.range (m*sz)).map (fun x=>z[x % z.size]!)=(List.replicate m z.toList).flatten.toArray:=by
 have hl:∀ r∈List.replicate m z.toList,r.length=sz:=fun r hr=>by rw [(List.mem_replicate.1 hr).2]; simpa using hz
 have hfl:=flat_len hl
 rw [List.length_replicate] at hfl
 apply Array.ext
 ·simp [hfl]
 ·intro i h1 h2
  simp only [Array.size_map,Array.size_range] at h1
  have hq:i / sz<m:=Nat.div_lt_of_lt_mul (by rw [Nat.mul_comm]; exact h1)
  have hr:i % sz<sz:=Nat.mod_lt _ hp
  obtain ⟨pre,post,e1,e2⟩:=flat_split (i:=i / sz) (r:=z.toList) hl (by rw [List.getElem?_replicate,if_pos hq])
  have hi:i=pre.length+i % sz:=by rw [e2,Nat.mul_comm]; exact (Nat.div_add_mod i sz).symm
  have hg:(List.replicate m z.toList).flatten[i]?=some z[i % sz]:=by
   rw [e1,List.append_assoc,List.getElem?_append_right (by omega),show i - pre.length=i % sz by omega,List.getElem?_append_left (by simpa [hz] using hr)]
   simp [hz,hr]
  have hg2:(List.replicate m z.toList).flatten.toArray[i]?=some z[i % sz]:=by simpa using hg
  have h3:(List.replicate m z.toList).flatten.toArray[i]=z[i % sz]:=by
   have:=Array.getElem?_eq_getElem h2
   rw [this] at hg2
   exact Option.some.inj hg2
  rw [h3]
  simp [hz,hr]
theorem ex_makeSliceN {T e ty':TypeId} {i:TypeInfo} {zv:Value} {n m sz:Nat} {d:Option Tmp} {g:Option (Nat×Bool)} {x y:Operand} [Und P T (.slice e)] [Siz P e sz] [Inf P e i] [Zer P e zv] (hsz:0<sz) (hz:zv.cells.size=sz) (hx:ev ρ x = .int .i64 (n:Int)) (hy:ev ρ y = .int .i64 (m:Int)) (hb:i.bytes≤300) (hnm:n≤m) (hm:m≤2 ^ 20):Ex P ρ ⟨d, .makeSlice T x y,ty',p,af,g⟩ h (.slice (some ⟨h.size,0,none⟩) n m) (h.push (.cells (List.replicate m zv.cells.toList).flatten.toArray e (0,0))):=⟨fun E w hw=>by
 have hw1:IntKind.wrap .i64 (m:Int)=(m:Int):=wrap_n64 (by omega)
 have hw2:IntKind.wrap .i64 (n:Int)=(n:Int):=wrap_n64 (by omega)
 have h2:(i.bytes:Int)*(m:Int)≤2 ^ 48:=by
  have:=Nat.mul_le_mul hb hm
  have h3:((i.bytes*m:Nat):Int)≤((300*2 ^ 20:Nat):Int):=by exact_mod_cast this
  rw [Int.natCast_mul] at h3
  omega
 have hcap:¬ (281474976710656<(i.bytes:Int)*(m:Int)):=by omega
 have hwh:w.heap=h:=hw.1
 have hneg:¬ ((m:Int)<0):=by omega
 have hneg2:¬ ((n:Int)<0):=by omega
 have hle:¬ ((m:Int)<(n:Int)):=by omega
 have hms:m*sz=0↔m=0:=by
  constructor
  ·intro h0
   rcases Nat.mul_eq_zero.1 h0 with h0 | h0
   ·exact h0
   ·omega
  ·intro h0; rw [h0,Nat.zero_mul]
 refine ⟨.value (.slice (some ⟨w.heap.size,0,none⟩) n m),{ w with heap:=w.heap.push (.cells (List.replicate m zv.cells.toList).flatten.toArray e (0,0)) },?_,by rw [← hwh]; exact ⟨rfl,hw.2.1,hw.2.2.1,hw.2.2.2⟩, .inl (by rw [hwh])⟩
 simp only [execOp,Instr.makeSlice,hx,hy]
 rcases Nat.eq_zero_or_pos m with h0 | h0
 ·subst h0
  obtain rfl:n=0:=by omega
  have hw0:IntKind.wrap .i64 0=0:=by rfl
  simp [und T w,siz e w,fun w=>inf (P:=P) e w,asInt,asIntOf,hw0,askRoom,newRow]
  exact congrArg (fun a=>w.alloc (Obj.cells a e)) (Array.ext' (by simp))
 ·have hne:¬ (m*sz=0):=fun e=>by rw [hms] at e; omega
  simp [und T w,siz e w,fun w=>inf (P:=P) e w,fun w=>zer (P:=P) e w,asInt,asIntOf,hw1,hw2,askRoom,hcap,hneg,hneg2,hle,hnm,newRow,show m≠0 by omega,show sz≠0 by omega]
  rw [if_neg hne]
  have:=zero_repN hz hsz m
  rw [this]⟩
theorem ef_copy {S et:TypeId} {tl:List TypeId} {sz:Nat} {x y:Operand} {q qx:Option Addr} {n cp nx cx:Nat} {Lv L:List Blk} {rows news:List (List Value)} [Und P S (.slice et)] [Siz P et sz] (hx:ev ρ x = .slice q n cp) (hy:ev ρ y = .slice qx nx cx) (hm:Hp h F (Lv++L)) (hs:SlO sz et q n cp Lv rows) (hrd:cellsFrom h (blk qx) (offs qx) news.flatten) (hq:0<nx→qx=some ⟨blk qx,offs qx,none⟩) (hnx:nx=news.length) (hn:∀ r∈news,r.length=sz) (hone:∀ r∈news,∀ u∈r,u.oneCell'=true) :
  Ef P ρ ⟨dst, .call ⟨.builtin .copy,#[x,y],(S::tl).toArray⟩,ty,p,af,gd⟩ h fun v h'=>v = .int .i64 ((min nx n:Nat):Int)∧∃ Lv',SlO sz et q n cp Lv' (news.take (min nx n)++rows.drop (min nx n))∧Hp h' F (Lv'++L):=by
 have hln:=hs.len
 generalize hmm:min nx n=m
 have hm1:m≤nx:=by omega
 have hm2:m≤n:=by omega
 have hsplit:news.flatten=(news.take m).flatten++(news.drop m).flatten:=by rw [← List.flatten_append,List.take_append_drop]
 have hrd':=hrd
 rw [hsplit] at hrd'
 have hrd1:=cellsFrom_left hrd'
 have hlt:(news.take m).flatten.length=m*sz:=by
  rw [flat_len (sz:=sz) fun r hr=>hn r (List.mem_of_mem_take hr)]
  simp only [List.length_take]
  rw [Nat.min_eq_left (by omega)]
 have hfc:∀ w:World,w.heap=h→(Builtin.firstCells sz m (.slice qx nx cx)).run P w = .ok (news.take m).flatten.toArray w:=fun w hw=>by
  rcases Nat.eq_zero_or_pos m with h0 | h0
  ·subst h0
   cases qx <;> simp [Builtin.firstCells,loadCells,loadCellsFrom]
  ·rw [hq (by omega)]
   have:=K.run_loadCellsFrom (P:=P) w (blk qx) (offs qx) (news.take m).flatten 0 #[] (by rw [hw]; simpa using hrd1)
   rw [hlt] at this
   simpa [Builtin.firstCells,loadCells] using this
 refine ⟨fun E w hw=>?_⟩
 rcases hs.sh with ⟨he,hLv,hv⟩ | ⟨B,n',cap,spare,he,hL,hl1,hl2,hl3⟩
 ·have hn0:n=0:=by cases he; rfl
  have hq0:q=none:=by cases he; rfl
  have hm0:m=0:=by omega
  subst hn0 hq0 hm0
  refine ⟨.value (.int .i64 0),w,h, .int .i64 0,?_,hw, .inl rfl,by simp,Lv,by simpa using hs,hm⟩
  have hf:=hfc w hw.1
  have hmin:Nat.min nx 0=0:=Nat.min_zero _
  simp [execOp,resolve,hx,hy,invoke,builtin,Builtin.copy_,und S w,siz et w,Builtin.lenOf,hmin,hf,goInt]
 ·have hqe:q=some ⟨B,0,none⟩:=by cases he; rfl
  have hne:n=n':=by cases he; rfl
  have hce:cp=cap:=by cases he; rfl
  subst hqe hne hce hL
  obtain ⟨fz,hfz,hb⟩:=(hm.own (B,rows.flatten++spare,BT.c et) (by simp)).cells
  simp only at hb hfz
  have hfl:=flat_len hs.row
  obtain ⟨w',h1,h2,h3,h4,h5,h6,h7⟩:=run_storeCellsZ (P:=P) (news.take m).flatten [] (rows.flatten++spare) w B 0 et (by simpa using hfz) (fun u hu=>by
   obtain ⟨r,hr1,hr2⟩:=List.mem_flatten.1 hu
   exact hone r (List.mem_of_mem_take hr1) u hr2) (by rw [hw.1,hb]; simp) (by
    rw [hlt,List.length_append,hfl,← hln]
    have:=Nat.mul_le_mul_right sz hm2
    omega) 0 rfl
  have hsp2:rows.flatten=(rows.take m).flatten++(rows.drop m).flatten:=by rw [← List.flatten_append,List.take_append_drop]
  have hlt2:(rows.take m).flatten.length=m*sz:=by
   rw [flat_len (sz:=sz) fun r hr=>hs.row r (List.mem_of_mem_take hr)]
   simp only [List.length_take]
   rw [Nat.min_eq_left (by omega)]
  have hdr:(rows.flatten++spare).drop (m*sz)=(rows.drop m).flatten++spare:=by
   rw [hsp2,List.append_assoc,List.drop_left' hlt2]
  have hrow:∀ r∈news.take m++rows.drop m,r.length=sz:=fun r hr=>by
   rcases List.mem_append.1 hr with hr | hr
   ·exact hn r (List.mem_of_mem_take hr)
   ·exact hs.row r (List.mem_of_mem_drop hr)
  have hlen:(news.take m++rows.drop m).length=n:=by simp; omega
  have hfl2:=flat_len hrow
  rw [hlen] at hfl2
  refine ⟨.value (.int .i64 (m:Int)),w',w'.heap, .int .i64 (m:Int),?_,⟨rfl,by rw [h2]; exact hw.2.1,by rw [h3]; exact hw.2.2.1,by rw [h4]; exact hw.2.2.2⟩, .inl rfl,rfl,[(B,(news.take m++rows.drop m).flatten++spare,BT.c et)],⟨.inr ⟨B,n,cp,spare,rfl,rfl,hfl2.symm,by rw [hfl2]; rw [hfl,← hln] at hl2; exact hl2,hl3⟩,hlen.symm,hrow⟩,?_⟩
  ·have hmin:Nat.min nx n=m:=hmm
   have hf:=hfc w hw.1
   simp [execOp,resolve,hx,hy,invoke,builtin,Builtin.copy_,und S w,siz et w,Builtin.lenOf,hmin,hf,goInt,h1]
  ·refine hm.put (j:=0) (cs':=(news.take m++rows.drop m).flatten++spare) (fz:=fz) rfl (fun b hb'=>by rw [h6 b hb',hw.1]) hb ?_ ?_
   ·rw [List.length_append,hfl2]
    rw [List.length_append,hfl,← hln] at hfz
    exact hfz
   ·rw [h7,hlt,hdr]
    simp
theorem ef_copyS {S et:TypeId} {tl:List TypeId} {sz:Nat} {x y:Operand} {q:Option Addr} {n cp nx:Nat} {Lv L:List Blk} {rows news:List (List Value)} {ys:List UInt8} [Und P S (.slice et)] [Siz P et sz] (hsz1:sz=1) (hx:ev ρ x = .slice q n cp) (hy:ev ρ y=bs ys) (hm:Hp h F (Lv++L)) (hs:SlO sz et q n cp Lv rows) (hnews:news=ys.map fun c=>[Value.int .u8 (c.toNat:Int)]) (hnx:nx=news.length) (hn:∀ r∈news,r.length=sz) (hone:∀ r∈news,∀ u∈r,u.oneCell'=true) :
  Ef P ρ ⟨dst, .call ⟨.builtin .copy,#[x,y],(S::tl).toArray⟩,ty,p,af,gd⟩ h fun v h'=>v = .int .i64 ((min nx n:Nat):Int)∧∃ Lv',SlO sz et q n cp Lv' (news.take (min nx n)++rows.drop (min nx n))∧Hp h' F (Lv'++L):=by
 have hln:=hs.len
 generalize hmm:min nx n=m
 have hm1:m≤nx:=by omega
 have hm2:m≤n:=by omega
 have hsplit:news.flatten=(news.take m).flatten++(news.drop m).flatten:=by rw [← List.flatten_append,List.take_append_drop]
 have hlt:(news.take m).flatten.length=m*sz:=by
  rw [flat_len (sz:=sz) fun r hr=>hn r (List.mem_of_mem_take hr)]
  simp only [List.length_take]
  rw [Nat.min_eq_left (by omega)]
 have hfl0:∀ l:List UInt8,(l.map fun c=>[Value.int .u8 (c.toNat:Int)]).flatten=l.map fun c=>Value.int .u8 (c.toNat:Int):=fun l=>by
  induction l with
  | nil=>rfl
  | cons a l ih=>simp [ih]
 have hnl:nx=ys.length:=by rw [hnx,hnews,List.length_map]
 have hso:∀ w:World,(Builtin.lenOf (bs ys)).run P w = .ok nx w:=fun w=>by
  rw [hnl]
  simp [Builtin.lenOf,bs,ByteArray.size]
 have hfc:∀ w:World,w.heap=h→(Builtin.firstCells sz m (bs ys)).run P w = .ok (news.take m).flatten.toArray w:=fun w hw=>by
  rw [hnews,← List.map_take,hfl0]
  simp [Builtin.firstCells,bs,ByteArray.extract,ByteArray.copySlice]
 refine ⟨fun E w hw=>?_⟩
 rcases hs.sh with ⟨he,hLv,hv⟩ | ⟨B,n',cap,spare,he,hL,hl1,hl2,hl3⟩
 ·have hn0:n=0:=by cases he; rfl
  have hq0:q=none:=by cases he; rfl
  have hm0:m=0:=by omega
  subst hn0 hq0 hm0
  refine ⟨.value (.int .i64 0),w,h, .int .i64 0,?_,hw, .inl rfl,by simp,Lv,by simpa using hs,hm⟩
  have hf:=hfc w hw.1
  have hmin:Nat.min nx 0=0:=Nat.min_zero _
  simp [execOp,resolve,hx,hy,invoke,builtin,Builtin.copy_,und S w,siz et w,hso,hmin,hf,goInt]
 ·have hqe:q=some ⟨B,0,none⟩:=by cases he; rfl
  have hne:n=n':=by cases he; rfl
  have hce:cp=cap:=by cases he; rfl
  subst hqe hne hce hL
  obtain ⟨fz,hfz,hb⟩:=(hm.own (B,rows.flatten++spare,BT.c et) (by simp)).cells
  simp only at hb hfz
  have hfl:=flat_len hs.row
  obtain ⟨w',h1,h2,h3,h4,h5,h6,h7⟩:=run_storeCellsZ (P:=P) (news.take m).flatten [] (rows.flatten++spare) w B 0 et (by simpa using hfz) (fun u hu=>by
   obtain ⟨r,hr1,hr2⟩:=List.mem_flatten.1 hu
   exact hone r (List.mem_of_mem_take hr1) u hr2) (by rw [hw.1,hb]; simp) (by
    rw [hlt,List.length_append,hfl,← hln]
    have:=Nat.mul_le_mul_right sz hm2
    omega) 0 rfl
  have hsp2:rows.flatten=(rows.take m).flatten++(rows.drop m).flatten:=by rw [← List.flatten_append,List.take_append_drop]
  have hlt2:(rows.take m).flatten.length=m*sz:=by
   rw [flat_len (sz:=sz) fun r hr=>hs.row r (List.mem_of_mem_take hr)]
   simp only [List.length_take]
   rw [Nat.min_eq_left (by omega)]
  have hdr:(rows.flatten++spare).drop (m*sz)=(rows.drop m).flatten++spare:=by
   rw [hsp2,List.append_assoc,List.drop_left' hlt2]
  have hrow:∀ r∈news.take m++rows.drop m,r.length=sz:=fun r hr=>by
   rcases List.mem_append.1 hr with hr | hr
   ·exact hn r (List.mem_of_mem_take hr)
   ·exact hs.row r (List.mem_of_mem_drop hr)
  have hlen:(news.take m++rows.drop m).length=n:=by simp; omega
  have hfl2:=flat_len hrow
  rw [hlen] at hfl2
  refine ⟨.value (.int .i64 (m:Int)),w',w'.heap, .int .i64 (m:Int),?_,⟨rfl,by rw [h2]; exact hw.2.1,by rw [h3]; exact hw.2.2.1,by rw [h4]; exact hw.2.2.2⟩, .inl rfl,rfl,[(B,(news.take m++rows.drop m).flatten++spare,BT.c et)],⟨.inr ⟨B,n,cp,spare,rfl,rfl,hfl2.symm,by rw [hfl2]; rw [hfl,← hln] at hl2; exact hl2,hl3⟩,hlen.symm,hrow⟩,?_⟩
  ·have hmin:Nat.min nx n=m:=hmm
   have hf:=hfc w hw.1
   simp [execOp,resolve,hx,hy,invoke,builtin,Builtin.copy_,und S w,siz et w,hso,hmin,hf,goInt,h1]
  ·refine hm.put (j:=0) (cs':=(news.take m++rows.drop m).flatten++spare) (fz:=fz) rfl (fun b hb'=>by rw [h6 b hb',hw.1]) hb ?_ ?_
   ·rw [List.length_append,hfl2]
    rw [List.length_append,hfl,← hln] at hfz
    exact hfz
   ·rw [h7,hlt,hdr]
    simp
theorem ef_store {T:TypeId} {n:Nat} [Siz P T n] {x y:Operand} {u:Value} {B off j:Nat} {pre old post new:List Value} {fz:TypeId} {L:List Blk} (hx:ev ρ x = .pointer (some ⟨B,off,none⟩)) (hy:ev ρ y=u) (hc:u.cells=new.toArray) (hn:new.length=n) (hone:∀ u∈new,u.oneCell'=true) (hm:Hp h F L) (hj:L[j]?=some (B,pre++old++post,BT.c fz)) (ho:off=pre.length) (hol:old.length=n) :
  Ef P ρ ⟨dst, .store T x y,ty,p,af,gd⟩ h fun v h'=>v=undef∧Hp h' F (L.set j (B,pre++new++post,BT.c fz)):=⟨fun E w hw=>by
 obtain ⟨fzz,hfz,hb⟩:=(hm.own _ (List.mem_of_getElem? hj)).cells
 simp only at hb
 obtain ⟨w',h1,h2,h3,h4,h5,h6,h7⟩:=run_storeCellsZ (P:=P) new pre (old++post) w B 0 fz (by simpa using hfz) hone (by rw [hw.1,hb]; simp) (by simp; omega) off (by omega)
 refine ⟨.skip,w',w'.heap,undef,?_,⟨rfl,by rw [h2]; exact hw.2.1,by rw [h3]; exact hw.2.2.1,by rw [h4]; exact hw.2.2.2⟩, .inr ⟨rfl,rfl⟩,rfl,?_⟩
 ·simp [execOp,hx,hy,Instr.storeAt,Instr.sureAddr,storeVar,siz T w,hc,hn,h1]
 ·have hln:(pre++new++post).length=(pre++old++post).length:=by simp; omega
  refine hm.put hj (fun b hb'=>by rw [h6 b hb',hw.1]) hb (by rw [hln]; exact hfz) ?_
  rw [h7]
  have:(old++post).drop new.length=post:=by rw [hn,← hol]; simp
  rw [this]⟩
theorem ef_store0 {T:TypeId} {n:Nat} [Siz P T n] {x y:Operand} {u:Value} {B off:Nat} {pre old post new:List Value} {fz:TypeId} {L:List Blk} (hx:ev ρ x = .pointer (some ⟨B,off,none⟩)) (hy:ev ρ y=u) (hc:u.cells=new.toArray) (hn:new.length=n) (hone:∀ u∈new,u.oneCell'=true) (hm:Hp h F ((B,pre++old++post,BT.c fz)::L)) (ho:off=pre.length) (hol:old.length=n) :
  Ef P ρ ⟨dst, .store T x y,ty,p,af,gd⟩ h fun v h'=>v=undef∧Hp h' F ((B,pre++new++post,BT.c fz)::L) :=
 ef_store (j:=0) hx hy hc hn hone hm rfl ho hol
theorem lv_perm {b:OB} (hn:(s.ow.map (·.1)).Nodup) (hl:s.look t=some b):(lv ι s.ow).Perm ((ι t).2++lv ι (s.purge t).ow):=by
 obtain ⟨l1,l2,h1,h2⟩:=split_lv (ι:=ι) hn hl
 rw [h1,h2]
 exact List.perm_append_comm_assoc _ _ _
theorem find_filter {t':Nat} (hne:t'≠t):∀ l:List (Nat×OB),(l.filter fun p=>!(p.1 == t)).find? (fun p=>p.1 == t')=l.find? fun p=>p.1 == t'
 | []=>rfl
 | p::l=>by
  rw [List.filter_cons,List.find?_cons]
  by_cases h:p.1=t
  ·have h1:(p.1 == t')=false:=by simp; exact fun e=>hne (e.symm.trans h)
   have h2:(!(p.1 == t))=false:=by simp [h]
   rw [h2,h1]
   simp only [Bool.false_eq_true,if_false]
   exact find_filter hne l
  ·have h2:(!(p.1 == t))=true:=by simp [h]
   rw [h2]
   simp only [if_true]
   rw [List.find?_cons,find_filter hne l]
theorem purge_look {b:OB} {t':Nat} (hne:t'≠t) (hl:s.look t'=some b):(s.purge t).look t'=some (b.purge (s.gone t) t):=by
 unfold St.look at *
 simp only [St.purge]
 rw [List.find?_map]
 have h1:((fun p:Nat×OB=>p.1 == t') ∘ fun p:Nat×OB=>(p.1,p.2.purge (s.gone t) t))=fun p=>p.1 == t':=rfl
 rw [h1,find_filter hne]
 cases hf:s.ow.find? (fun p=>p.1 == t') with
 | none=>rw [hf] at hl; cases hl
 | some p =>
  rw [hf] at hl
  cases hl
  rfl
theorem NR.len {c:Cl} {T A:TypeId} {hole:Option Nat}:∀ {k:Nat} {hs:List c.R} {hds:List Value} {L:List Blk},NR F T A hole k hs hds L→hds.length=hs.length
 | _,_,_,_, .nil=>rfl
 | _,_,_,_, .cons _ _ _ _ _ t=>by simp [t.len]
theorem NR.append {c:Cl} {T A:TypeId} {hole:Option Nat} {hs2:List c.R} {hds2:List Value} {L2:List Blk}:∀ {k:Nat} {hs:List c.R} {hds:List Value} {L:List Blk},NR F T A hole k hs hds L→NR F T A hole (k+hs.length) hs2 hds2 L2→NR F T A hole k (hs++hs2) (hds++hds2) (L++L2)
 | _,_,_,_, .nil,h=>h
 | k,_::hs,_,_, .cons hB hc h1 ha hh t,h=>by
  have:=t.append (by rw [show k+1+hs.length=k+(hs.length+1) by omega]; exact h)
  have h2:=NR.cons hB hc h1 ha hh this
  simpa using h2
theorem NR.other {c:Cl} {T A:TypeId} {hole hole':Option Nat}:∀ {k:Nat} {hs:List c.R} {hds:List Value} {L:List Blk},NR F T A hole k hs hds L→(∀ i,k≤i→i<k+hs.length→hole≠some i∧hole'≠some i)→NR F T A hole' k hs hds L
 | _,_,_,_, .nil,_ => .nil
 | k,_::hs,_,_, .cons hB hc h1 ha hh t,hn=>by
  have h0:=hn k (Nat.le_refl _) (by simp)
  exact .cons hB hc h1 (fun _=>ha h0.1) (fun e=>absurd e h0.2) (t.other fun i h1 h2=>hn i (by omega) (by simp at h2 ⊢; omega))
structure N1 (F:Frz) {c:Cl} (T A:TypeId) (hole:Option Nat) (i:Nat) (n:c.R) (hd:Value) (B:Nat) (cs:List Value) (Lv:List Blk):Prop where
 hB:F.nid i=some B
 hc:Rd F (c.enc n) cs
 h1:hd.oneCell'=true
 ha:hole≠some i→LsR F c A n hd Lv
 hh:hole=some i→Lv=[]
theorem N1.nr {c:Cl} {T A:TypeId} {hole:Option Nat} {i B:Nat} {n:c.R} {hd:Value} {cs:List Value} {Lv:List Blk} (h:N1 F T A hole i n hd B cs Lv):NR F T A hole i [n] [hd] ((B,cs++[hd],BT.c T)::Lv):=by
 have:=NR.cons (T:=T) h.hB h.hc h.h1 h.ha h.hh .nil
 simpa using this
theorem NR.split {c:Cl} {T A:TypeId} {hole:Option Nat}:∀ {k:Nat} {hs:List c.R} {hds:List Value} {L:List Blk} {i:Nat} {n:c.R},NR F T A hole k hs hds L→hs[i]?=some n→∃ hs1 hs2 hds1 hds2 L1 L2 hd B cs Lv,hs=hs1++n::hs2∧hs1.length=i∧hds=hds1++hd::hds2∧hds1.length=i∧L=L1++((B,cs++[hd],BT.c T)::Lv++L2)∧NR F T A hole k hs1 hds1 L1∧N1 F T A hole (k+i) n hd B cs Lv∧NR F T A hole (k+i+1) hs2 hds2 L2
 | _,_,_,_,_,_, .nil,h=>by simp at h
 | k,x::hs,_,_,0,n, .cons hB hc h1 ha hh t,h=>by
  simp at h
  subst h
  exact ⟨[],hs,[],_,[],_,_,_,_,_,rfl,rfl,rfl,rfl,rfl, .nil,⟨hB,hc,h1,ha,hh⟩,t⟩
 | k,x::hs,hd0::hds,_,i+1,n, .cons (Lv:=Lv0) (L:=L) (cs:=cs0) (B:=B0) hB hc h1 ha hh t,h=>by
  obtain ⟨hs1,hs2,hds1,hds2,L1,L2,hd,B,cs,Lv,e1,e2,e3,e4,e5,e6,e7,e8⟩:=t.split (by simpa using h)
  refine ⟨x::hs1,hs2,hd0::hds1,hds2,(B0,cs0++[hd0],BT.c T)::(Lv0++L1),L2,hd,B,cs,Lv,by simp [e1],by simp [e2],by simp [e3],by simp [e4],by simp [e5], .cons hB hc h1 ha hh e6,?_,?_⟩
  ·rw [show k+(i+1)=k+1+i by omega]; exact e7
  ·rw [show k+(i+1)+1=k+1+i+1 by omega]; exact e8
theorem NR.join {c:Cl} {T A:TypeId} {hole:Option Nat} {k i B:Nat} {hs1 hs2:List c.R} {hds1 hds2:List Value} {L1 L2 Lv:List Blk} {n:c.R} {hd:Value} {cs:List Value} (h1:NR F T A hole k hs1 hds1 L1) (hi:hs1.length=i) (h2:N1 F T A hole (k+i) n hd B cs Lv) (h3:NR F T A hole (k+i+1) hs2 hds2 L2):NR F T A hole k (hs1++n::hs2) (hds1++hd::hds2) (L1++((B,cs++[hd],BT.c T)::Lv++L2)):=by
 subst hi
 have:=h2.nr.append (hs2:=hs2) (hds2:=hds2) (L2:=L2) (by simpa using h3)
 have:=h1.append this
 simpa using this
end
end Go.Proofs.YtkmigbicabfodaaGreat.V
namespace Go.Proofs.YtkmigbicabfodaaGreat.V
open Go K
section
variable {P:Program} {C:Cx} {R:Type} {F F':Frz} {ι ι':Gh} {s s':St} {ρ:List Value} {d:D} {v:Value} {t dt:Nat} {L0:List Blk} {r:R} {dst:Option Tmp} {ty:TypeId} {p:String} {af:Array Edge} {gd:Option (Nat×Bool)} {h:Array Obj} {K:D→St→Option R}
theorem RdW.same1 (h1:∀ t',(ι' t').1=(ι t').1) (h:RdW F ι d v):RdW F ι' d v:=by
 cases d with
 | own t'=>show v=_; rw [h1]; exact h
 | op t' o=>obtain ⟨B,a,c⟩:=h; exact ⟨B,by rw [h1]; exact a,c⟩
 | oe t' z i o=>obtain ⟨B,n,cp,a,c⟩:=h; exact ⟨B,n,cp,by rw [h1]; exact a,c⟩
 | na i=>obtain ⟨hd,a,c⟩:=h; exact ⟨hd,by rw [h1]; exact a,c⟩
 | nae z i j o=>obtain ⟨hd,B,n,cp,a,c⟩:=h; exact ⟨hd,B,n,cp,by rw [h1]; exact a,c⟩
 | nas z i x y=>obtain ⟨hd,B,n,cp,a,c⟩:=h; exact ⟨hd,B,n,cp,by rw [h1]; exact a,c⟩
 | aggo ds t'=>obtain ⟨cs,a,c⟩:=h; exact ⟨cs,by rw [h1]; exact a,c⟩
 | aggh t' ds=>obtain ⟨cs,a,c⟩:=h; exact ⟨cs,by rw [h1]; exact a,c⟩
 | clov f t' ds=>obtain ⟨B,cs,a,c⟩:=h; exact ⟨B,cs,by rw [h1]; exact a,c⟩
 | opb t' b=>obtain ⟨B,a,c⟩:=h; exact ⟨B,by rw [h1]; exact a,c⟩
 | nap o=>show NapR _ o v; rw [h1]; exact h
 | _=>exact h
theorem cells_one (h:v.oneCell'=true):v.cells=#[v]:=by cases v <;> first | rfl | (simp [Value.oneCell'] at h)
theorem cellsOf_sound {ds:List D} (hr:Rel F ι s ρ) (hd:RdV F ι d v) (h:cellsOf s d=some ds):∃ cs:List Value,v.cells=cs.toArray∧F2 (RdW F ι) ds cs∧∀ u∈cs,u.oneCell'=true:=by
 unfold cellsOf at h
 split at h
 ·rename_i l
  cases hp:l.all D.plain with
  | false=>rw [hp] at h; cases h
  | true =>
   rw [hp] at h
   cases h
   obtain ⟨cs,rfl,h1⟩:=Rd.agg_inv hd
   exact ⟨cs,rfl,h1.f2,h1.ones hp⟩
 ·cases h
  obtain ⟨B,h1,rfl⟩:=hd
  exact ⟨[_],rfl, .cons ⟨B,h1,rfl⟩ .nil,by simp [Value.oneCell']⟩
 ·rename_i t' b
  cases h
  obtain ⟨B,h1,h2⟩:=hd
  have h3:v.oneCell'=true:=by rw [h2]; cases b <;> rfl
  exact ⟨[v],cells_one h3, .cons ⟨B,h1,h2⟩ .nil,by simpa using h3⟩
 ·rename_i t'
  split at h
  ·rename_i hlk
   cases h
   have hd:v=(ι t').1:=hd
   obtain ⟨q,n,cp,rows,g1,_⟩:=hr.look hlk
   have h1:(ι t').1.oneCell'=true:=by rw [g1]; rfl
   rw [← hd] at h1
   exact ⟨[v],cells_one h1, .cons hd .nil,by simpa using h1⟩
  ·cases h
 ·rename_i t' l
  split at h
  ·rename_i hlk
   cases hp:l.all D.plain with
   | false=>rw [hp] at h; cases h
   | true =>
    rw [hp] at h
    cases h
    obtain ⟨cs,rfl,hrd⟩:=hd
    obtain ⟨q,n,cp,rows,g1,_⟩:=hr.look hlk
    have h1:(ι t').1.oneCell'=true:=by rw [g1]; rfl
    refine ⟨(ι t').1::cs,rfl, .cons rfl hrd.f2,fun u hu=>?_⟩
    rcases List.mem_cons.1 hu with rfl | hu
    ·exact h1
    ·exact hrd.ones hp u hu
  ·cases h
 ·rename_i hna _ _ _
  cases hp:d.plain with
  | false=>rw [hp] at h; cases h
  | true =>
   rw [hp] at h
   cases h
   have h1:=RdV.to_rd hd hp
   have h2:=h1.one hp
   exact ⟨[v],cells_one h2, .cons (.of_rd h1) .nil,by simpa using h2⟩
theorem post_make {b:OB} {x:Value×List Blk} {h':Array Obj} {d':D} {s1:St} (hnp:s.np % 1000≤dt) (hn:s1.n=s.n) (hn':s1.np=s.np) (hnw:s1.nw=s.nw) (hr:Rel F ι s1 ρ) (hm:Hp h' F (x.2++(lv ι (s1.purge dt).ow++L0))) (hb:OwnR F (ι.upd dt x) dt b) (hd:RdV F (ι.upd dt x) d' v) (hk:K d' ((s1.purge dt).make dt b)=some r):Post K r F ι s ρ L0 dt v h':=by
 obtain ⟨h1,h2⟩:=(hr.purge (t:=dt)).make hb
 refine ⟨F,ι.upd dt x,d',_, .refl F,h1,?_,hd,hk,hn,hn',hnw,fun _=>rfl,fun t ht=>by rw [Gh.upd_ne (by omega)],fun t _ ht _ _=>Gh.upd_ne ht⟩
 rw [h2,List.append_assoc]
 exact hm
theorem flat_split2 {sz:Nat}:∀ {rows:List (List Value)} {i:Nat} {r:List Value},(∀ r∈rows,r.length=sz)→rows[i]?=some r→∃ pre post,rows.flatten=pre++r++post∧pre.length=i*sz∧∀ r',(rows.set i r').flatten=pre++r'++post
 | [],i,r,_,h=>by simp at h
 | x::rows,0,r,hl,h=>by
  simp at h
  subst h
  exact ⟨[],rows.flatten,by simp,by simp,fun r'=>by simp⟩
 | x::rows,i+1,r,hl,h=>by
  obtain ⟨pre,post,h1,h2,h3⟩:=flat_split2 (rows:=rows) (i:=i) (fun r hr=>hl r (by simp [hr])) (by simpa using h)
  exact ⟨x++pre,post,by simp [h1],by simp [h2,hl x (by simp),Nat.add_mul]; omega,fun r'=>by simp [h3]⟩
theorem F2.set {α β:Type} {R:α→β→Prop}:∀ {l:List α} {m:List β} {i:Nat} {a:α} {b:β},F2 R l m→R a b→F2 R (l.set i a) (m.set i b)
 | _,_,_,_,_, .nil,_ => .nil
 | _,_,0,_,_, .cons _ t,h => .cons h t
 | _,_,_+1,_,_, .cons h0 t,h => .cons h0 (t.set h)
theorem dPtr_plain {o:Option Nat} (h:dPtr d=some o):d.plain=true:=by
 unfold dPtr at h
 split at h <;> first | rfl | cases h
theorem dLst_plain {e:E} {xs:List e.T} (h:dLst e d=some xs):d.plain=true:=by
 unfold dLst at h
 split at h <;> first | rfl | cases h
theorem any_plain {x:Unit} (h:cond d.plain (some ()) none=some x):d.plain=true:=by
 cases hp:d.plain with
 | false=>rw [hp] at h; cases h
 | true=>rfl
theorem flDec_plain:∀ {f:Fl} {x:f.T},f.dec d=some x→d.plain=true:=by
 intro f x h
 unfold Fl.dec at h
 split at h <;> first | rfl | exact dPtr_plain h | exact dLst_plain h | exact any_plain h | cases h
theorem recDec_plain:∀ {f:Fl} {fs:List Fl} {k:Nat} {ds:List D} {x:recT f fs},recDec f fs k ds=some x→ds.all D.plain=true
 | f,[],k,d::ds,x,h=>by
  simp only [recDec] at h
  cases hp:(ds.length == k && ds.all D.plain) with
  | false=>rw [hp] at h; cases h
  | true =>
   rw [hp] at h
   simp only [cond_true] at h
   rw [Bool.and_eq_true] at hp
   simp only [List.all_cons,flDec_plain h,hp.2,Bool.and_self]
 | f,g::fs,k,d::ds,x,h=>by
  simp only [recDec] at h
  cases h1:f.dec d with
  | none=>rw [h1] at h; cases h
  | some a =>
   rw [h1] at h
   simp only at h
   cases h2:recDec g fs k ds with
   | none=>rw [h2] at h; cases h
   | some b=>simp only [List.all_cons,flDec_plain h1,recDec_plain h2,Bool.and_self]
 | _,[],_,[],_,h=>by cases h
 | _,_::_,_,[],_,h=>by cases h
theorem dec_plain:∀ {e:E} {ds:List D} {x:e.T},e.dec ds=some x→ds.all D.plain=true:=by
 intro e ds x h
 unfold E.dec at h
 split at h <;> first | rfl | (cases h; done) | skip
 ·rename_i k tg tx d z
  cases hd:dAttrs d with
  | none=>rw [hd] at h; cases h
  | some as1 =>
   unfold dAttrs at hd
   split at hd <;> first | rfl | cases hd
 ·simp [dPtr_plain h]
 ·exact recDec_plain h
theorem decK_eq {e:E} {ds:List D} {k:e.T→Option R}:decK e ds k=(e.dec ds).bind k:=by
 unfold decK
 split
 ·rfl
 ·rename_i h
  cases h1:E.dec _ ds <;> rfl
theorem decAllK_some {e:E} {r:R}:∀ {rs:List (List D)} {k:List e.T→Option R},decAllK e rs k=some r→∃ xs,decAll e rs=some xs∧k xs=some r
 | [],k,h=>⟨[],rfl,h⟩
 | a::rs,k,h=>by
  unfold decAllK at h
  rw [decK_eq] at h
  cases h1:e.dec a with
  | none=>rw [h1] at h; cases h
  | some x =>
   rw [h1] at h
   obtain ⟨xs,h2,h3⟩:=decAllK_some (k:=fun xs=>k (x::xs)) h
   exact ⟨x::xs,by simp only [decAll,h1,h2],h3⟩
theorem decAll_sound {e:E}:∀ {rs:List (List D)} {xs:List e.T} {vs:List (List Value)},decAll e rs=some xs→F2 (fun r v=>Rd F r v) rs vs→F2 (fun x v=>Rd F (e.enc x) v) xs vs
 | [],xs,_,h, .nil=>by cases h; exact .nil
 | r::rs,xs,_,h, .cons hr ht=>by
  unfold decAll at h
  cases h1:e.dec r with
  | none=>rw [h1] at h; cases h
  | some x =>
   rw [h1] at h
   simp only at h
   cases h2:decAll e rs with
   | none=>rw [h2] at h; cases h
   | some ys =>
    rw [h2] at h
    cases h
    exact .cons (dec_rd h1 hr) (decAll_sound h2 ht)
theorem fill_rows {sz:Nat}:∀ {parts:List (Nat×Value)} {rows:List (List Value)} (k:Nat) (pre:List Value) (tail:List Value),F2 (fun (q:Nat×Value) r=>q.2.cells=r.toArray) parts rows→parts.map (·.1)=(List.range' k parts.length)→(∀ r∈rows,r.length=sz)→pre.length=k*sz→tail.length=rows.length*sz →
  Instr.fill (fun i=>some (i*sz,sz)) (pre++tail).toArray parts=some (pre++rows.flatten).toArray
 | _,_,k,pre,tail, .nil,_,_,_,ht=>by
  have:tail=[]:=List.eq_nil_of_length_eq_zero (by simpa using ht)
  subst this
  simp [Instr.fill]
 | (i,v)::parts,rr::rows,k,pre,tail, .cons hv t,hk,hl,hp,ht=>by
  have hik:i=k∧parts.map (·.1)=List.range' (k+1) parts.length:=by simpa [List.range'_succ] using hk
  obtain ⟨rfl,hk'⟩:=hik
  have hlr:=hl rr (by simp)
  have htl:tail.length=rows.length*sz+sz:=by rw [ht]; simp [Nat.add_mul]
  rw [fill_step (cs:=rr) rfl hv hlr (by simp; omega)]
  have e1:(pre++tail).take (i*sz)=pre:=by rw [← hp]; simp
  have e2:(pre++tail).drop (i*sz+sz)=tail.drop sz:=by rw [← hp,← List.drop_drop]; simp
  rw [e1,e2,fill_rows (i+1) (pre++rr) (tail.drop sz) t hk' (fun r hr=>hl r (by simp [hr])) (by simp [hlr,hp,Nat.add_mul]) (by simp; omega)]
  simp
theorem mapM_f2 {α β:Type} {f:α→Option β}:∀ {l:List α} {ys:List β},l.mapM f=some ys→F2 (fun a b=>f a=some b) l ys
 | [],ys,h=>by rw [List.mapM_nil] at h; cases h; exact .nil
 | a::l,ys,h=>by
  rw [List.mapM_cons] at h
  cases ha:f a with
  | none=>rw [ha] at h; cases h
  | some b =>
   rw [ha] at h
   cases hl:l.mapM f with
   | none=>rw [hl] at h; cases h
   | some bs=>rw [hl] at h; cases h; exact .cons ha (mapM_f2 hl)
theorem evBox_sound {T:TypeId} {x:Operand} (hr:Rel F ι s ρ) (hm:Hp h F (lv ι s.ow++L0)) (hnp:s.np % 1000≤dt) (h0:evBox s dt T x K=some r):Ef P ρ ⟨dst, .box T x,ty,p,af,gd⟩ h (Post K r F ι s ρ L0 dt):=by
 unfold evBox at h0
 simp only at h0
 split at h0
 ·rename_i ds hds
  have hr':Rel F (ι.upd dt (.pointer (some ⟨h.size,0,none⟩),[(h.size,(ev ρ x).cells.toList,BT.c T)])) (s.purge dt) ρ:=hr.purge' fun t' ht=>Gh.upd_ne ht
  obtain ⟨cs,h1,h2,h3⟩:=cellsOf_sound hr' (g_rd hr' x) hds
  refine .of_ex (ex_box (P:=P) (T:=T) (u:=ev ρ x) rfl) ?_
  have hcs:(ev ρ x).cells.toList=cs:=by rw [h1]
  rw [hcs] at h2 hr'
  rw [h1]
  exact post_make (b := .cells T ds) (x:=(.pointer (some ⟨h.size,0,none⟩),[(h.size,cs,BT.c T)])) hnp rfl rfl rfl hr ((hm.purge (t:=dt)).push _ T) ⟨h.size,cs,by rw [Gh.upd_same],by rw [Gh.upd_same],h2⟩ (.of_w (RdW.mkop (by rw [Gh.upd_same]))) h0
 ·cases h0
theorem evBoxN_sound {T:TypeId} {x:Operand} (hr:Rel F ι s ρ) (hm:Hp h F (lv ι s.ow++L0)) (hnp:s.np % 1000≤dt) (h0:(match s.look NT with
  | some (.nodes c TN A hs hole)=>cond (T == TN) (match g s x with
    | .agg l=>(match l.drop c.n with
     | [.nil]=>(match c.dec [] (l.take c.n) with
      | some h=>cond (s.nw && Nat.ble (s.np % 1000) NT && !(T == uT)) (K (.np (some hs.length)) ((s.purge NT).make NT (.nodes c TN A (hs++[h]) hole))) none
      | none=>none)
     | _=>none)
    | .aggo l t=>(match s.look t with
     | some (.rows e A' xs)=>(match castE e c.e xs with
      | some xs=>(match c.dec xs l with
       | some h=>cond (s.nw && Nat.ble (s.np % 1000) NT && A' == A && !(t == NT) && hole.isNone && !(T == uT)) (K (.np (some hs.length)) (((s.purge t).purge NT).make NT (.nodes c TN A (hs++[h]) hole))) none
       | none=>none)
      | none=>none)
     | _=>none)
    | _=>none) (evBox s dt T x K)
  | _=>evBox s dt T x K)=some r):Ef P ρ ⟨dst, .box T x,ty,p,af,gd⟩ h (Post K r F ι s ρ L0 dt):=by
 split at h0
 ·rename_i cl TN A hs hole hlk
  cases hT:(T == TN) with
  | false =>
   rw [hT] at h0
   exact evBox_sound hr hm hnp h0
  | true =>
   rw [hT] at h0
   simp only [cond_true] at h0
   have hT:T=TN:=by simpa using hT
   subst hT
   split at h0
   ·rename_i l hl
    split at h0
    ·rename_i hdr
     split at h0
     ·rename_i n hn
      cases hc:(s.nw && Nat.ble (s.np % 1000) NT && !(T == uT)) with
      | false=>rw [hc] at h0; cases h0
      | true =>
       rw [hc] at h0
       simp only [cond_true] at h0
       simp only [Bool.and_eq_true,Nat.ble_eq] at hc
       obtain ⟨hc,huT⟩:=hc
       have huT:T≠uT:=by simpa using huT
       have hx:=g_rd hr x
       rw [hl] at hx
       obtain ⟨cs,hcs,hrd⟩:=Rd.agg_inv hx
       obtain ⟨_,hds,o1,o2,o3⟩:=hr.look hlk
       have hrd9:=hrd.drop cl.n
       rw [hdr] at hrd9
       have hd9:cs.drop cl.n=[.slice none 0 0]:=by
        generalize cs.drop cl.n=c9 at hrd9
        obtain ⟨v9,vs9,rfl,g1,g2⟩:=hrd9.inv_cons
        cases g2
        rw [Rd.nil_inv g1]
       obtain ⟨hn1,hn2⟩:=Cl.dec_rd hn (hrd.take cl.n)
       have hsplit:cs=cs.take cl.n++[.slice none 0 0]:=by rw [← hd9,List.take_append_drop]
       have hfresh:=hm.fresh
       have hnone:F.nid hs.length=none:=o3 _ (Nat.le_refl _)
       have hle:F.le (F.node hs.length h.size hfresh):=Frz.node_le hnone
       have hm1:=(hm.push cs T).node (i:=hs.length) (B:=h.size) (hB:=hfresh) ⟨cs.toArray,T,by simp,huT⟩
       have hr1:Rel (F.node hs.length h.size hfresh) ι (s.purge NT) ρ:=(hr.purge (t:=NT)).mono' hle fun p hp=>purge_ne hp
       refine .of_ex (ex_box (P:=P) (T:=T) (u:=ev ρ x) rfl) ?_
       rw [hcs]
       have hNT:OwnR (F.node hs.length h.size hfresh) (ι.upd NT (.tuple (hds++[Value.slice none 0 0]).toArray,(ι NT).2++[(h.size,cs,BT.c T)])) NT (.nodes cl T A (hs++[n]) hole):=by
        refine ⟨rfl,hds++[Value.slice none 0 0],by rw [Gh.upd_same],?_,fun j hj=>?_⟩
        ·rw [Gh.upd_same]
         refine (o2.mono hle).append ?_
         have h1:N1 (F.node hs.length h.size hfresh) T A hole (0+hs.length) n (.slice none 0 0) h.size (cs.take cl.n) []:=⟨by simp [Frz.node],hn1.mono hle,rfl,fun _ => .mk (q:=none) (m:=0) (cp:=0) (rows:=[]) rfl (SlO.nil _ _) (by rw [hn2]; exact .nil) (Cl.dec_fz hn),fun _=>rfl⟩
         have:=h1.nr
         rw [← hsplit] at this
         exact this
        ·simp at hj
         show (if j=hs.length then some h.size else F.nid j)=none
         rw [if_neg (by omega)]
         exact o3 j (by omega)
       obtain ⟨k1,k2⟩:=hr1.make hNT
       refine ⟨_,_,_,_,hle,k1,?_, .of_rd (.npS (i:=hs.length) (B:=h.size) (by simp [Frz.node]) .nil),h0,rfl,rfl,rfl,(fun e=>by rw [e] at hc; cases hc.1),fun t ht=>by rw [Gh.upd_ne (by omega)],fun t ht _ _ _=>Gh.upd_ne fun e=>ht _ (look_mem hlk) e.symm⟩
       rw [k2]
       refine hm1.perm ?_
       have h2:=(lv_perm (ι:=ι) hr.nd hlk).symm
       have h3:((ι NT).2++[(h.size,cs,BT.c T)]++lv ι (s.purge NT).ow++L0).Perm ((h.size,cs,BT.c T)::((ι NT).2++lv ι (s.purge NT).ow++L0)):=by
        simp only [List.append_assoc,List.cons_append,List.nil_append]
        exact List.perm_middle
       exact h3.trans ((h2.append_right L0).cons _)
     ·cases h0
    ·cases h0
   ·rename_i l t hl
    split at h0
    ·rename_i e A' xs hlt
     split at h0
     ·rename_i xs' hcast
      obtain ⟨rfl,hcast⟩:=castE_eq hcast
      have hcast:xs=xs':=hcast
      subst hcast
      split at h0
      ·rename_i n hn
       cases hc:(s.nw && Nat.ble (s.np % 1000) NT && A' == A && !(t == NT) && hole.isNone && !(T == uT)) with
       | false=>rw [hc] at h0; cases h0
       | true =>
        rw [hc] at h0
        simp only [cond_true] at h0
        simp only [Bool.and_eq_true,Nat.ble_eq,beq_iff_eq,Bool.not_eq_true',beq_eq_false_iff_ne] at hc
        obtain ⟨⟨⟨⟨⟨hnw,hc⟩,rfl⟩,htN⟩,hho⟩,huT⟩:=hc
        obtain rfl:hole=none:=by simpa using hho
        have hx:=g_rd hr x
        rw [hl] at hx
        obtain ⟨cs,hcs,hrd⟩:=hx
        obtain ⟨_,hds,o1,o2,o3⟩:=hr.look hlk
        obtain ⟨q,n2,cp,rows,g1,g2,g3⟩:=hr.look hlt
        obtain ⟨hn1,hn2⟩:=Cl.dec_rd hn hrd
        have hfresh:=hm.fresh
        have hnone:F.nid hs.length=none:=o3 _ (Nat.le_refl _)
        have hle:F.le (F.node hs.length h.size hfresh):=Frz.node_le hnone
        have hm1:=(hm.push (cs++[(ι t).1]) T).node (i:=hs.length) (B:=h.size) (hB:=hfresh) ⟨(cs++[(ι t).1]).toArray,T,by simp,huT⟩
        have hlk1:=purge_look (t:=t) (fun e=>htN e.symm) hlk
        have hr1:Rel (F.node hs.length h.size hfresh) ι ((s.purge t).purge NT) ρ:=((hr.purge (t:=t)).purge (t:=NT)).mono' hle fun p hp=>purge_ne hp
        refine .of_ex (ex_box (P:=P) (T:=T) (u:=ev ρ x) rfl) ?_
        rw [hcs]
        have hNT:OwnR (F.node hs.length h.size hfresh) (ι.upd NT (.tuple (hds++[(ι t).1]).toArray,(ι NT).2++((h.size,cs++[(ι t).1],BT.c T)::(ι t).2))) NT (.nodes cl T A' (hs++[n]) none):=by
         refine ⟨rfl,hds++[(ι t).1],by rw [Gh.upd_same],?_,fun j hj=>?_⟩
         ·rw [Gh.upd_same]
          refine (o2.mono hle).append ?_
          have h1:N1 (F.node hs.length h.size hfresh) T A' none (0+hs.length) n (ι t).1 h.size cs (ι t).2:=⟨by simp [Frz.node],hn1.mono hle,by rw [g1]; rfl,fun _ => .mk g1 g2 (by rw [hn2]; exact forall2_imp (fun _ _ h=>h.mono hle) g3) (Cl.dec_fz hn),fun e=>by cases e⟩
          exact h1.nr
         ·simp at hj
          show (if j=hs.length then some h.size else F.nid j)=none
          rw [if_neg (by omega)]
          exact o3 j (by omega)
        obtain ⟨k1,k2⟩:=hr1.make hNT
        refine ⟨_,_,_,_,hle,k1,?_, .of_rd (.npS (i:=hs.length) (B:=h.size) (by simp [Frz.node]) .nil),h0,rfl,rfl,rfl,(fun e=>by rw [e] at hnw; cases hnw),fun t ht=>by rw [Gh.upd_ne (by omega)],fun t ht _ _ _=>Gh.upd_ne fun e=>ht _ (look_mem hlk) e.symm⟩
        rw [k2]
        refine hm1.perm ?_
        have p1:=lv_perm (ι:=ι) hr.nd hlt
        have p2:=lv_perm (ι:=ι) (hr.purge (t:=t)).nd hlk1
        have h2:=p1.trans (p2.append_left _)
        have h3:((ι NT).2++((h.size,cs++[(ι t).1],BT.c T)::(ι t).2)++lv ι ((s.purge t).purge NT).ow++L0).Perm ((h.size,cs++[(ι t).1],BT.c T)::((ι t).2++((ι NT).2++lv ι ((s.purge t).purge NT).ow)++L0)):=by
         simp only [List.append_assoc,List.cons_append]
         refine List.perm_middle.trans (List.Perm.cons _ ?_)
         exact List.perm_append_comm_assoc _ _ _
        exact h3.trans ((h2.symm.append_right L0).cons _)
      ·cases h0
     ·cases h0
    ·cases h0
   ·cases h0
 ·exact evBox_sound hr hm hnp h0
theorem evNf_sound {T:TypeId} [Siz P T 1] {x y:Operand} {i off:Nat} (hr:Rel F ι s ρ) (hm:Hp h F (lv ι s.ow++L0)) (hx:RdV F ι (.nf i off) (ev ρ x)) (hy:RdV F ι d (ev ρ y)) (h0:evNf s i off d K=some r):Ef P ρ ⟨dst, .store T x y,ty,p,af,gd⟩ h (Post K r F ι s ρ L0 dt):=by
 unfold evNf at h0
 split at h0
 ·rename_i cl TN A hs hole hlk
  obtain ⟨_,hds,o1,o2,o3⟩:=hr.look hlk
  obtain ⟨B0,hB0,hx⟩:=hx
  cases h9:Nat.blt off cl.n with
  | true =>
   rw [h9] at h0
   simp only [cond_true] at h0
   have h9:off<cl.n:=by simpa [Nat.blt_eq] using h9
   cases hpl:d.plain with
   | false=>rw [hpl] at h0; cases h0
   | true =>
    rw [hpl] at h0
    simp only [cond_true] at h0
    obtain ⟨n,hn,h0⟩:=Option.bind_eq_some_iff.1 h0
    split at h0
    ·rename_i n' hdec
     obtain ⟨hs1,hs2,hds1,hds2,L1,L2,hd,B,cs,Lv,e1,e2,e3,e4,e5,e6,e7,e8⟩:=o2.split hn
     have hBB:B0=B:=by have:=e7.hB; rw [Nat.zero_add,hB0] at this; exact Option.some.inj this
     subst hBB
     have hy1:=hy.to_rd hpl
     obtain ⟨hn1,hn2⟩:=Cl.dec_rd hdec (e7.hc.set (i:=off) hy1)
     have hcl:cs.length=cl.n:=by rw [e7.hc.length,Cl.enc_len]
     have hsame:∀ t',(ι.upd NT ((ι NT).1,L1++((B0,cs.set off (ev ρ y)++[hd],BT.c TN)::Lv++L2)) t').1=(ι t').1:=fun t'=>by
      by_cases e:t'=NT
      ·subst e; rw [Gh.upd_same]
      ·rw [Gh.upd_ne e]
     obtain ⟨u1,l1,l2,u2,u3,_⟩:=hr.upd (b' := .nodes cl TN A (hs.set i (cl.wz n' (cl.fz n))) hole) (x:=((ι NT).1,L1++((B0,cs.set off (ev ρ y)++[hd],BT.c TN)::Lv++L2))) hlk rfl ⟨rfl,hds,by rw [Gh.upd_same]; exact o1,by
      rw [Gh.upd_same]
      have e9:hs.set i (cl.wz n' (cl.fz n))=hs1++(cl.wz n' (cl.fz n))::hs2:=by rw [e1,List.set_append_right _ _ (by omega),e2]; simp
      rw [e9,e3]
      exact NR.join e6 e2 ⟨e7.hB,by rw [Cl.wz_enc]; exact hn1,e7.h1,fun hne=>(e7.ha hne).same (by rw [Cl.wz_xs]; exact hn2) (Cl.wz_fz _ _),e7.hh⟩ e8,by simpa using o3⟩
     have hsp:cs=cs.take off++([cs[off]]++cs.drop (off+1)):=by simp
     have hm1:Hp h F ((B0,cs.take off++[cs[off]]++(cs.drop (off+1)++[hd]),BT.c TN)::(l1++(L1++(Lv++L2))++l2++L0)):=by
      refine hm.perm ?_
      rw [u2,e5]
      have:cs.take off++[cs[off]]++(cs.drop (off+1)++[hd])=cs++[hd]:=by
       conv=>rhs; rw [hsp]
       simp only [List.append_assoc]
      rw [this]
      simp only [List.append_assoc,List.cons_append]
      rw [← List.append_assoc l1,← List.append_assoc l1]
      exact List.perm_middle.symm
     refine (ef_store0 (P:=P) (T:=T) hx rfl (cells_one (hy1.one hpl)) rfl (by simpa using hy1.one hpl) hm1 (by simp; omega) (by simp)).mono fun v h' ⟨hv,hm'⟩=>?_
     subst hv
     refine ⟨F,_, .und,_, .refl F,u1,?_,rfl,h0,rfl,rfl,rfl,fun _=>rfl,fun t _=>hsame t,fun t ht _ _ _=>Gh.upd_ne fun e=>ht _ (look_mem hlk) e.symm⟩
     rw [u3]
     refine hm'.perm ?_
     have:cs.take off++[ev ρ y]++(cs.drop (off+1)++[hd])=cs.set off (ev ρ y)++[hd]:=by
      rw [List.set_eq_take_append_cons_drop,if_pos (by omega)]
      simp
     rw [this]
     simp only [List.append_assoc,List.cons_append]
     rw [← List.append_assoc l1,← List.append_assoc l1]
     exact List.perm_middle
    ·cases h0
  | false =>
   rw [h9] at h0
   simp only [cond_false] at h0
   cases h9':(off == cl.n) with
   | false=>rw [h9'] at h0; cases h0
   | true =>
    rw [h9'] at h0
    simp only [cond_true] at h0
    have h9':off=cl.n:=by simpa using h9'
    subst h9'
    split at h0
    ·rename_i t
     split at h0
     ·rename_i e T0 xs hlt
      split at h0
      ·rename_i xs' hcast
       obtain ⟨rfl,hcast⟩:=castE_eq hcast
       have hcast:xs=xs':=hcast
       subst hcast
       cases hc:(T0 == A && !(t == NT) && Nat.ble (s.np % 1000) NT) with
       | false=>rw [hc] at h0; cases h0
       | true =>
        rw [hc] at h0
        simp only [cond_true] at h0
        simp only [Bool.and_eq_true,beq_iff_eq,Nat.ble_eq,Bool.not_eq_true',beq_eq_false_iff_ne] at hc
        obtain ⟨⟨hTA,htN⟩,hnp2⟩:=hc
        subst hTA
        obtain ⟨n,hn,h0⟩:=Option.bind_eq_some_iff.1 h0
        have hkey:(hole=none∨hole=some i)∧K .und (((s.purge t).purge NT).make NT (.nodes cl TN T0 (hs.set i (cl.wx n xs)) none))=some r:=by
         cases hole with
         | none=>exact ⟨.inl rfl,h0⟩
         | some j =>
          simp only at h0
          cases hj:decide (j=i) with
          | false=>rw [hj] at h0; cases h0
          | true =>
           rw [hj] at h0
           have:j=i:=by simpa using hj
           exact ⟨.inr (by rw [this]),h0⟩
        obtain ⟨hhole,h0⟩:=hkey
        obtain ⟨hs1,hs2,hds1,hds2,L1,L2,hd,B,cs,Lv,e1,e2,e3,e4,e5,e6,e7,e8⟩:=o2.split hn
        have hBB:B0=B:=by have:=e7.hB; rw [Nat.zero_add,hB0] at this; exact Option.some.inj this
        subst hBB
        obtain ⟨q,n2,cp,rows,g1,g2,g3⟩:=hr.look hlt
        have hy:ev ρ y=(ι t).1:=hy
        have hcl:cs.length=cl.n:=by rw [e7.hc.length,Cl.enc_len]
        have hone:(ev ρ y).oneCell'=true:=by rw [hy,g1]; rfl
        have hr1:=(hr.purge (t:=t)).purge (t:=NT)
        have hlk1:=purge_look (t:=t) (fun e=>htN e.symm) hlk
        have hNT:OwnR F (ι.upd NT (.tuple (hds1++(ι t).1::hds2).toArray,L1++((B0,cs++[(ι t).1],BT.c TN)::(ι t).2++L2))) NT (.nodes cl TN T0 (hs.set i (cl.wx n xs)) none):=by
         refine ⟨rfl,hds1++(ι t).1::hds2,by rw [Gh.upd_same],?_,by simpa using o3⟩
         rw [Gh.upd_same]
         have e9:hs.set i (cl.wx n xs)=hs1++(cl.wx n xs)::hs2:=by rw [e1,List.set_append_right _ _ (by omega),e2]; simp
         rw [e9]
         have hno:∀ j,j≠i→hole≠some j:=fun j hj e=>by
          rcases hhole with h1 | h1
          ·rw [h1] at e; cases e
          ·rw [h1] at e; exact hj (Option.some.inj e).symm
         exact NR.join (e6.other fun j _ hj=>⟨hno j (by omega),by simp⟩) e2 ⟨e7.hB,by rw [Cl.wx_enc]; exact e7.hc,by rw [g1]; rfl,fun _ => .mk g1 g2 (by rw [Cl.wx_xs]; exact g3) (Cl.wx_fz _ _),fun e=>by cases e⟩ (e8.other fun j hj _=>⟨hno j (by omega),by simp⟩)
        obtain ⟨k1,k2⟩:=hr1.make hNT
        have hm1:Hp h F ((B0,cs++[hd]++[],BT.c TN)::((ι t).2++(L1++(Lv++L2))++lv ι ((s.purge t).purge NT).ow++L0)):=by
         refine hm.perm ?_
         have p1:=lv_perm (ι:=ι) hr.nd hlt
         have p2:=lv_perm (ι:=ι) (hr.purge (t:=t)).nd hlk1
         rw [List.append_nil]
         refine List.Perm.trans ?_ ((p1.trans (p2.append_left _)).symm.append_right L0)
         rw [e5]
         simp only [List.append_assoc,List.cons_append]
         rw [← List.append_assoc (ι t).2,← List.append_assoc (ι t).2]
         exact List.perm_middle.symm
        refine (ef_store0 (P:=P) (T:=T) hx rfl (cells_one hone) rfl (by simpa using hone) hm1 hcl.symm (by simp)).mono fun v h' ⟨hv,hm'⟩=>?_
        subst hv
        refine ⟨F,_, .und,_, .refl F,k1,?_,rfl,h0,rfl,rfl,rfl,fun _=>rfl,fun t _=>by rw [Gh.upd_ne (by omega)],fun t ht _ _ _=>Gh.upd_ne fun e=>ht _ (look_mem hlk) e.symm⟩
        rw [k2]
        rw [hy,List.append_nil] at hm'
        have hm2:Hp h' F ((B0,cs++[(ι t).1],BT.c TN)::((ι t).2++(L1++L2)++lv ι ((s.purge t).purge NT).ow++L0)):=hm'.sub (by
         refine List.Sublist.cons_cons _ ?_
         exact (((List.Sublist.refl _).append ((List.Sublist.refl _).append (List.sublist_append_right _ _))).append (List.Sublist.refl _)).append (List.Sublist.refl _))
        refine hm2.perm ?_
        simp only [List.append_assoc,List.cons_append]
        refine List.perm_middle.trans (List.Perm.cons _ ?_)
        exact List.perm_append_comm_assoc _ _ _
      ·cases h0
     ·cases h0
    ·rename_i z i' b
     cases hc:(z == cl.e.sz && hole.isNone && Nat.ble (s.np % 1000) NT) with
     | false=>rw [hc] at h0; cases h0
     | true =>
      rw [hc] at h0
      simp only [cond_true] at h0
      cases hii:decide (i'=i) with
      | false=>rw [hii] at h0; cases h0
      | true =>
      rw [hii] at h0
      simp only [cond_true] at h0
      have hii:=of_decide_eq_true hii
      subst hii
      simp only [Bool.and_eq_true,beq_iff_eq,Nat.ble_eq] at hc
      obtain ⟨⟨rfl,hho⟩,hnp2⟩:=hc
      obtain rfl:hole=none:=by simpa using hho
      obtain ⟨n,hn,h0⟩:=Option.bind_eq_some_iff.1 h0
      obtain ⟨hfz,h0⟩:=cond_none h0
      obtain ⟨hs1,hs2,hds1,hds2,L1,L2,hd,B,cs,Lv,e1,e2,e3,e4,e5,e6,e7,e8⟩:=o2.split hn
      have hBB:B0=B:=by have:=e7.hB; rw [Nat.zero_add,hB0] at this; exact Option.some.inj this
      subst hBB
      obtain ⟨hd9,q9,n9,c9,y0,y1,y2,y3,y4⟩:=hy
      have o1':=o1
      rw [y0] at o1'
      have o1':hd9=hds:=by simpa using o1'
      subst o1'
      have hdv:hd = .slice q9 n9 c9:=by
       rw [e3,List.getElem?_append_right (by omega)] at y1
       simpa [e4] using y1
      subst hdv
      obtain ⟨q,n',cp',rows,a1,a2,a3⟩:=(e7.ha (by simp)).own hfz
      cases a1
      have hcl:cs.length=cl.n:=by rw [e7.hc.length,Cl.enc_len]
      have hyv:ev ρ y = .slice q9 b c9:=by
       rw [y4]
       rcases a2.sh with ⟨he,_,_⟩ | ⟨B',n2,cap,spare,he,_,_,_,_⟩
       ·cases he
        obtain rfl:b=0:=by omega
        rfl
       ·cases he
        simp [Addr.add]
      have hbn:b≤rows.length:=by rw [← a2.len]; exact y3
      have hsl:SlO cl.e.sz A q9 b c9 Lv (rows.take b):=by
       have hr9:∀ r∈rows.take b,r.length=cl.e.sz:=fun r hr=>a2.row r (List.mem_of_mem_take hr)
       refine ⟨?_,by rw [List.length_take]; omega,hr9⟩
       rcases a2.sh with ⟨he,hL,hv9⟩ | ⟨B',n2,cap,spare,he,hL,hn',hcap,hle⟩
       ·cases he
        obtain rfl:b=0:=by omega
        exact .inl ⟨rfl,hL,by simp⟩
       ·cases he
        have hfl:=flat_len a2.row
        have hfl':=flat_len hr9
        have hsplit:rows.flatten=(rows.take b).flatten++(rows.drop b).flatten:=by rw [← List.flatten_append,List.take_append_drop]
        refine .inr ⟨B',b,c9,(rows.drop b).flatten++spare,rfl,?_,?_,?_,by omega⟩
        ·rw [hL,hsplit,List.append_assoc]
        ·rw [hfl',List.length_take,Nat.min_eq_left hbn]
        ·rw [hcap,hsplit,List.length_append,List.length_append]; omega
      have hone:(ev ρ y).oneCell'=true:=by rw [hyv]; rfl
      have hr1:=hr.purge (t:=NT)
      have hNT:OwnR F (ι.upd NT (.tuple (hds1 ++ .slice q9 b c9::hds2).toArray,L1++((B0,cs++[.slice q9 b c9],BT.c TN)::Lv++L2))) NT (.nodes cl TN A (hs.set i' (cl.wx n ((cl.xs n).take b))) none):=by
       refine ⟨rfl,hds1 ++ .slice q9 b c9::hds2,by rw [Gh.upd_same],?_,by simpa using o3⟩
       rw [Gh.upd_same]
       have e9:hs.set i' (cl.wx n ((cl.xs n).take b))=hs1++(cl.wx n ((cl.xs n).take b))::hs2:=by rw [e1,List.set_append_right _ _ (by omega),e2]; simp
       rw [e9]
       exact NR.join e6 e2 ⟨e7.hB,by rw [Cl.wx_enc]; exact e7.hc,rfl,fun _ => .mk rfl hsl (by rw [Cl.wx_xs]; exact a3.take b) (Cl.wx_fz _ _),fun e=>by cases e⟩ e8
      obtain ⟨k1,k2⟩:=hr1.make hNT
      have hm1:Hp h F ((B0,cs++[.slice q9 n9 c9]++[],BT.c TN)::(L1++(Lv++L2)++lv ι (s.purge NT).ow++L0)):=by
       refine hm.perm ?_
       have p1:=lv_perm (ι:=ι) hr.nd hlk
       rw [List.append_nil]
       refine List.Perm.trans ?_ (p1.symm.append_right L0)
       rw [e5]
       simp only [List.append_assoc,List.cons_append]
       exact List.perm_middle.symm
      refine (ef_store0 (P:=P) (T:=T) hx rfl (cells_one hone) rfl (by simpa using hone) hm1 hcl.symm (by simp)).mono fun v h' ⟨hv,hm'⟩=>?_
      subst hv
      refine ⟨F,_, .und,_, .refl F,k1,?_,rfl,h0,rfl,rfl,rfl,fun _=>rfl,fun t _=>by rw [Gh.upd_ne (by omega)],fun t ht _ _ _=>Gh.upd_ne fun e=>ht _ (look_mem hlk) e.symm⟩
      rw [k2]
      rw [hyv,List.append_nil] at hm'
      refine hm'.perm ?_
      simp only [List.append_assoc,List.cons_append]
      exact List.perm_middle
    ·cases h0
 ·cases h0
set_option maxHeartbeats 1000000 in
theorem evBS_sound {T:TypeId} {n:Nat} {parts:Array (Nat×Operand)} (hT:CtOK P C) (hr:Rel F ι s ρ) (hm:Hp h F (lv ι s.ow++L0)) (hnp:s.np % 1000≤dt) (h0:evEff C s dt (.buildSlice T n parts) K=some r):∃ u ob,(∀ ρ':List Value,(∀ q∈parts.toList,ev ρ' q.2=ev ρ q.2)→Ex P ρ' ⟨dst, .buildSlice T n parts,ty,p,af,gd⟩ h u (h.push ob))∧Post K r F ι s ρ L0 dt u (h.push ob):=by
 simp only [evEff] at h0
 split at h0
 ·rename_i et _ _ _ _ _ ht
  split at h0
  ·rename_i sh sz ag z by_ e hte
   have hk:=ti_ok hT ht
   have hke:=ti_ok hT hte
   split at h0
   ·rename_i rows hrows
    ·obtain ⟨xs,hxs,h00⟩:=decAllK_some h0
     clear h0
     have h0:=h00
     clear h00
     cases hc:(sz == e.sz && (parts.toList.map (·.1) == List.range n) && rows.all (·.all D.plain) && Nat.ble (n*sz) 16777216) with
     | false=>rw [hc] at h0; cases h0
     | true =>
      rw [hc] at h0
      simp only [cond_true] at h0
      simp only [Bool.and_eq_true,beq_iff_eq,Nat.ble_eq] at hc
      obtain ⟨⟨⟨rfl,hc1⟩,hc2⟩,hc3⟩:=hc
      haveI:Und P T (.slice et):=⟨hk.und⟩
      have hr':=hr.purge (t:=dt)
      have hlen:parts.toList.length=n:=by have:=congrArg List.length hc1; simpa using this
      have hf:=mapM_f2 hrows
      have hex:∃ vs:List (List Value),F2 (fun (q:Nat×Value) r=>q.2.cells=r.toArray) (parts.toList.map fun q=>(q.1,ev ρ q.2)) vs∧F2 (fun r v=>Rd F r v) rows vs:=by
       clear hxs hc1 hc3 hrows hlen h0
       generalize parts.toList=pl at hf
       induction pl generalizing rows with
       | nil=>cases hf; exact ⟨[], .nil, .nil⟩
       | cons q pl ih =>
        simp only [List.map_cons] at hf
        cases hf with
        | cons h1 h2 =>
         simp only [List.all_cons,Bool.and_eq_true] at hc2
         obtain ⟨cs,a,b,c⟩:=cellsOf_sound hr' (g_rd hr' q.2) h1
         obtain ⟨vs,d,e⟩:=ih _ hc2.2 h2
         exact ⟨cs::vs, .cons a d, .cons (b.rd hc2.1) e⟩
      obtain ⟨vs,v1,v2⟩:=hex
      have v3:=decAll_sound hxs v2
      have hrow:=f2_row v3
      have hvl:vs.length=n:=by rw [forall2_len v1,List.length_map,hlen]
      have hfl:=flat_len hrow
      have hdef:∀ ρ':List Value,(∀ q∈parts.toList,ev ρ' q.2=ev ρ q.2)→Ex P ρ' ⟨dst, .buildSlice T n parts,ty,p,af,gd⟩ h (.slice (some ⟨h.size,0,none⟩) n n) (h.push (.cells vs.flatten.toArray et (0,0))):=fun ρ' hρ=>⟨fun E w hw=>by
       have hfill:∀ zero:Array Value,Instr.fill (fun i=>some (i*e.sz,e.sz)) ((Array.range (n*e.sz)).map (zero[· % zero.size]!)) (parts.toList.map fun q=>(q.1,ev ρ q.2))=some vs.flatten.toArray:=fun zero=>by
        have:=fill_rows (sz:=e.sz) 0 [] ((Array.range (n*e.sz)).map (zero[· % zero.size]!)).toList v1 (by simp only [List.map_map,List.length_map,Function.comp_def,hlen]; rw [hc1,List.range_eq_range']) hrow (by simp) (by simp [hvl])
        have e0:([]++((Array.range (n*e.sz)).map (zero[· % zero.size]!)).toList).toArray=(Array.range (n*e.sz)).map (zero[· % zero.size]!):=by rw [List.nil_append,Array.toArray_toList]
        rw [e0,List.nil_append] at this
        exact this
       have h4:¬ (n*e.sz > 2 ^ 24):=by omega
       have hz0:∀ w,(zeroValue et).run P w = .ok z w:=hke.zer
       have hsz:∀ w,(sizeOf et).run P w = .ok e.sz w:=hke.siz
       refine ⟨.value (.slice (some ⟨h.size,0,none⟩) n n),{ w with heap:=w.heap.push (.cells vs.flatten.toArray et (0,0)) },?_,hw.push, .inl rfl⟩
       have hmap:parts.toList.map (fun q=>(q.1,ev ρ' q.2))=parts.toList.map fun q=>(q.1,ev ρ q.2):=List.map_congr_left fun q hq=>by rw [hρ q hq]
       simp only [execOp,Instr.buildSlice]
       simp only [Sem.run_bind,und T w,hsz w,Result.andThen_ok,h4,if_false,Sem.run_pure,Array.toList_map,hmap]
       by_cases hz:n*e.sz=0
       ·rw [if_pos hz]
        simp only [Sem.run_bind,Result.andThen_ok,Sem.run_pure,hfill,newRow,run_newObj]
        rw [← hw.1]
       ·rw [if_neg hz]
        simp only [Sem.run_bind,hz0,Result.andThen_ok,Sem.run_pure,hfill,newRow,run_newObj]
        rw [← hw.1]⟩
      refine ⟨_,_,hdef,?_⟩
      refine post_make (b := .rows e et xs) (x:=(.slice (some ⟨h.size,0,none⟩) n n,[(h.size,vs.flatten,BT.c et)])) hnp rfl rfl rfl hr ((hm.purge (t:=dt)).push _ et) ⟨some ⟨h.size,0,none⟩,n,n,vs,by rw [Gh.upd_same],?_,v3⟩ (.of_w (by show _=_; rw [Gh.upd_same])) h0
      rw [Gh.upd_same]
      exact ⟨.inr ⟨h.size,n,n,[],rfl,by simp,by rw [hfl,hvl],by rw [hfl,hvl]; simp,Nat.le_refl _⟩,hvl.symm,hrow⟩
   ·cases h0
  ·cases h0
 ·cases h0
theorem u8_rows:∀ (l:List UInt8),F2 (fun (x:E.u8.T) r=>Rd F (E.u8.enc x) r) l (l.map fun c=>[byteV c])
 | [] => .nil
 | c::l => .cons (.int .nil) (u8_rows l)
theorem u8_flat:∀ (l:List UInt8),(l.map fun c=>[byteV c]).flatten=l.map byteV
 | []=>rfl
 | c::l=>by simp only [List.map_cons,List.flatten_cons,u8_flat l]; rfl
theorem u8_row {l:List UInt8}:∀ r∈l.map (fun c=>[byteV c]),r.length=1:=by
 intro r hr
 obtain ⟨c,_,rfl⟩:=List.mem_map.1 hr
 rfl
theorem ef_appendS {S X et:TypeId} {x y:Operand} {q:Option Addr} {n cp:Nat} {ys:List UInt8} {Lv L1 L2 Lf:List Blk} {rows:List (List Value)} {i:TypeInfo} {z:Value} [Und P S (.slice et)] [Und P X .string] [Siz P et 1] [Inf P et i] [Zer P et z] (hz:z.cells.size=1) (hx:ev ρ x = .slice q n cp) (hy:ev ρ y=bs ys) (hm:Hp h F Lf) (hL:Lf=L1++(Lv++L2)) (hs:SlO 1 et q n cp Lv rows)
  (hb:i.bytes+1≤32768) (hr:n+ys.length≤2147483648) :
  Ef P ρ ⟨dst, .call ⟨.builtin .append,#[x,y],#[S,X]⟩,ty,p,af,gd⟩ h fun v h'=>∃ q' cp' Lv',v = .slice q' (n+ys.length) cp'∧SlO 1 et q' (n+ys.length) cp' Lv' (rows++ys.map fun c=>[byteV c])∧Hp h' F (L1++(Lv'++L2)):=by
 have hfl:=flat_len hs.row
 have hln:=hs.len
 have hfc:∀ w:World,(Builtin.firstCells 1 ys.length (bs ys)).run P w = .ok (ys.map byteV).toArray w:=fun w=>by
  have he:(ByteArray.mk ys.toArray).extract 0 ys.length=ByteArray.mk ys.toArray:=by
   have:=ByteArray.extract_zero_size (b:=ByteArray.mk ys.toArray)
   rwa [size_mk] at this
  simp only [bs,Builtin.firstCells,he,Sem.run_pure]
  congr 1
  apply Array.ext'
  simp [byteV]
 have hlen:∀ w:World,(Builtin.lenOf (bs ys)).run P w = .ok ys.length w:=fun w=>by simp [Builtin.lenOf,bs,size_mk]
 rcases Nat.eq_zero_or_pos ys.length with h0 | hpos
 ·have hnil:ys=[]:=List.eq_nil_of_length_eq_zero h0
  subst hnil
  have hle:=hs.le
  refine ⟨fun E w hA=>?_⟩
  have hrun:(Builtin.append_ #[S,X] ty #[.slice q n cp,bs []]).run P w = .ok (.slice q n cp) w:=by
   have h1:=hfc w
   have h2:=hlen w
   simp only [List.length_nil] at h1 h2
   simp only [Builtin.append_]
   cases q <;> simp [und S w,und X w,siz et w,h2,hle,h1,storeCells]
  refine ⟨.value (.slice q n cp),w,h, .slice q n cp,by simp [execOp,resolve,hx,hy,invoke,builtin,hrun],hA, .inl rfl,q,cp,Lv,rfl,by simpa using hs,by rw [← hL]; exact hm⟩
 ·refine ⟨fun E w hA=>?_⟩
  obtain ⟨v',w',Lv',h',hrun,hA',hsh,hm'⟩:=run_appendS (X':=0) (P:=P) (ty:=ty) (new:=ys.map byteV) (xv:=bs ys) (n:=ys.length) (S:=S) (X:=X) hz hm hL hs.sh hlen (fun w _=>hfc w) (by simp) (fun u hu=>by
   obtain ⟨c,_,rfl⟩:=List.mem_map.1 hu
   rfl) (by
    rw [hfl,List.length_map,← hln,Nat.mul_one]
    exact Nat.le_trans (Nat.mul_le_mul hr hb) (by decide)) (by omega) w hA hpos
  have hv:∃ q' cp',v' = .slice q' (n+ys.length) cp':=by
   rcases hsh with ⟨rfl,_,h1⟩ | ⟨B,n',cap,spare,rfl,_,h1,_,_⟩
   ·have:=congrArg List.length h1
    simp only [List.length_append,List.length_map,List.length_nil] at this
    omega
   ·have h2:n'=n+ys.length:=by
     have:n'=n'*1:=by omega
     rw [this,h1,List.length_append,hfl,List.length_map,← hln,Nat.mul_one]
    exact ⟨_,_,by rw [h2]⟩
  obtain ⟨q',cp',rfl⟩:=hv
  refine ⟨.value (.slice q' (n+ys.length) cp'),w',h', .slice q' (n+ys.length) cp',by simp [execOp,resolve,hx,hy,invoke,builtin,hrun],hA', .inl rfl,q',cp',Lv',rfl,⟨?_,by simp [hln],fun r hr=>?_⟩,hm'⟩
  ·rw [List.flatten_append,u8_flat]
   exact hsh
  ·rcases List.mem_append.1 hr with hr | hr
   ·exact hs.row r hr
   ·exact u8_row r hr
theorem evAppendS_sound {S X:TypeId} {x y:Operand} (hT:CtOK P C) (hX:∃ a b c d e,ti C X=some ⟨.str,a,b,c,d,e⟩) (hr:Rel F ι s ρ) (hm:Hp h F (lv ι s.ow++L0)) (hnp:s.np % 1000≤dt) (h0:evAppendS C s dt x y S K=some r):Ef P ρ ⟨dst, .call ⟨.builtin .append,#[x,y],#[S,X]⟩,ty,p,af,gd⟩ h (Post K r F ι s ρ L0 dt):=by
 obtain ⟨xa,xb,xc,xd,xe,hX⟩:=hX
 haveI:Und P X .string:=⟨(ti_ok hT hX).und⟩
 unfold evAppendS at h0
 split at h0
 ·rename_i et _ _ _ _ _ hS
  split at h0
  ·rename_i sh ag z by_ hte
   have hke:=ti_ok hT hte
   obtain ⟨i,hi1,hi2⟩:=hke.inf
   haveI:Und P S (.slice et):=⟨(ti_ok hT hS).und⟩
   haveI:Inf P et i:=⟨hi1⟩
   haveI:Zer P et z:=⟨hke.zer⟩
   haveI:Siz P et 1:=⟨hke.siz⟩
   have hzc:z.cells.size=1:=hke.zc
   cases hc:Nat.ble (by_+1) 32768 with
   | false=>rw [hc] at h0; cases h0
   | true =>
    rw [hc] at h0
    simp only [cond_true] at h0
    rw [Nat.ble_eq] at hc
    split at h0
    ·rename_i ys hys
     have hy:=g_rd hr y
     rw [hys] at hy
     have hy:=Rd.str_inv hy
     have hx:=g_rd hr x
     split at h0
     ·rename_i tx hl
      rw [hl] at hx
      have hx:ev ρ x=(ι tx).1:=hx
      split at h0
      ·rename_i e' T xs hlk
       split at h0
       ·rename_i xs' hcast
        obtain ⟨rfl,hcast⟩:=castE_eq hcast
        have hcast:xs=xs':=hcast
        subst hcast
        cases hT':(T == et) with
        | false=>rw [hT'] at h0; cases h0
        | true =>
         rw [hT'] at h0
         simp only [cond_true] at h0
         have hT':T=et:=by simpa using hT'
         subst hT'
         obtain ⟨rr,hrr,h0⟩:=Option.bind_eq_some_iff.1 h0
         obtain ⟨l1,l2,u1,u2⟩:=split_lv (ι:=ι) hr.nd hlk
         obtain ⟨q,n,cp,rows,g1,g2,g3⟩:=hr.look hlk
         have hr1:=hr.purge (t:=tx)
         unfold appL at hrr
         split at hrr
         ·rename_i hle
          cases hrr
          have hml:n=xs.length:=by rw [g2.len,← forall2_len g3]
          rw [g1] at hx
          refine (ef_appendS (P:=P) (dst:=dst) (ty:=ty) (p:=p) (af:=af) (gd:=gd) hzc hx hy hm (L1:=l1) (Lv:=(ι tx).2) (L2:=l2++L0) (by rw [u1]; simp) g2 (by simp only at hi2; rw [hi2]; exact hc) (by rw [hml]; exact hle)).mono fun v h' ⟨q',cp',Lv',e1,e2,e3⟩=>?_
          subst e1
          refine post_make (s1:=s.purge tx) (b := .rows .u8 T (xs++ys)) (x:=(.slice q' (n+ys.length) cp',Lv')) hnp rfl rfl rfl hr1 ?_ ⟨q',n+ys.length,cp',rows++ys.map fun c=>[byteV c],by rw [Gh.upd_same],by rw [Gh.upd_same]; exact e2,g3.append (u8_rows ys)⟩ (.of_w (by show _=_; rw [Gh.upd_same])) h0
          have p1:(Lv'++(l1++l2++L0)).Perm (l1++(Lv'++(l2++L0))):=by
           rw [List.append_assoc l1]
           exact List.perm_append_comm_assoc _ _ _
          have e4:=e3.perm p1
          rw [← u2] at e4
          exact e4.sub ((List.Sublist.refl _).append ((purge_sub _ _).append (List.Sublist.refl _)))
         ·cases hrr
       ·cases h0
      ·cases h0
     ·rename_i hl
      rw [hl] at hx
      have hx:=Rd.nil_inv hx
      obtain ⟨rr,hrr,h0⟩:=Option.bind_eq_some_iff.1 h0
      unfold appL at hrr
      split at hrr
      ·rename_i hle
       cases hrr
       refine (ef_appendS (P:=P) (dst:=dst) (ty:=ty) (p:=p) (af:=af) (gd:=gd) hzc hx hy hm (L1:=[]) (Lv:=[]) (L2:=lv ι s.ow++L0) (by simp) (SlO.nil _ _) (by simp only at hi2; rw [hi2]; exact hc) (by simpa using hle)).mono fun v h' ⟨q',cp',Lv',e1,e2,e3⟩=>?_
       subst e1
       refine post_make (s1:=s) (b := .rows .u8 et ([]++ys)) (x:=(.slice q' (0+ys.length) cp',Lv')) hnp rfl rfl rfl hr ?_ ⟨q',0+ys.length,cp',[]++ys.map fun c=>[byteV c],by rw [Gh.upd_same],by rw [Gh.upd_same]; exact e2,F2.append .nil (u8_rows ys)⟩ (.of_w (by show _=_; rw [Gh.upd_same])) h0
       exact e3.sub ((List.Sublist.refl _).append ((purge_sub _ _).append (List.Sublist.refl _)))
      ·cases hrr
     ·cases h0
    ·cases h0
  ·cases h0
 ·cases h0
theorem evConv_sound {S T:TypeId} {x:Operand} (hT:CtOK P C) (hr:Rel F ι s ρ) (hm:Hp h F (lv ι s.ow++L0)) (hnp:s.np % 1000≤dt) (h0:evEff C s dt (.convert S T x) K=some r):Ef P ρ ⟨dst, .convert S T x,ty,p,af,gd⟩ h (Post K r F ι s ρ L0 dt):=by
 simp only [evEff] at h0
 split at h0
 ·rename_i _ _ _ _ _ hS
  split at h0
  ·rename_i et _ _ _ _ _ ht
   split at h0
   ·rename_i _ _ _ _ hte
    split at h0
    ·rename_i l hl
     haveI:Und P S .string:=⟨(ti_ok hT hS).und⟩
     haveI:Und P T (.slice et):=⟨(ti_ok hT ht).und⟩
     haveI:Und P et (.int .u8):=⟨(ti_ok hT hte).und⟩
     have hx:=g_rd hr x
     rw [hl] at hx
     have hx:=Rd.str_inv hx
     refine ⟨fun E w hw=>?_⟩
     obtain ⟨cap,w',hc,hrun,hA⟩:=run_s2b (P:=P) (S:=S) (T:=T) (e:=et) (d:=dst) (ty:=ty) (p:=p) (af:=af) (g:=gd) hx w hw
     refine ⟨_,w',_,_,hrun,hA, .inl rfl,?_⟩
     refine post_make (b := .rows .u8 et l) (x:=(.slice (some ⟨h.size,0,none⟩) l.length cap,[(h.size,l.map byteV++List.replicate (cap - l.length) (Value.int .u8 0),BT.c et)])) hnp rfl rfl rfl hr ((hm.purge (t:=dt)).pushB _ _ _ ⟨(cap,cap+1),fun i hi h=>by simp at hi; simp at h; omega,rfl⟩) ⟨some ⟨h.size,0,none⟩,l.length,cap,l.map fun c=>[byteV c],by rw [Gh.upd_same],?_,u8_rows l⟩ (.of_w (by show _=_; rw [Gh.upd_same])) h0
     rw [Gh.upd_same]
     exact ⟨.inr ⟨h.size,l.length,cap,List.replicate (cap - l.length) (Value.int .u8 0),rfl,by rw [u8_flat],by rw [u8_flat]; simp [V.E.sz],by rw [u8_flat]; simp [V.E.sz]; omega,hc⟩,by simp,u8_row⟩
    ·cases h0
   ·cases h0
  ·cases h0
 ·cases h0
theorem evRange_sound {T:TypeId} {x:Operand} (hT:CtOK P C) (hr:Rel F ι s ρ) (hm:Hp h F (lv ι s.ow++L0)) (hnp:s.np % 1000≤dt) (h0:evEff C s dt (.range T x) K=some r):Ef P ρ ⟨dst, .range T x,ty,p,af,gd⟩ h (Post K r F ι s ρ L0 dt):=by
 simp only [evEff] at h0
 split at h0
 ·rename_i _ _ _ _ _ ht
  split at h0
  ·rename_i l hl
   haveI:Und P T .string:=⟨(ti_ok hT ht).und⟩
   have hx:=g_rd hr x
   rw [hl] at hx
   have hx:=Rd.str_inv hx
   refine ⟨fun E w hw=>?_⟩
   have hrun:=run_range (P:=P) (T:=T) (d:=dst) (ty:=ty) (p:=p) (af:=af) (g:=gd) hx w hw
   refine ⟨_,_,_,_,hrun,hw.push, .inl rfl,?_⟩
   exact post_make (b := .sit l 0) (x:=(.pointer (some ⟨h.size,0,none⟩),[(h.size,[bs l,Value.int .i64 0],BT.sit)])) hnp rfl rfl rfl hr ((hm.purge (t:=dt)).pushB _ _ _ rfl) ⟨h.size,by rw [Gh.upd_same],by rw [Gh.upd_same]; rfl⟩ (.of_w (RdW.mkop (by rw [Gh.upd_same]))) h0
  ·cases h0
 ·cases h0
theorem setIf_ne {h:Array Obj} {B:Nat} {o:Obj}:∀ b,b≠B→(h.setIfInBounds B o)[b]?=h[b]?:=fun b hb=>by rw [Array.getElem?_setIfInBounds]; simp [fun e:B=b=>hb e.symm]; intro e; exact absurd e.symm hb
theorem setIf_at {h:Array Obj} {B:Nat} {o o':Obj} (hb:h[B]?=some o'):(h.setIfInBounds B o)[B]?=some o:=by
 have:=(Array.getElem?_eq_some_iff.1 hb).1
 rw [Array.getElem?_setIfInBounds]
 simp [this]
theorem post_upd {b b':OB} {B:Nat} {cs cs':List Value} {T:BT} {o o':Obj} {d':D} (hr:Rel F ι s ρ) (hm:Hp h F (lv ι s.ow++L0)) (hlk:s.look t=some b) (hB:(ι t).2=[(B,cs,T)]) (ho:h[B]?=some o) (hno:∀ c e z,o ≠ .cells c e z) (ho':isB (some o') (B,cs',T)) (hb':OwnR F (ι.upd t ((ι t).1,[(B,cs',T)])) t b') (hd:RdV F (ι.upd t ((ι t).1,[(B,cs',T)])) d' v) (hk:K d' (s.upd t b')=some r) :
  Post K r F ι s ρ L0 dt v (h.setIfInBounds B o'):=by
 obtain ⟨u1,l1,l2,u2,u3,_⟩:=hr.upd (b':=b') (x:=((ι t).1,[(B,cs',T)])) hlk rfl hb'
 have hsame:∀ t',(ι.upd t ((ι t).1,[(B,cs',T)]) t').1=(ι t').1:=fun t'=>by
  by_cases e:t'=t
  ·subst e; rw [Gh.upd_same]
  ·rw [Gh.upd_ne e]
 have hj:(lv ι s.ow++L0)[l1.length]?=some (B,cs,T):=by
  rw [u2,hB]
  simp
 have hp:=hm.putB (h':=h.setIfInBounds B o') (cs':=cs') hj setIf_ne (by rw [setIf_at ho]; exact ho') (fun c e hc=>by rw [ho] at hc; cases hc; exact absurd rfl (hno _ _ _))
 refine ⟨F,_,d',_, .refl F,u1,?_,hd,hk,rfl,rfl,rfl,fun _=>rfl,fun t _=>hsame t,fun t ht _ _ _=>Gh.upd_ne fun e=>ht _ (look_mem hlk) e.symm⟩
 rw [u3]
 rw [u2,hB] at hp
 simpa using hp
theorem evNext_sound {x:Operand} (hr:Rel F ι s ρ) (hm:Hp h F (lv ι s.ow++L0)) (h0:evEff C s dt (.next x true) K=some r):Ef P ρ ⟨dst, .next x true,ty,p,af,gd⟩ h (Post K r F ι s ρ L0 dt):=by
 simp only [evEff] at h0
 split at h0
 ·rename_i t hl
  split at h0
  ·rename_i l pos hlk
   have hx:=g_rd hr x
   rw [hl] at hx
   obtain ⟨B0,g0,hx⟩:=hx
   obtain ⟨B,g1,g2⟩:=hr.look hlk
   rw [g0] at g1
   cases g1
   have hb:h[B0]?=some (.stringIter ⟨l.toArray⟩ pos):=by
    have:=hm.own (B0,[bs l,Value.int .i64 (pos:Int)],BT.sit) (List.mem_append_left _ (lv_mem hlk (by rw [g2]; simp)))
    simpa [isB,sitO,bs] using this
   by_cases hp:pos<l.length
   ·rw [decide_eq_true hp] at h0
    simp only [cond_true] at h0
    refine ⟨fun E w hw=>?_⟩
    have hrun:=run_next_on (P:=P) (d:=dst) (ty:=ty) (p:=p) (af:=af) (g:=gd) hx w (by rw [hw.1]; exact hb) hp
    refine ⟨_,_,h.setIfInBounds B0 (.stringIter ⟨l.toArray⟩ (pos+(dec8 l pos).2)),_,hrun,⟨by rw [hw.1]; rfl,hw.2.1,hw.2.2.1,hw.2.2.2⟩, .inl rfl,?_⟩
    refine post_upd (b' := .sit l (pos+(dec8 l pos).2)) (d' := .tup [.bool true, .int .i64 (pos:Int), .int .i32 ((dec8 l pos).1:Int)]) (cs':=[bs l,Value.int .i64 ((pos+(dec8 l pos).2:Nat):Int)]) hr hm hlk g2 hb (by intro c e z; simp) (by show _=_; simp only [sitO,bs,Int.toNat_natCast]) ⟨B0,by rw [Gh.upd_same]; exact g0,by rw [Gh.upd_same]⟩ ⟨_,rfl, .cons (.of_rd (.bool .nil)) (.cons (.of_rd (.int .nil)) (.cons (.of_rd (.int .nil)) .nil))⟩ h0
   ·rw [decide_eq_false hp] at h0
    simp only [cond_false] at h0
    refine ⟨fun E w hw=>?_⟩
    have hrun:=run_next_off (P:=P) (d:=dst) (ty:=ty) (p:=p) (af:=af) (g:=gd) hx w (by rw [hw.1]; exact hb) hp
    exact ⟨_,_,h,_,hrun,hw, .inl rfl,F,ι, .tup [.bool false],s, .refl F,hr,hm,⟨_,rfl, .cons (.of_rd (.bool .nil)) .nil⟩,h0,rfl,rfl,rfl,fun _=>rfl,fun _ _=>rfl,fun _ _ _ _ _=>rfl⟩
  ·cases h0
 ·cases h0
theorem evMakeMap_sound {T:TypeId} {q:Option Operand} (hT:CtOK P C) (hr:Rel F ι s ρ) (hm:Hp h F (lv ι s.ow++L0)) (hnp:s.np % 1000≤dt) (h0:evEff C s dt (.makeMap T q) K=some r):Ef P ρ ⟨dst, .makeMap T q,ty,p,af,gd⟩ h (Post K r F ι s ρ L0 dt):=by
 simp only [evEff] at h0
 split at h0
 ·rename_i kt vt _ _ _ _ _ ht
  haveI:Und P T (.map kt vt):=⟨(ti_ok hT ht).und⟩
  split at h0
  ·rename_i k n hkn
   have hq:∀ y,q=some y→∃ k n,ev ρ y = .int k n:=fun y hy=>by
    subst hy
    have:=g_rd hr y
    simp only at hkn
    rw [hkn] at this
    exact ⟨_,_,Rd.int_inv this⟩
   refine ⟨fun E w hw=>?_⟩
   have hrun:=run_makeMap (P:=P) (T:=T) (d:=dst) (ty:=ty) (p:=p) (af:=af) (g:=gd) hq w hw
   refine ⟨_,_,_,_,hrun,hw.push, .inl rfl,?_⟩
   exact post_make (b := .mp []) (x:=(.map (some h.size),[(h.size,[],BT.map)])) hnp rfl rfl rfl hr ((hm.purge (t:=dt)).pushB _ _ _ rfl) ⟨h.size,[],by rw [Gh.upd_same],by rw [Gh.upd_same], .nil⟩ (.of_w (by show _=_; rw [Gh.upd_same])) h0
  ·cases h0
 ·cases h0
def mputV (a:Option Addr) (u:Value):List Value→List Value
 | k::v::r=>if isA a k then .pointer a::u::r else k::v::mputV a u r
 | _=>[.pointer a,u]
theorem mputV_rd {o:Option Nat} {a:Option Addr} {b:Bool} (ho:Rd F [.np o] [.pointer a]):∀ {l:List (Option Nat×Bool)} {cs:List Value},Rd F (mpD l) cs→Rd F (mpD (mput l o b)) (mputV a (.bool b) cs)
 | [],_,h=>by cases h; exact ho.cons (Rd.bool .nil)
 | (o',b')::l,_,h=>by
  obtain ⟨k,cs,rfl,h1,h2⟩:=h.inv_cons
  obtain ⟨v,cs,rfl,h3,h4⟩:=h2.inv_cons
  obtain ⟨a',rfl⟩:=h1.np_ptr
  have he:=np_inj ho h1
  have hA:isA a (.pointer a')=decide (o=o'):=by simp only [isA,decide_eq_decide]; exact he
  by_cases e:o=o'
  ·simp only [mput,mputV,hA,e,decide_true,if_true]
   have ho':=ho
   rw [e] at ho'
   exact ho'.cons (Rd.cons (Rd.bool .nil) h4)
  ·simp only [mput,mputV,hA,e,decide_false,if_false]
   exact h1.cons (h3.cons (mputV_rd ho h4))
theorem mp_even:∀ {l:List (Option Nat×Bool)} {cs:List Value},Rd F (mpD l) cs→cs.length=2*l.length
 | [],_,h=>by cases h; rfl
 | p::l,_,h=>by
  obtain ⟨k,cs,rfl,h1,h2⟩:=h.inv_cons
  obtain ⟨v,cs,rfl,h3,h4⟩:=h2.inv_cons
  simp [mp_even h4]
  omega
theorem mputV_obj {a:Option Addr} {u:Value}:∀ {l:List (Option Nat×Bool)} {cs:List Value} (i:Nat),Rd F (mpD l) cs→(match findD (isA a) (pairsO cs i) i with
   | some r=>pairsO (mputV a u cs) i=(pairsO cs i).modify (r.1 - i) (fun m=>{ m with key := .pointer a,val:=u })∧i≤r.1∧(mputV a u cs).length=cs.length
   | none=>pairsO (mputV a u cs) i=pairsO cs i++[{ key := .pointer a,val:=u,born:=i+l.length }]∧(mputV a u cs).length=cs.length+2)
 | [],_,i,h=>by cases h; simp [pairsO,findD,mputV]
 | p::l,_,i,h=>by
  obtain ⟨k,cs,rfl,h1,h2⟩:=h.inv_cons
  obtain ⟨v,cs,rfl,h3,h4⟩:=h2.inv_cons
  obtain ⟨a',rfl⟩:=h1.np_ptr
  by_cases hA:isA a (.pointer a')=true
  ·simp [pairsO,findD,mputV,hA]
  ·have ih:=mputV_obj (a:=a) (u:=u) (i+1) h4
   simp only [Bool.not_eq_true] at hA
   simp only [pairsO,findD,mputV,hA,Bool.false_eq_true,if_false]
   cases hf:findD (isA a) (pairsO cs (i+1)) (i+1) with
   | none =>
    rw [hf] at ih
    simp only at ih ⊢
    rw [ih.1]
    refine ⟨?_,by simp [ih.2]⟩
    simp only [List.cons_append,List.length_cons]
    rw [show i+(l.length+1)=i+1+l.length by omega]
   | some r =>
    rw [hf] at ih
    simp only at ih ⊢
    rw [ih.1]
    refine ⟨?_,by omega,by simp [ih.2.2]⟩
    rw [show r.1 - i=(r.1 - (i+1))+1 by omega]
    rfl
theorem evMapUpdate_sound {T:TypeId} {x y z:Operand} (hT:CtOK P C) (hr:Rel F ι s ρ) (hm:Hp h F (lv ι s.ow++L0)) (h0:evEff C s dt (.mapUpdate T x y z) K=some r):Ef P ρ ⟨dst, .mapUpdate T x y z,ty,p,af,gd⟩ h (Post K r F ι s ρ L0 dt):=by
 simp only [evEff] at h0
 split at h0
 ·rename_i kt vt _ _ _ _ _ ht
  split at h0
  ·rename_i e _ _ _ _ _ hk
   split at h0
   ·rename_i te hte
    cases hz:Nat.blt 0 te.size with
    | false=>rw [hz] at h0; cases h0
    | true =>
     rw [hz] at h0
     simp only [cond_true] at h0
     have hz:0<te.size:=by simpa [Nat.blt_eq] using hz
     haveI:Und P T (.map kt vt):=⟨(ti_ok hT ht).und⟩
     haveI:Und P kt (.pointer e):=⟨(ti_ok hT hk).und⟩
     haveI:Siz P e te.size:=⟨(ti_ok hT hte).siz⟩
     split at h0
     ·rename_i o ho
      have hy:=dPtr_rd ho (RdV.to_rd (g_rd hr y) (by
       have:=ho
       unfold dPtr at this
       split at this
       ·rename_i hd; rw [hd]; rfl
       ·rename_i hd; rw [hd]; rfl
       ·cases this))
      obtain ⟨a,ha⟩:=hy.np_ptr
      rw [ha] at hy
      split at h0
      ·rename_i b hb
       have hzv:=g_rd hr z
       rw [hb] at hzv
       have hzv:=Rd.bool_inv hzv
       split at h0
       ·rename_i t hg
        have hx:=g_rd hr x
        rw [hg] at hx
        have hx:ev ρ x=(ι t).1:=hx
        split at h0
        ·rename_i l hlk
         obtain ⟨B,cs,g1,g2,g3⟩:=hr.look hlk
         rw [g1] at hx
         have hbo:h[B]?=some (mapO cs):=hm.own (B,cs,BT.map) (List.mem_append_left _ (lv_mem hlk (by rw [g2]; simp)))
         refine ⟨fun E w hw=>?_⟩
         have hrun:=run_mapUpdate (P:=P) (T:=T) (kt:=kt) (vt:=vt) (e:=e) (z:=z) (d:=dst) (ty:=ty) (p:=p) (af:=af) (g:=gd) (isA a) hx ha w (by rw [hw.1]; exact hbo) (fun m hm'=>by
          obtain ⟨o',a',e1,e2⟩:=mp_keys 0 g3 m (by simpa using hm')
          rw [e1]
          exact np_equal (P:=P) (kt:=kt) (e:=e) (n:=te.size) (by omega) hm hw.1 hy e2) (fun m hm' hd=>by
          obtain ⟨o',a',e1,e2⟩:=mp_keys 0 g3 m (by simpa using hm')
          rw [e1] at hd ⊢
          simp only [isA,decide_eq_true_eq] at hd
          rw [hd])
         have hobj:(match findD (isA a) (pairsO cs 0) 0 with
           | some r=>Obj.map ((pairsO cs 0).toArray.modify r.1 fun m=>{ m with key := .pointer a,val:=ev ρ z }) (cs.length / 2)
           | none=>Obj.map ((pairsO cs 0).toArray.push { key := .pointer a,val:=ev ρ z,born:=cs.length / 2 }) (cs.length / 2+1))=mapO (mputV a (ev ρ z) cs):=by
          have h1:=mputV_obj (a:=a) (u:=ev ρ z) 0 g3
          have h2:=mp_even g3
          cases hf:findD (isA a) (pairsO cs 0) 0 with
          | none =>
           rw [hf] at h1
           simp only at h1 ⊢
           rw [mapO,h1.1,h1.2]
           have h3:(cs.length+2) / 2=cs.length / 2+1:=by omega
           have h4:cs.length / 2=0+l.length:=by omega
           rw [h3,h4]
           simp
          | some r =>
           rw [hf] at h1
           simp only at h1 ⊢
           rw [mapO,h1.1,h1.2.2]
           congr 1
           apply Array.ext'
           simp
         refine ⟨_,_,h.setIfInBounds B (mapO (mputV a (ev ρ z) cs)),undef,hrun,⟨?_,hw.2.1,hw.2.2.1,hw.2.2.2⟩, .inr ⟨rfl,rfl⟩,?_⟩
         ·rw [← hobj,hw.1]
          rfl
         ·refine post_upd (b' := .mp (mput l o b)) (d' := .und) (cs':=mputV a (ev ρ z) cs) (T:=BT.map) hr hm hlk g2 hbo (by intro c e z; simp [mapO]) rfl ⟨B,_,by rw [Gh.upd_same]; exact g1,by rw [Gh.upd_same],?_⟩ rfl h0
          rw [hzv]
          exact mputV_rd hy g3
        ·cases h0
       ·cases h0
      ·cases h0
     ·cases h0
   ·cases h0
  ·cases h0
 ·cases h0
set_option maxHeartbeats 1000000 in
theorem perm_cp (b:Blk) (l1 l2 L1 L2 Lv L0:List Blk):(l1++(L1++(b::Lv++L2)++l2)++L0).Perm (Lv++((L1++b::L2)++(l1++l2)++L0)):=by
 classical
 rw [List.perm_iff_count]
 intro a
 simp only [List.count_append,List.count_cons]
 omega
theorem evCopy_sound {x y:Operand} {S:TypeId} {tl:List TypeId} (hT:CtOK P C) (hr:Rel F ι s ρ) (hm:Hp h F (lv ι s.ow++L0)) (h0:evCopy C s x y S K=some r):Ef P ρ ⟨dst, .call ⟨.builtin .copy,#[x,y],(S::tl).toArray⟩,ty,p,af,gd⟩ h (Post K r F ι s ρ L0 dt):=by
 unfold evCopy at h0
 split at h0
 ·rename_i et _ _ _ _ _ hS
  split at h0
  ·rename_i te hte
   split at h0
   ·rename_i j hl
    have hx:=g_rd hr x
    rw [hl] at hx
    split at h0
    ·rename_i c T A hs hlk
     cases hc:(te.size == c.e.sz && A == et) with
     | false=>rw [hc] at h0; cases h0
     | true =>
      rw [hc] at h0
      simp only [cond_true] at h0
      simp only [Bool.and_eq_true,beq_iff_eq] at hc
      obtain ⟨hsz,rfl⟩:=hc
      obtain ⟨hn,hhn,h0⟩:=Option.bind_eq_some_iff.1 h0
      obtain ⟨hfz,h0⟩:=cond_none h0
      have h00:=listK_inv h0
      clear h0
      obtain ⟨ys,hys,h0⟩:=h00
      ·skip
       haveI:Und P S (.slice A):=⟨(ti_ok hT hS).und⟩
       haveI:Siz P A c.e.sz:=⟨fun w=>by rw [← hsz]; exact (ti_ok hT hte).siz w⟩
       obtain ⟨qx,nx,cx,news,w1,w2,w3,w4,w5,w6⟩:=listOf_sound hr hm (g_rd hr y) hys
       obtain ⟨hd9,g0,g1⟩:=hx
       obtain ⟨_,hds,o1,o2,o3⟩:=hr.look hlk
       have o1':=o1
       rw [g0] at o1'
       have o1':hd9=hds:=by simpa using o1'
       subst o1'
       obtain ⟨hs1,hs2,hds1,hds2,L1,L2,hd,B,cs,Lv,e1,e2,e3,e4,e5,e6,e7,e8⟩:=o2.split hhn
       have hdv:hd=ev ρ x:=by
        rw [e3,List.getElem?_append_right (by omega)] at g1
        simpa [e4] using g1
       subst hdv
       obtain ⟨q,n,cp,rows,a1,a2,a3⟩:=(e7.ha (by simp)).own hfz
       have hml:n=(c.xs hn).length:=by rw [a2.len,← forall2_len a3]
       have hp1:=lv_perm (ι:=ι) hr.nd hlk
       have hm1:Hp h F (Lv++((L1++(B,cs++[ev ρ x],BT.c T)::L2)++lv ι (s.purge NT).ow++L0)):=by
        refine hm.perm ?_
        refine List.Perm.trans ?_ (hp1.symm.append_right L0)
        rw [e5]
        simp only [List.append_assoc,List.cons_append]
        refine (List.perm_append_comm_assoc _ _ _).trans (List.Perm.append_left _ ?_)
        exact List.perm_middle
       refine (ef_copy (P:=P) (dst:=dst) (ty:=ty) (p:=p) (af:=af) (gd:=gd) (S:=S) (tl:=tl) a1 w1 hm1 a2 w6 w4 (by rw [w2,forall2_len w5]) (f2_row w5) (f2_ones w5)).mono fun v h' ⟨hv,Lv',b2,b3⟩=>?_
       subst hv
       have hmin:min nx n=min ys.length (c.xs hn).length:=by rw [w2,hml]
       rw [hmin] at b2 ⊢
       generalize min ys.length (c.xs hn).length=m at *
       have hsame:∀ t',(ι.upd NT ((ι NT).1,L1++((B,cs++[ev ρ x],BT.c T)::Lv'++L2)) t').1=(ι t').1:=fun t'=>by
        by_cases e:t'=NT
        ·subst e; rw [Gh.upd_same]
        ·rw [Gh.upd_ne e]
       obtain ⟨u1,l1,l2,u2,u3,u4⟩:=hr.upd (b' := .nodes c T A (hs.set j (c.wx hn (ys.take m++(c.xs hn).drop m))) none) (x:=((ι NT).1,L1++((B,cs++[ev ρ x],BT.c T)::Lv'++L2))) hlk rfl ⟨rfl,hd9,by rw [Gh.upd_same]; exact o1,by
        rw [Gh.upd_same]
        have e9:hs.set j (c.wx hn (ys.take m++(c.xs hn).drop m))=hs1++(c.wx hn (ys.take m++(c.xs hn).drop m))::hs2:=by rw [e1,List.set_append_right _ _ (by omega),e2]; simp
        rw [e9,e3]
        exact NR.join e6 e2 ⟨e7.hB,by rw [Cl.wx_enc]; exact e7.hc,e7.h1,fun _ => .mk a1 b2 (by rw [Cl.wx_xs]; exact (w5.take m).append (a3.drop m)) (Cl.wx_fz _ _),fun e=>by cases e⟩ e8,by simpa using o3⟩
       refine ⟨F,_, .int .i64 (m:Int),_, .refl F,u1,?_, .of_rd (.int .nil),h0,rfl,rfl,rfl,fun _=>rfl,fun t _=>hsame t,fun t ht _ _ _=>Gh.upd_ne fun e=>ht _ (look_mem hlk) e.symm⟩
       rw [u3]
       refine b3.perm ?_
       rw [u4]
       exact perm_cp _ _ _ _ _ _ _
    ·cases h0
   ·rename_i t hl
    have hx:=g_rd hr x
    rw [hl] at hx
    have hx:ev ρ x=(ι t).1:=hx
    split at h0
    ·rename_i ys hys
     have hy:=g_rd hr y
     rw [hys] at hy
     have hy:=Rd.str_inv hy
     split at h0
     ·rename_i e' T xs hlk
      split at h0
      ·rename_i xs' hcast
       obtain ⟨rfl,hcast⟩:=castE_eq hcast
       have hcast:xs=xs':=hcast
       subst hcast
       cases hc:(te.size == 1 && T == et) with
       | false=>rw [hc] at h0; cases h0
       | true =>
        rw [hc] at h0
        simp only [cond_true] at h0
        simp only [Bool.and_eq_true,beq_iff_eq] at hc
        obtain ⟨hsz,rfl⟩:=hc
        haveI:Und P S (.slice T):=⟨(ti_ok hT hS).und⟩
        haveI:Siz P T 1:=⟨fun w=>by rw [← hsz]; exact (ti_ok hT hte).siz w⟩
        obtain ⟨q,n,cp,rows,g1,g2,g3⟩:=hr.look hlk
        have w6:∀ l:List UInt8,F2 (fun x r=>Rd F (E.u8.enc x) r) l (l.map fun c=>[Value.int .u8 (c.toNat:Int)]):=fun l=>by
         induction l with
         | nil=>exact .nil
         | cons a l ih=>exact .cons (.int .nil) ih
        have w5:=w6 ys
        have hml:n=xs.length:=by rw [g2.len,← forall2_len g3]
        have hm1:Hp h F ((ι t).2++(lv ι (s.purge t).ow++L0)):=by
         refine hm.perm ?_
         rw [← List.append_assoc]
         exact ((lv_perm (ι:=ι) hr.nd hlk).append_right L0).symm
        refine (ef_copyS (P:=P) (dst:=dst) (ty:=ty) (p:=p) (af:=af) (gd:=gd) (S:=S) (tl:=tl) rfl (hx.trans g1) hy hm1 g2 rfl rfl (f2_row w5) (f2_ones w5)).mono fun v h' ⟨hv,Lv',b2,b3⟩=>?_
        subst hv
        have hmin:min (ys.map fun c=>[Value.int .u8 (c.toNat:Int)]).length n=min ys.length xs.length:=by rw [List.length_map,hml]
        rw [hmin] at b2 ⊢
        generalize min ys.length xs.length=m at *
        have hsame:∀ t',(ι.upd t ((ι t).1,Lv') t').1=(ι t').1:=fun t'=>by
         by_cases e:t'=t
         ·subst e; rw [Gh.upd_same]
         ·rw [Gh.upd_ne e]
        obtain ⟨u1,l1,l2,u2,u3,u4⟩:=hr.upd (b' := .rows .u8 T (ys.take m++xs.drop m)) (x:=((ι t).1,Lv')) hlk rfl ⟨q,n,cp,_,by rw [Gh.upd_same]; exact g1,by rw [Gh.upd_same]; exact b2,(w5.take m).append (g3.drop m)⟩
        refine ⟨F,_, .int .i64 (m:Int),_, .refl F,u1,?_, .of_rd (.int .nil),h0,rfl,rfl,rfl,fun _=>rfl,fun t _=>hsame t,fun t ht _ _ _=>Gh.upd_ne fun e=>ht _ (look_mem hlk) e.symm⟩
        rw [u3]
        refine b3.perm ?_
        rw [u4]
        simp only [List.append_assoc]
        exact List.perm_append_comm_assoc _ _ _
      ·cases h0
     ·cases h0
    ·cases h0
   ·cases h0
  ·cases h0
 ·cases h0
theorem evNae_sound {T:TypeId} {ti9:TI} [Siz P T ti9.size] {x y:Operand} {z i j off:Nat} (hr:Rel F ι s ρ) (hm:Hp h F (lv ι s.ow++L0)) (hx:RdV F ι (.nae z i j off) (ev ρ x)) (hy:RdV F ι d (ev ρ y)) (h0:evNae s ti9 z i j off d K=some r):Ef P ρ ⟨dst, .store T x y,ty,p,af,gd⟩ h (Post K r F ι s ρ L0 dt):=by
 unfold evNae at h0
 split at h0
 ·rename_i cl TN A hs hlk
  split at h0
  ·rename_i l hcl
   cases hc:(z == cl.e.sz && l.length == ti9.size && Nat.ble (off+ti9.size) cl.e.sz && l.all D.plain) with
   | false=>rw [hc] at h0; cases h0
   | true =>
    rw [hc] at h0
    simp only [cond_true] at h0
    simp only [Bool.and_eq_true,beq_iff_eq,Nat.ble_eq] at hc
    obtain ⟨⟨⟨hz,hc1⟩,hc2⟩,hc3⟩:=hc
    subst hz
    obtain ⟨hn,hhn,h0⟩:=Option.bind_eq_some_iff.1 h0
    obtain ⟨hfz,h0⟩:=cond_none h0
    obtain ⟨v,hv,h0⟩:=Option.bind_eq_some_iff.1 h0
    rw [decK_eq] at h0
    obtain ⟨v',hdec,h0⟩:=Option.bind_eq_some_iff.1 h0
    obtain ⟨hd9,B,n,cp,g0,g1,hx⟩:=hx
    obtain ⟨_,hds,o1,o2,o3⟩:=hr.look hlk
    have o1':=o1
    rw [g0] at o1'
    have o1':hd9=hds:=by simpa using o1'
    subst o1'
    obtain ⟨hs1,hs2,hds1,hds2,L1,L2,hd,B0,cs,Lv,e1,e2,e3,e4,e5,e6,e7,e8⟩:=o2.split hhn
    have hdv:hd = .slice (some ⟨B,0,none⟩) n cp:=by
     rw [e3,List.getElem?_append_right (by omega)] at g1
     simpa [e4] using g1
    subst hdv
    obtain ⟨q,n',cp',rows,a1,a2,a3⟩:=(e7.ha (by simp)).own hfz
    cases a1
    obtain ⟨new,n1,n2,n3⟩:=cellsOf_sound hr hy hcl
    have hnl:=forall2_len n2
    obtain ⟨row,hrow,hrd⟩:=forall2_get a3 hv
    have hrl:=a2.row row (List.mem_of_getElem? hrow)
    obtain ⟨pre,post,f1,f2,f3⟩:=flat_split2 a2.row hrow
    have hnew:Rd F (cl.e.enc v') (row.take off++new++row.drop (off+ti9.size)):=dec_rd hdec (((hrd.take off).append (n2.rd hc3)).append (hrd.drop _))
    have hp1:=lv_perm (ι:=ι) hr.nd hlk
    have hm1:Hp h F (Lv++((L1++(B0,cs++[.slice (some ⟨B,0,none⟩) n cp],BT.c TN)::L2)++lv ι (s.purge NT).ow++L0)):=by
     refine hm.perm ?_
     refine List.Perm.trans ?_ (hp1.symm.append_right L0)
     rw [e5]
     simp only [List.append_assoc,List.cons_append]
     refine (List.perm_append_comm_assoc _ _ _).trans (List.Perm.append_left _ ?_)
     exact List.perm_middle
    rcases a2.sh with ⟨he,_,_⟩ | ⟨B',n9,cap,spare,he,hL,hn',hcap,hle⟩
    ·cases he
    ·cases he
     subst hL
     have hfl:=flat_len a2.row
     have hrow':∀ r∈rows.set j (row.take off++new++row.drop (off+ti9.size)),r.length=cl.e.sz:=fun r hr=>by
      rcases List.mem_or_eq_of_mem_set hr with h2 | h2
      ·exact a2.row r h2
      ·rw [h2,hnew.length,enc_len]
     have hfl':=flat_len hrow'
     have hsl:SlO cl.e.sz A (some ⟨B,0,none⟩) n cp [(B,(rows.set j (row.take off++new++row.drop (off+ti9.size))).flatten++spare,BT.c A)] (rows.set j (row.take off++new++row.drop (off+ti9.size))) :=
      ⟨.inr ⟨B,n,cp,spare,rfl,rfl,by rw [hfl',hn',hfl]; simp,by rw [hfl',hcap,hfl]; simp,hle⟩,by rw [a2.len]; simp,hrow'⟩
     have hsame:∀ t',(ι.upd NT ((ι NT).1,L1++((B0,cs++[.slice (some ⟨B,0,none⟩) n cp],BT.c TN)::[(B,(rows.set j (row.take off++new++row.drop (off+ti9.size))).flatten++spare,BT.c A)]++L2)) t').1=(ι t').1:=fun t'=>by
      by_cases e:t'=NT
      ·subst e; rw [Gh.upd_same]
      ·rw [Gh.upd_ne e]
     obtain ⟨u1,l1,l2,u2,u3,u4⟩:=hr.upd (b' := .nodes cl TN A (hs.set i (cl.wx hn ((cl.xs hn).set j v'))) none) (x:=((ι NT).1,L1++((B0,cs++[.slice (some ⟨B,0,none⟩) n cp],BT.c TN)::[(B,(rows.set j (row.take off++new++row.drop (off+ti9.size))).flatten++spare,BT.c A)]++L2))) hlk rfl ⟨rfl,hd9,by rw [Gh.upd_same]; exact o1,by
      rw [Gh.upd_same]
      have e9:hs.set i (cl.wx hn ((cl.xs hn).set j v'))=hs1++(cl.wx hn ((cl.xs hn).set j v'))::hs2:=by rw [e1,List.set_append_right _ _ (by omega),e2]; simp
      rw [e9,e3]
      exact NR.join e6 e2 ⟨e7.hB,by rw [Cl.wx_enc]; exact e7.hc,e7.h1,fun _ => .mk rfl hsl (by rw [Cl.wx_xs]; exact a3.set hnew) (Cl.wx_fz _ _),fun e=>by cases e⟩ e8,by simpa using o3⟩
     have hsp:rows.flatten++spare=(pre++row.take off)++(row.drop off).take ti9.size++(row.drop (off+ti9.size)++post++spare):=by
      rw [f1]
      have:row=row.take off++((row.drop off).take ti9.size++row.drop (off+ti9.size)):=by rw [← List.drop_drop,List.take_append_drop,List.take_append_drop]
      conv=>lhs; rw [this]
      simp
     rw [hsp] at hm1
     refine (ef_store0 (P:=P) (T:=T) hx rfl n1 (by omega) n3 (show Hp h F ((B,(pre++row.take off)++(row.drop off).take ti9.size++(row.drop (off+ti9.size)++post++spare),BT.c A)::((L1++(B0,cs++[.slice (some ⟨B,0,none⟩) n cp],BT.c TN)::L2)++lv ι (s.purge NT).ow++L0)) from hm1) (by simp [f2]; omega) (by simp; omega)).mono fun w h' ⟨hv,hm'⟩=>?_
     subst hv
     refine ⟨F,_, .und,_, .refl F,u1,?_,rfl,h0,rfl,rfl,rfl,fun _=>rfl,fun t _=>hsame t,fun t ht _ _ _=>Gh.upd_ne fun e=>ht _ (look_mem hlk) e.symm⟩
     rw [u3]
     have hm2:Hp h' F ([(B,(rows.set j (row.take off++new++row.drop (off+ti9.size))).flatten++spare,BT.c A)]++((L1++(B0,cs++[.slice (some ⟨B,0,none⟩) n cp],BT.c TN)::L2)++lv ι (s.purge NT).ow++L0)):=by
      rw [f3]
      simpa using hm'
     refine hm2.perm ?_
     rw [u4]
     exact perm_cp _ _ _ _ _ _ _
  ·cases h0
 ·cases h0
theorem evAppend_sound {sy:St} {L1':List Blk} {x y:Operand} {S X:TypeId} (hT:CtOK P C) (hr:Rel F ι s ρ) (hm:Hp h F (lv ι s.ow++L0)) (hry:Rel F ι sy ρ) (hmy:Hp h F (lv ι sy.ow++L1')) (hnp:s.np % 1000≤dt) (h0:evAppend C sy s dt x y S X K=some r):Ef P ρ ⟨dst, .call ⟨.builtin .append,#[x,y],#[S,X]⟩,ty,p,af,gd⟩ h (Post K r F ι s ρ L0 dt):=by
 unfold evAppend at h0
 split at h0
 ·rename_i et _ _ _ _ _ hS
  split at h0
  ·rename_i X' _ _ _ _ _ hX
   split at h0
   ·rename_i sh sz ag z by_ e hte
    have hke:=ti_ok hT hte
    obtain ⟨i,hi1,hi2⟩:=hke.inf
    haveI:Und P S (.slice et):=⟨(ti_ok hT hS).und⟩
    haveI:Und P X (.slice X'):=⟨(ti_ok hT hX).und⟩
    haveI:Inf P et i:=⟨hi1⟩
    haveI:Zer P et z:=⟨hke.zer⟩
    cases hc:(sz == e.sz && Nat.ble (sz*(by_+1)) 32768) with
    | false=>rw [hc] at h0; cases h0
    | true =>
     rw [hc] at h0
     simp only [cond_true] at h0
     simp only [Bool.and_eq_true,beq_iff_eq,Nat.ble_eq] at hc
     obtain ⟨rfl,hc1⟩:=hc
     haveI:Siz P et e.sz:=⟨hke.siz⟩
     have hzc:z.cells.size=e.sz:=hke.zc
     have hx:=g_rd hr x
     split at h0
     ·rename_i tx hl
      rw [hl] at hx
      have hx:ev ρ x=(ι tx).1:=hx
      split at h0
      ·rename_i e' T xs hlk
       split at h0
       ·rename_i xs' hcast
        obtain ⟨rfl,hcast⟩:=castE_eq hcast
        have hcast:xs=xs':=hcast
        subst hcast
        have h00:=listK_inv h0
        clear h0
        obtain ⟨ys,hys,h0⟩:=h00
        ·skip
         cases hT':(T == et) with
         | false=>rw [hT'] at h0; cases h0
         | true =>
          rw [hT'] at h0
          simp only [cond_true] at h0
          have hT':T=et:=by simpa using hT'
          subst hT'
          obtain ⟨rr,hrr,h0⟩:=Option.bind_eq_some_iff.1 h0
          obtain ⟨l1,l2,u1,u2⟩:=split_lv (ι:=ι) hr.nd hlk
          obtain ⟨q,n,cp,rows,g1,g2,g3⟩:=hr.look hlk
          have hr1:=hr.purge (t:=tx)
          obtain ⟨qx,nx,cx,news,w1,w2,w3,w4,w5,w6⟩:=listOf_sound hry.purge hmy.purge (g_rd hry.purge y) hys
          unfold appL at hrr
          split at hrr
          ·rename_i hle
           cases hrr
           have hml:n=xs.length:=by rw [g2.len,← forall2_len g3]
           rw [g1] at hx
           refine (ef_append (P:=P) (dst:=dst) (ty:=ty) (p:=p) (af:=af) (gd:=gd) hzc hx w1 hm (L1:=l1) (Lv:=(ι tx).2) (L2:=l2++L0) (by rw [u1]; simp) g2 w6 w4 (by rw [w2,forall2_len w5]) (f2_row w5) (f2_ones w5) (by simp only at hi2; rw [hi2]; exact hc1) (by omega)).mono fun v h' ⟨q',cp',Lv',e1,e2,e3⟩=>?_
           subst e1
           refine post_make (s1:=s.purge tx) (b := .rows e' T (xs++ys)) (x:=(.slice q' (n+nx) cp',Lv')) hnp rfl rfl rfl hr1 ?_ ⟨q',n+nx,cp',rows++news,by rw [Gh.upd_same],by rw [Gh.upd_same]; exact e2,g3.append w5⟩ (.of_w (by show _=_; rw [Gh.upd_same])) h0
           have p1:(Lv'++(l1++l2++L0)).Perm (l1++(Lv'++(l2++L0))):=by
            rw [List.append_assoc l1]
            exact List.perm_append_comm_assoc _ _ _
           have e4:=e3.perm p1
           rw [← u2] at e4
           exact e4.sub ((List.Sublist.refl _).append ((purge_sub _ _).append (List.Sublist.refl _)))
          ·cases hrr
       ·cases h0
      ·cases h0
     ·rename_i hl
      rw [hl] at hx
      have hx:=Rd.nil_inv hx
      have h00:=listK_inv h0
      clear h0
      obtain ⟨ys,hys,h0⟩:=h00
      ·skip
       obtain ⟨rr,hrr,h0⟩:=Option.bind_eq_some_iff.1 h0
       obtain ⟨qx,nx,cx,news,w1,w2,w3,w4,w5,w6⟩:=listOf_sound hry hmy (g_rd hry y) hys
       unfold appL at hrr
       split at hrr
       ·rename_i hle
        cases hrr
        refine (ef_append (P:=P) (dst:=dst) (ty:=ty) (p:=p) (af:=af) (gd:=gd) hzc hx w1 hm (L1:=[]) (Lv:=[]) (L2:=lv ι s.ow++L0) (by simp) (SlO.nil _ _) w6 w4 (by rw [w2,forall2_len w5]) (f2_row w5) (f2_ones w5) (by simp only at hi2; rw [hi2]; exact hc1) (by simp at hle; omega)).mono fun v h' ⟨q',cp',Lv',e1,e2,e3⟩=>?_
        subst e1
        refine post_make (s1:=s) (b := .rows e et ([]++ys)) (x:=(.slice q' (0+nx) cp',Lv')) hnp rfl rfl rfl hr ?_ ⟨q',0+nx,cp',[]++news,by rw [Gh.upd_same],by rw [Gh.upd_same]; exact e2,F2.append .nil w5⟩ (.of_w (by show _=_; rw [Gh.upd_same])) h0
        exact e3.sub ((List.Sublist.refl _).append ((purge_sub _ _).append (List.Sublist.refl _)))
       ·cases hrr
     ·rename_i i' hl
      rw [hl] at hx
      split at h0
      ·rename_i cl TN A hs hlk
       have h00:=listK_inv h0
       clear h0
       obtain ⟨ys,hys,h0⟩:=h00
       ·skip
        cases hcc:(A == et && decide (e=cl.e) && Nat.ble (s.np % 1000) NT && !(dt == NT)) with
        | false=>rw [hcc] at h0; cases h0
        | true =>
         rw [hcc] at h0
         simp only [cond_true] at h0
         simp only [Bool.and_eq_true,beq_iff_eq,Nat.ble_eq,decide_eq_true_eq,Bool.not_eq_true',beq_eq_false_iff_ne] at hcc
         obtain ⟨⟨⟨hA,he⟩,hnp2⟩,hdN⟩:=hcc
         subst hA
         subst he
         obtain ⟨hn,hhn,h0⟩:=Option.bind_eq_some_iff.1 h0
         obtain ⟨hfz,h0⟩:=cond_none h0
         obtain ⟨rr,hrr,h0⟩:=Option.bind_eq_some_iff.1 h0
         obtain ⟨hd9,g0,g1⟩:=hx
         obtain ⟨_,hds,o1,o2,o3⟩:=hr.look hlk
         rw [g0] at o1
         have o1:hd9=hds:=by simpa using o1
         subst o1
         obtain ⟨hs1,hs2,hds1,hds2,L1,L2,hd,B,cs,Lv,e1,e2,e3,e4,e5,e6,e7,e8⟩:=o2.split hhn
         have hdv:hd=ev ρ x:=by
          rw [e3,List.getElem?_append_right (by omega)] at g1
          simpa [e4] using g1
         subst hdv
         obtain ⟨q,n,cp,rows,a1,a2,a3⟩:=(e7.ha (by simp)).own hfz
         have hr1:=hr.purge (t:=NT)
         obtain ⟨qx,nx,cx,news,w1,w2,w3,w4,w5,w6⟩:=listOf_sound hry.purge hmy.purge (g_rd hry.purge y) hys
         unfold appL at hrr
         split at hrr
         ·rename_i hle
          cases hrr
          have hml:n=(cl.xs hn).length:=by rw [a2.len,← forall2_len a3]
          have hm1:Hp h F ([]++(Lv++((L1++(B,cs++[ev ρ x],BT.c TN)::L2)++lv ι (s.purge NT).ow++L0))):=by
           refine hm.perm ?_
           refine List.Perm.trans ?_ ((lv_perm (ι:=ι) hr.nd hlk).symm.append_right L0)
           rw [e5]
           simp only [List.nil_append,List.append_assoc,List.cons_append]
           refine (List.perm_append_comm_assoc _ _ _).trans (List.Perm.append_left _ ?_)
           exact List.perm_middle
          refine (ef_append (P:=P) (dst:=dst) (ty:=ty) (p:=p) (af:=af) (gd:=gd) (e:=cl.e) hzc a1 w1 hm1 (L1:=[]) (Lv:=Lv) rfl a2 w6 w4 (by rw [w2,forall2_len w5]) (f2_row w5) (f2_ones w5) (by simp only at hi2; rw [hi2]; exact hc1) (by omega)).mono fun v h' ⟨q',cp',Lv',b1,b2,b3⟩=>?_
          subst b1
          have hNT:OwnR F (ι.upd NT (.tuple hd9.toArray,L1++((B,cs++[ev ρ x],BT.c TN)::[]++L2))) NT (.nodes cl TN A hs (some i')):=by
           refine ⟨rfl,hd9,by rw [Gh.upd_same],?_,o3⟩
           rw [Gh.upd_same]
           rw [e1,e3]
           refine NR.join (e6.other fun j _ hj=>⟨by simp,by simp; omega⟩) e2 ⟨e7.hB,e7.hc,e7.h1,fun hne=>absurd (by simp) hne,fun _=>rfl⟩ (e8.other fun j hj _=>⟨by simp,by simp; omega⟩)
          obtain ⟨k1,k2⟩:=hr1.make hNT
          have hpost:=post_make (K:=K) (r:=r) (h':=h') (L0:=L0) (v := .slice q' (n+nx) cp') (d' := .own dt) (s:=s) (ι:=ι.upd NT (.tuple hd9.toArray,L1++((B,cs++[ev ρ x],BT.c TN)::[]++L2))) (s1:=(s.purge NT).make NT (.nodes cl TN A hs (some i'))) (b := .rows cl.e A (cl.xs hn++ys)) (x:=(.slice q' (n+nx) cp',Lv')) hnp rfl rfl rfl k1 (by
           have b4:Hp h' F (Lv'++(lv (ι.upd NT (.tuple hd9.toArray,L1++((B,cs++[ev ρ x],BT.c TN)::[]++L2))) ((s.purge NT).make NT (.nodes cl TN A hs (some i'))).ow++L0)):=by
            rw [k2]
            simpa using b3
           exact b4.sub ((List.Sublist.refl _).append ((purge_sub _ _).append (List.Sublist.refl _)))) ⟨q',n+nx,cp',rows++news,by rw [Gh.upd_same],by rw [Gh.upd_same]; exact b2,a3.append w5⟩ (.of_w (by show _=_; rw [Gh.upd_same])) h0
          obtain ⟨F',ι',d',s',p1,p2,p3,p4,p5,p6,p7,p8,p9,p10,p11⟩:=hpost
          refine ⟨F',ι',d',s',p1,p2,p3,p4,p5,p6,p7,p8,p9,fun t ht=>by rw [p10 t ht,Gh.upd_ne (by omega)],fun t ht h1 h2 htsb=>?_⟩
          have htN:t≠NT:=fun e=>ht _ (look_mem hlk) e.symm
          rw [p11 t ht h1 h2 htsb,Gh.upd_ne htN]
         ·cases hrr
      ·cases h0
     ·cases h0
   ·cases h0
  ·cases h0
 ·cases h0
theorem evEff_sound {o:Op} (hT:CtOK P C) (hr:Rel F ι s ρ) (hm:Hp h F (lv ι s.ow++L0)) (hnp:s.np % 1000≤dt) (h0:evEff C s dt o K=some r):Ef P ρ ⟨dst,o,ty,p,af,gd⟩ h (Post K r F ι s ρ L0 dt):=by
 unfold evEff at h0
 split at h0
 ·rename_i T
  split at h0
  ·rename_i t ht
   have hk:=ti_ok hT ht
   haveI:Zer P T t.zv:=⟨hk.zer⟩
   have hc:t.zv.cells=t.zv.cells.toList.toArray:=by simp
   refine .of_ex (ex_alloc (P:=P) (T:=T) (u:=t.zv)) ?_
   rw [hc]
   refine post_make (b := .cells T (t.zv.cells.toList.map ofVal)) (x:=(.pointer (some ⟨h.size,0,none⟩),[(h.size,t.zv.cells.toList,BT.c T)])) hnp rfl rfl rfl hr ((hm.purge (t:=dt)).push _ T) ⟨h.size,t.zv.cells.toList,by rw [Gh.upd_same],by rw [Gh.upd_same],ofVals_f2 _⟩ (.of_w (RdW.mkop (by rw [Gh.upd_same]))) h0
  ·cases h0
 ·rename_i T x
  exact evBoxN_sound hr hm hnp h0
 ·rename_i T x y
  split at h0
  ·rename_i t ht
   have hk:=ti_ok hT ht
   haveI:Siz P T t.size:=⟨hk.siz⟩
   have hx:=g_rd hr x
   split at h0
   ·rename_i b off hl
    rw [hl] at hx
    split at h0
    ·rename_i T0 ds hlk
     split at h0
     ·rename_i l hcl
      obtain ⟨B,g0,hx⟩:=hx
      obtain ⟨B',cs,g1,g2,g3⟩:=hr.look hlk
      rw [g0] at g1
      cases g1
      obtain ⟨new,n1,n2,n3⟩:=cellsOf_sound hr (g_rd hr y) hcl
      cases hc:(l.length == t.size && Nat.ble (off+t.size) ds.length) with
      | false=>rw [hc] at h0; cases h0
      | true =>
       rw [hc] at h0
       simp only [cond_true] at h0
       simp only [Bool.and_eq_true,beq_iff_eq,Nat.ble_eq] at hc
       have hnl:=forall2_len n2
       have hcl':=forall2_len g3
       have hsame:∀ t',(ι.upd b ((ι b).1,[(B,cs.take off++new++cs.drop (off+t.size),BT.c T0)]) t').1=(ι t').1:=fun t'=>by
        by_cases e:t'=b
        ·subst e; rw [Gh.upd_same]
        ·rw [Gh.upd_ne e]
       obtain ⟨u1,l1,l2,u2,u3,_⟩:=hr.upd (b' := .cells T0 (ds.take off++l++ds.drop (off+t.size))) (x:=((ι b).1,[(B,cs.take off++new++cs.drop (off+t.size),BT.c T0)])) hlk rfl ⟨B,_,by rw [Gh.upd_same]; exact g0,by rw [Gh.upd_same],forall2_imp (fun _ _ h=>h.same1 hsame) (((g3.take off).append n2).append (g3.drop _))⟩
       have hsp:cs=cs.take off++(cs.drop off).take t.size++cs.drop (off+t.size):=by rw [← List.drop_drop,List.append_assoc,List.take_append_drop,List.take_append_drop]
       have hj:(lv ι s.ow++L0)[l1.length]?=some (B,cs.take off++(cs.drop off).take t.size++cs.drop (off+t.size),BT.c T0):=by
        rw [← hsp,u2,g2]
        simp
       refine (ef_store (P:=P) (T:=T) hx rfl n1 (by omega) n3 hm hj (by simp; omega) (by simp; omega)).mono fun v h' ⟨hv,hm'⟩=>?_
       subst hv
       refine ⟨F,_, .und,_, .refl F,u1,?_,rfl,h0,rfl,rfl,rfl,fun _=>rfl,fun t _=>hsame t,fun t ht _ _ _=>Gh.upd_ne fun e=>ht _ (look_mem hlk) e.symm⟩
       rw [u3]
       rw [u2,g2] at hm'
       simpa using hm'
     ·cases h0
    ·cases h0
   ·rename_i b z i off hl
    rw [hl] at hx
    split at h0
    ·rename_i e T0 xs hlk
     split at h0
     ·rename_i l hcl
      cases hc:(z == e.sz && l.length == t.size && Nat.ble (off+t.size) e.sz && l.all D.plain) with
      | false=>rw [hc] at h0; cases h0
      | true =>
       rw [hc] at h0
       simp only [cond_true] at h0
       simp only [Bool.and_eq_true,beq_iff_eq,Nat.ble_eq] at hc
       obtain ⟨⟨⟨rfl,hc1⟩,hc2⟩,hc3⟩:=hc
       obtain ⟨v,hv,h0⟩:=Option.bind_eq_some_iff.1 h0
       rw [decK_eq] at h0
       obtain ⟨v',hdec,h0⟩:=Option.bind_eq_some_iff.1 h0
       ·skip
        obtain ⟨B,n,cp,g0,hx⟩:=hx
        obtain ⟨q,m,cp',rows,g1,g2,g3⟩:=hr.look hlk
        rw [g0] at g1
        cases g1
        obtain ⟨new,n1,n2,n3⟩:=cellsOf_sound hr (g_rd hr y) hcl
        have hnl:=forall2_len n2
        obtain ⟨row,hrow,hrd⟩:=forall2_get g3 hv
        have hrl:=g2.row row (List.mem_of_getElem? hrow)
        obtain ⟨pre,post,e1,e2,e3⟩:=flat_split2 g2.row hrow
        have hnew:Rd F (e.enc v') (row.take off++new++row.drop (off+t.size)):=dec_rd hdec (((hrd.take off).append (n2.rd hc3)).append (hrd.drop _))
        rcases g2.sh with ⟨he,_,_⟩ | ⟨B',n',cap,spare,he,hL,hn',hcap,hle⟩
        ·cases he
        ·cases he
         have hfl:=flat_len g2.row
         have hrow':∀ r∈rows.set i (row.take off++new++row.drop (off+t.size)),r.length=e.sz:=fun r hr=>by
          rcases List.mem_or_eq_of_mem_set hr with h2 | h2
          ·exact g2.row r h2
          ·rw [h2,hnew.length,enc_len]
         have hfl':=flat_len hrow'
         have hsame:∀ t',(ι.upd b ((ι b).1,[(B,(rows.set i (row.take off++new++row.drop (off+t.size))).flatten++spare,BT.c T0)]) t').1=(ι t').1:=fun t'=>by
          by_cases e:t'=b
          ·subst e; rw [Gh.upd_same]
          ·rw [Gh.upd_ne e]
         obtain ⟨u1,l1,l2,u2,u3,_⟩:=hr.upd (b' := .rows e T0 (xs.set i v')) (x:=((ι b).1,[(B,(rows.set i (row.take off++new++row.drop (off+t.size))).flatten++spare,BT.c T0)])) hlk rfl ⟨_,n,cp,rows.set i (row.take off++new++row.drop (off+t.size)),by rw [Gh.upd_same]; exact g0,by
          rw [Gh.upd_same]
          exact ⟨.inr ⟨B,n,cp,spare,rfl,rfl,by rw [hfl',hn',hfl]; simp,by rw [hfl',hcap,hfl]; simp,hle⟩,by rw [g2.len]; simp,hrow'⟩,g3.set hnew⟩
         have hsp:rows.flatten++spare=(pre++row.take off)++(row.drop off).take t.size++(row.drop (off+t.size)++post++spare):=by
          rw [e1]
          have:row=row.take off++((row.drop off).take t.size++row.drop (off+t.size)):=by rw [← List.drop_drop,List.take_append_drop,List.take_append_drop]
          conv=>lhs; rw [this]
          simp
         have hj:(lv ι s.ow++L0)[l1.length]?=some (B,(pre++row.take off)++(row.drop off).take t.size++(row.drop (off+t.size)++post++spare),BT.c T0):=by
          rw [← hsp,u2,hL]
          simp
         refine (ef_store (P:=P) (T:=T) hx rfl n1 (by omega) n3 hm hj (by simp [e2]; omega) (by simp; omega)).mono fun v h' ⟨hv,hm'⟩=>?_
         subst hv
         refine ⟨F,_, .und,_, .refl F,u1,?_,rfl,h0,rfl,rfl,rfl,fun _=>rfl,fun t _=>hsame t,fun t ht _ _ _=>Gh.upd_ne fun e=>ht _ (look_mem hlk) e.symm⟩
         rw [u3]
         rw [u2,hL] at hm'
         rw [e3]
         simpa using hm'
     ·cases h0
    ·cases h0
   ·rename_i i off hl
    rw [hl] at hx
    cases hc:(t.size == 1 && !t.agg) with
    | false=>rw [hc] at h0; cases h0
    | true =>
     rw [hc] at h0
     simp only [cond_true] at h0
     simp only [Bool.and_eq_true,beq_iff_eq] at hc
     haveI:Siz P T 1:=⟨by rw [← hc.1]; exact hk.siz⟩
     exact evNf_sound hr hm hx (g_rd hr y) h0
   ·rename_i z i j off hl
    rw [hl] at hx
    exact evNae_sound hr hm hx (g_rd hr y) h0
   ·cases h0
  ·cases h0
 ·rename_i T n parts
  obtain ⟨u,ob,h1,h2⟩:=evBS_sound (P:=P) (dst:=dst) (ty:=ty) (p:=p) (af:=af) (gd:=gd) hT hr hm hnp (show evEff C s dt (.buildSlice T n parts) K=some r from h0)
  exact .of_ex (h1 ρ fun _ _=>rfl) h2
 ·rename_i T x y
  split at h0
  ·rename_i et _ _ _ _ _ ht
   split at h0
   ·rename_i sh sz ag z by_ e hte
    have hk:=ti_ok hT ht
    have hke:=ti_ok hT hte
    split at h0
    ·rename_i a ha
     split at h0
     ·rename_i b hb
      split at h0
      ·rename_i v hv
       have hv:=zeroE_dec hv
       simp only at h0
       cases hc:(sz == e.sz && Nat.ble by_ 300 && decide (a≤b∧0≤a∧b≤1048576)) with
       | false=>rw [hc] at h0; cases h0
       | true =>
        rw [hc] at h0
        simp only [cond_true] at h0
        simp only [Bool.and_eq_true,beq_iff_eq,Nat.ble_eq,decide_eq_true_eq] at hc
        obtain ⟨⟨rfl,hc2⟩,hc5,hc3,hc4⟩:=hc
        have hx:=g_rd hr x
        have hy:=g_rd hr y
        rw [ha] at hx
        rw [hb] at hy
        have hx:=Rd.int_inv hx
        have hy:=Rd.int_inv hy
        obtain ⟨n,rfl⟩:=Int.eq_ofNat_of_zero_le hc3
        obtain ⟨m,rfl⟩:=Int.eq_ofNat_of_zero_le (show 0≤b by omega)
        obtain ⟨i,hi1,hi2⟩:=hke.inf
        haveI:Und P T (.slice et):=⟨hk.und⟩
        haveI:Siz P et e.sz:=⟨hke.siz⟩
        haveI:Inf P et i:=⟨hi1⟩
        haveI:Zer P et z:=⟨hke.zer⟩
        have hzc:z.cells.size=e.sz:=hke.zc
        have hrd:Rd F (e.enc v) z.cells.toList:=by
         refine dec_rd hv ?_
         have h2:F2 (RdW F ι) (z.cells.toList.map ofVal) z.cells.toList:=ofVals_f2 _
         exact h2.rd (dec_plain hv)
        have hdef:=ex_makeSliceN (P:=P) (d:=dst) (T:=T) (e:=et) (ty':=ty) (p:=p) (af:=af) (g:=gd) (h:=h) (sz_pos e) hzc hx hy (by simp only at hi2; omega) (by omega) (by omega)
        refine .of_ex hdef ?_
        have hrep:∀ n:Nat,F2 (fun x r=>Rd F (e.enc x) r) (List.replicate n v) (List.replicate n z.cells.toList):=fun n=>by
         induction n with
         | zero=>exact .nil
         | succ n ih=>exact .cons hrd ih
        have hrow:∀ n:Nat,∀ r∈List.replicate n z.cells.toList,r.length=e.sz:=fun n r hr=>by rw [(List.mem_replicate.1 hr).2]; simpa using hzc
        refine post_make (b := .rows e et (List.replicate n v)) (x:=(.slice (some ⟨h.size,0,none⟩) n m,[(h.size,(List.replicate m z.cells.toList).flatten,BT.c et)])) hnp rfl rfl rfl hr ((hm.purge (t:=dt)).push _ et) ⟨some ⟨h.size,0,none⟩,n,m,List.replicate n z.cells.toList,by rw [Gh.upd_same],?_,hrep n⟩ (.of_w (by show _=_; rw [Gh.upd_same])) h0
        rw [Gh.upd_same]
        have hl1:=flat_len (hrow n)
        have hl2:=flat_len (hrow (m - n))
        simp only [List.length_replicate] at hl1 hl2
        have hsp:(List.replicate m z.cells.toList).flatten=(List.replicate n z.cells.toList).flatten++(List.replicate (m - n) z.cells.toList).flatten:=by
         rw [← List.flatten_append,List.replicate_append_replicate,show n+(m - n)=m by omega]
        exact ⟨.inr ⟨h.size,n,m,(List.replicate (m - n) z.cells.toList).flatten,rfl,by rw [hsp],by rw [hl1],by rw [hl1,hl2,Nat.sub_mul]; have:=Nat.mul_le_mul_right e.sz (show n≤m by omega); omega,by omega⟩,by simp,hrow n⟩
      ·cases h0
     ·cases h0
    ·cases h0
   ·cases h0
  ·cases h0
 ·rename_i c
  obtain ⟨callee,args,tys⟩:=c
  split at h0
  ·rename_i hca
   simp only at hca
   subst hca
   split at h0
   ·rename_i x y hxy
    split at h0
    ·rename_i S X hSX
     have ea:args=#[x,y]:=Array.ext' hxy
     have et0:tys=#[S,X]:=Array.ext' hSX
     subst ea
     subst et0
     split at h0
     ·rename_i hX
      exact evAppendS_sound hT ⟨_,_,_,_,_,hX⟩ hr hm hnp h0
     exact evAppend_sound hT hr hm hr hm hnp h0
    ·cases h0
   ·cases h0
  ·rename_i hca
   simp only at hca
   subst hca
   split at h0
   ·rename_i x y hxy
    split at h0
    ·rename_i S tl hSX
     have ea:args=#[x,y]:=Array.ext' hxy
     have et0:tys=(S::tl).toArray:=Array.ext' (by simpa using hSX)
     subst ea
     subst et0
     exact evCopy_sound hT hr hm h0
    ·cases h0
   ·cases h0
  ·cases h0
 ·rename_i S T x
  exact evConv_sound hT hr hm hnp h0
 ·rename_i T x
  exact evRange_sound hT hr hm hnp h0
 ·rename_i x
  exact evNext_sound (C:=C) hr hm h0
 ·rename_i T q
  exact evMakeMap_sound hT hr hm hnp h0
 ·rename_i T x y z
  exact evMapUpdate_sound hT hr hm h0
 ·cases h0
end
end Go.Proofs.YtkmigbicabfodaaGreat.V
