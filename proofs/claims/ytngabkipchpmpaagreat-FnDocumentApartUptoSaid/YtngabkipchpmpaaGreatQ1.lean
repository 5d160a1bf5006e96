/-
  Plain facts and an evaluator for what a law needs.
-/
import Derived.Deep.Quiet
import Derived.Tactics
import Derived.KernelRfl
import Derived.WalkKit
import Derived.Scope
import Derived.ProofKit
import Derived.OrdersHeld
import Derived.ChangeArms
import Derived.Laws.StructEq
import Derived.WideShapes
import Derived.LaidEql
set_option linter.unusedVariables false
set_option linter.unusedSimpArgs false
namespace Go.Proofs.YtngabkipchpmpaaGreat.K
open Go
structure Env where
 os:Os
 out:Array (Nat×ByteArray)
 tape:Nat->Question->Nat
def At (E:Env)(h:Array Obj)(w:World):Prop:=w.heap=h/\w.os=E.os/\w.output=E.out/\w.tape=E.tape
def act (ρ:List Value):Act:={ tmps:=ρ.toArray,defers:=[] }
def ev (ρ:List Value):Operand->Value
 | .tmp t=>ρ.getD t undef
 | .const v=>v
 | .global g => .pointer (some ⟨g,0,none⟩)
 | .func f => .func (.func f) #[] #[]
theorem ry (ρ:List Value):(act ρ).eval=ev ρ:=by funext x;cases x <;> simp [Act.eval,ev,act]
def base (f:FuncId):Frame:={ (default:Frame) with fn:=f,kind := .normal }
structure TW (P:Program)(f:FuncId)(E:Env)(R:Value->Array Obj->Prop)(k:List Item)(ρ:List Value)(h:Array Obj):Prop where
 out:∀ w,At E h w->∀ cs,∃ v w' fr,(∃ h',At E h' w'/\R v h')/\Steps P (lone ((base f).at (act ρ) k) cs w) (lone fr cs w')/\fr.fn=f/\fr.leaving P w' (.returned v)
structure IL (P:Program)(f:FuncId)(args:List Value)(h:Array Obj)(R:Value->Array Obj->Prop):Prop where
 out:∀ E w,At E h w->Calls P f args.toArray w λe w'=>∃ v,e = .returned v/\∃ h',At E h' w'/\R v h'
section
variable {P:Program}{f:FuncId}{E:Env}{R:Value->Array Obj->Prop}{k k':List Item}{ρ dz:List Value}{h h':Array Obj}
theorem TW.step (hs:∀ cs w,At E h w->step P (lone ((base f).at (act ρ) k) cs w) = .next (lone ((base f).at (act ρ) k') cs w))(ht:TW P f E R k' ρ h):TW P f E R k ρ h:=by refine⟨λw hw cs=>?_⟩;obtain⟨v,w',fr,hR,J4,hf,hl⟩:=ht.out w hw cs;exact⟨v,w',fr,hR, .head (hs cs w hw) J4,hf,hl⟩
theorem TW.of_wp {c:Code}(hw:∀ w,At E h w->c.wp P (λe a w'=>e = .normal/\∃ dz h',a=act dz/\At E h' w'/\TW P f E R k dz h') (act ρ) w):TW P f E R (.code c::k) ρ h:=by refine⟨λw hA cs=>?_⟩;obtain⟨e,a',w',⟨rfl,dz,h',rfl,xT,hT⟩,ZF⟩:=hw w hA (base f) k cs;obtain⟨v,w2,fr,hR,J4,hf,hl⟩:=hT.out w' xT cs;exact⟨v,w2,fr,hR,Steps.trans ZF J4,hf,hl⟩
theorem QX (ht:TW P f E R k ρ h):TW P f E R (.code .skip::k) ρ h:=ht.step λ_ _ _=>step_skip
theorem IM {id:Nat}(ht:TW P f E R k ρ h):TW P f E R (.inBlock id::k) ρ h:=ht.step λ_ _ _=>step_inBlock
theorem T4 {a b:Code}(ht:TW P f E R (.code a :: .code b::k) ρ h):TW P f E R (.code (.seq a b)::k) ρ h:=ht.step λ_ _ _=>step_seq
theorem NJ {id:Nat}{c:Code}(ht:TW P f E R (.code c :: .inBlock id::k) ρ h):TW P f E R (.code (.block id c)::k) ρ h:=ht.step λ_ _ _=>step_block
theorem NK {c:Code}(ht:TW P f E R (.code c :: .inScope c::k) ρ h):TW P f E R (.code (.scope c)::k) ρ h:=ht.step λ_ _ _=>step_scope
theorem IN {c:Code}(ht:TW P f E R k ρ h):TW P f E R (.inScope c::k) ρ h:=ht.step λ_ _ _=>step_inScope
theorem QY {l:Nat}(he:gotoIn l k=some k')(ht:TW P f E R k' ρ h):TW P f E R (.code (.goto l)::k) ρ h:=ht.step λ_ _ _=>step_goto he
theorem NL {l:Nat}(ht:TW P f E R k ρ h):TW P f E R (.code (.label l)::k) ρ h:=ht.step λ_ _ _=>step_label
theorem QZ {id:Nat}(he:exitTo id k=some k')(ht:TW P f E R k' ρ h):TW P f E R (.code (.exit id)::k) ρ h:=ht.step λ_ _ _=>step_exit he
theorem NM {c:Code}(ht:TW P f E R (.code c :: .inLoop c::k) ρ h):TW P f E R (.code (.loop c)::k) ρ h:=ht.step λ_ _ _=>step_loop
theorem LF {c:Code}(ht:TW P f E R (.code c :: .inLoop c::k) ρ h):TW P f E R (.inLoop c::k) ρ h:=ht.step λ_ _ _=>step_inLoop
theorem J5 {x:Operand}{a b:Code}{t:Bool}(hx:ev ρ x = .bool t)(ht:TW P f E R (.code (if t then a else b)::k) ρ h):TW P f E R (.code (.cond x a b)::k) ρ h :=
 ht.step λ_ _ _=>step_cond (by rw [ry];exact hx)
theorem Du {x:Operand}{a b:Code}(hx:ev ρ x = .bool true)(ht:TW P f E R (.code a::k) ρ h):TW P f E R (.code (.cond x a b)::k) ρ h:=J5 hx ht
theorem Dv {x:Operand}{a b:Code}(hx:ev ρ x = .bool false)(ht:TW P f E R (.code b::k) ρ h):TW P f E R (.code (.cond x a b)::k) ρ h:=J5 hx ht
theorem IP {fn:Func}{v:Value}(hf:P.funcs[f]?=some fn)(hr:∀ w,At E h w->(results fn ρ.toArray).run P w = .ok v w)(hR:R v h):TW P f E R (.code .ret::k) ρ h:=by refine⟨λw hw cs=>?_⟩;exact⟨v,w,{ (base f).at (act ρ) (.code .ret::k) with mode := .returning },⟨h,hw,hR⟩, .one step_ret,rfl,rfl,rfl,rfl,fn,hf,hr w hw⟩
theorem IQ {fn:Func}{v:Value}(hf:P.funcs[f]?=some fn)(hr:∀ w,At E h w->(results fn ρ.toArray).run P w = .ok v w)(hR:R v h):TW P f E R [] ρ h:=by refine⟨λw hw cs=>?_⟩;exact⟨v,w,{ (base f).at (act ρ) [] with mode := .returning },⟨h,hw,hR⟩, .one step_end,rfl,rfl,rfl,rfl,fn,hf,hr w hw⟩
theorem LG {fn:Func}{c:Code}{args:List Value}(hf:P.funcs[f]?=some fn)(hb:fn.body=some c)(ZG:args++List.replicate (fn.ntmps - args.length) undef=ρ)
  (ht:∀ E,TW P f E R [.code c] ρ h):IL P f args h R:=by
 refine⟨λE w hw cs=>?_⟩;obtain⟨v,w',fr,hR,J4,T5,hl⟩:=(ht E).out w hw cs;have T6:Frame.enter P f args.toArray .normal=(base f).at (act ρ) [.code c]:=by simp [Frame.enter,Frame.at,hf,hb,base,act,<- ZG]
 refine⟨.returned v,w',fr,⟨v,rfl,hR⟩,?_,T5,hl⟩;rw [T6];exact J4
theorem IL.mono {args:List Value}{R R':Value->Array Obj->Prop}(hr:IL P f args h R)(hm:∀ v h',R v h'->R' v h'):IL P f args h R' :=
 ⟨λE w hw=>(hr.out E w hw).mono λ_ _ ⟨v,he,h',hA,hR⟩=>⟨v,he,h',hA,hm _ _ hR⟩⟩
end
structure LW (P:Program)(E:Env)(ops:List Oper)(K:List Value->Array Obj->Prop)(l:List Oper)(ρ:List Value)(h:Array Obj):Prop where
 out:∀ w,At E h w->wpList P ops.toArray (λe a w'=>e = .normal/\∃ dz h',a=act dz/\At E h' w'/\K dz h') l (act ρ) w
def o7 (ρ:List Value)(d:Option Tmp)(v:Value):List Value :=
 match d with
 | some t=>ρ.set t v
 | none=>ρ
theorem pI (ρ:List Value)(d:Option Tmp)(v:Value):(act ρ).put d v=act (o7 ρ d v):=by cases d <;> simp [Act.put,act,o7]
section
variable {P:Program}{f:FuncId}{E:Env}{R:Value->Array Obj->Prop}{k:List Item}{ρ dz:List Value}{h h':Array Obj}{ops:List Oper}{K:List Value->Array Obj->Prop}{o:Oper}{rest:List Oper}{v:Value}
theorem LH {id:Nat}(hl:∀ K:List Value->Array Obj->Prop,(∀ ρ h,TW P f E R k ρ h->K ρ h)->LW P E ops K ops ρ h):TW P f E R (.code (.region id ops.toArray false)::k) ρ h :=
 TW.of_wp λw hw=>wp_region_lit ((hl _ (λ_ _ h=>h)).out w hw)
theorem yU (hk:K ρ h):LW P E ops K [] ρ h:=⟨λ_ hw=>wpList_nil ⟨rfl,ρ,h,rfl,hw,hk⟩⟩
structure Ex (P:Program)(ρ:List Value)(o:Oper)(h:Array Obj)(v:Value)(h':Array Obj):Prop where
 out:∀ E w,At E h w->∃ n w',(execOp (ev ρ) o).run P w = .ok n w'/\At E h' w'/\(n = .value v∨(n = .skip/\v=undef))
theorem LI (hg:Region.wanted o (yielded ops.toArray (act ρ).tmps)=true)(hx:Ex P ρ o h v h')(hs:o7 ρ o.dst v=dz)(hk:LW P E ops K rest dz h'):LW P E ops K (o::rest) ρ h:=by
 refine⟨λw hw=>?_⟩;unfold wpList;rw [if_pos hg];refine .inl ?_;obtain⟨n,w',hr,hA,hn⟩:=hx.out E w hw;unfold Oper.wp;rw [ry,hr];rcases hn with rfl | ⟨rfl,rfl⟩
 ·rw [Oper.upon_value,pI,hs];exact hk.out w' hA
 ·rw [Oper.upon_skip,pI,hs];exact hk.out w' hA
theorem A5 (hg:Region.wanted o (yielded ops.toArray (act ρ).tmps)=false)(hs:o7 ρ o.dst undef=dz)(hk:LW P E ops K rest dz h):LW P E ops K (o::rest) ρ h:=by refine⟨λw hw=>?_⟩;unfold wpList;rw [if_neg (by rw [hg];exact Bool.false_ne_true),pI,hs];exact hk.out w hw
theorem A6 {g:FuncId}{args:List Value}{S:Value->Array Obj->Prop}(hg:Region.wanted o (yielded ops.toArray (act ρ).tmps)=true)(hx:∀ w,At E h w->(execOp (ev ρ) o).run P w = .ok (.enter g args.toArray) w)
  (hc:IL P g args h S) (hk:∀ v h',S v h'->LW P E ops K rest (o7 ρ o.dst v) h'):LW P E ops K (o::rest) ρ h:=by
 refine⟨λw hw=>?_⟩;unfold wpList;rw [if_pos hg];refine .inl ?_;unfold Oper.wp;rw [ry,hx w hw,Oper.upon_enter];refine (hc.out E w hw).mono λe w' ⟨v,he,h',hA,hS⟩=>?_
 subst he;show wpList _ _ _ _ _ _;rw [pI];exact (hk v h' hS).out w' hA
end
structure IB (ops:List Oper)(ρ:List Value)(o:Oper):Prop where
 out:Region.wanted o (yielded ops.toArray (act ρ).tmps)=true
section
variable {P:Program}{f:FuncId}{E:Env}{R:Value->Array Obj->Prop}{k:List Item}{ρ dz ZH:List Value}{h h':Array Obj}{ops:List Oper}{K:List Value->Array Obj->Prop}{o:Oper}{rest:List Oper}{v:Value}{j t:Nat}{b:Bool}
theorem Bp (hg:o.guard=none):IB ops ρ o:=⟨by simp [Region.wanted,hg]⟩
theorem qE (hd:(ops[j]?).bind (·.dst)=some t)(hv:ev ρ (.tmp t) = .bool b):yielded ops.toArray (act ρ).tmps j=some b:=by
 simp only [ev,List.getD_eq_getElem?_getD] at hv;cases ht:ρ[t]? with
 | none=>rw [ht] at hv;simp [undef] at hv
 | some u =>
  rw [ht] at hv;simp only [Option.getD_some] at hv;subst hv;simp [yielded,hd,act,ht]
theorem rP (hd:(ops[j]?).bind (·.dst)=some t)(hv:ev ρ (.tmp t)=undef):yielded ops.toArray (act ρ).tmps j=none:=by
 simp only [ev,List.getD_eq_getElem?_getD] at hv;cases ht:ρ[t]? with
 | none=>simp [yielded,hd,act,ht]
 | some u =>
  rw [ht] at hv;simp only [Option.getD_some] at hv;subst hv;simp [yielded,hd,act,ht,undef]
theorem sg (hg:o.guard=some (j,b))(hd:(ops[j]?).bind (·.dst)=some t)(hv:ev ρ (.tmp t) = .bool b):IB ops ρ o:=⟨by simp [Region.wanted,hg,qE hd hv]⟩
theorem Dw (hg:o.guard=some (j,b))(hd:(ops[j]?).bind (·.dst)=some t)(hv:ev ρ (.tmp t) = .bool (!b))(hs:o7 ρ o.dst undef=dz)(hk:LW P E ops K rest dz h):LW P E ops K (o::rest) ρ h :=
 A5 (by cases b <;> simp [Region.wanted,hg,qE hd hv]) hs hk
theorem LJ (hg:o.guard=some (j,b))(hd:(ops[j]?).bind (·.dst)=some t)(hv:ev ρ (.tmp t)=undef)(hs:o7 ρ o.dst undef=dz)(hk:LW P E ops K rest dz h):LW P E ops K (o::rest) ρ h :=
 A5 (by simp [Region.wanted,hg,rP hd hv]) hs hk
theorem Bq {q:Bool}(hv:ev ρ (.tmp t) = .bool q):ρ.set t (.bool q)=ρ:=by
 simp only [ev,List.getD_eq_getElem?_getD] at hv;cases ht:ρ[t]? with
 | none=>rw [ht] at hv;simp [undef] at hv
 | some u =>
  rw [ht] at hv;simp only [Option.getD_some] at hv;subst hv;obtain⟨jC,he⟩:=List.getElem?_eq_some_iff.1 ht;rw [<- he];exact List.set_getElem_self jC
end
section
variable {P:Program}{f:FuncId}{E:Env}{R:Value->Array Obj->Prop}{k:List Item}{ρ dz ZH:List Value}{h:Array Obj}{t:Nat}
end
class T7 (P:Program) (g:FuncId):Prop where
 out:∀ (args:Array Value) (w:World),(callFunc g args).run P w = .ok (.enter g args) w
section
variable {P:Program}{E:Env}{ρ dz:List Value}{h h':Array Obj}{ops:List Oper}{K:List Value->Array Obj->Prop}{rest:List Oper}{v:Value}{g:FuncId}{xs:List Operand}{ta:Array TypeId}{d:Option Tmp}{ty:TypeId}{p:String}{af:Array Edge}{gd:Option (Nat×Bool)}
theorem J6 [T7 P g](w:World):(execOp (ev ρ) ⟨d, .call ⟨.value (.func g),xs.toArray,ta⟩,ty,p,af,gd⟩).run P w = .ok (.enter g (xs.map (ev ρ)).toArray) w:=by simp [execOp,resolve,ev,Deferred.ofValue,invoke,T7.out]
theorem NN [T7 P g]{S:Value->Array Obj->Prop}(hw:IB ops ρ ⟨d, .call ⟨.value (.func g),xs.toArray,ta⟩,ty,p,af,gd⟩)(hc:IL P g (xs.map (ev ρ)) h S)
  (hk:∀ v h',S v h'->LW P E ops K rest (o7 ρ d v) h'):LW P E ops K (⟨d, .call ⟨.value (.func g),xs.toArray,ta⟩,ty,p,af,gd⟩::rest) ρ h :=
 A6 hw.out (λw _=>J6 w) hc hk
end
class gD (P:Program) (t:TypeId) (D:outParam TypeDesc):Prop where
 out:P.underlying t=some D
class se (P:Program) (t:TypeId) (n:outParam Nat):Prop where
 out:∀ w,(sizeOf t).run P w = .ok n w
class IS (P:Program) (t:TypeId) (z:outParam Value):Prop where
 out:∀ w,(zeroValue t).run P w = .ok z w
class V_ (P:Program) (t:TypeId) (b:outParam Bool):Prop where
 out:∀ w,(isAgg t).run P w = .ok b w
class Gm (P:Program) (t:TypeId) (i:outParam TypeInfo):Prop where
 out:∀ w,(typeInfo t).run P w = .ok i w
class Fld (P:Program) (t:TypeId) (i:Nat) (ft:outParam TypeId) (fo:outParam Nat):Prop where
 out:∃ fs f,P.underlying t=some (.struct fs)/\fs[i]?=some f/\f.type=ft/\f.offset=fo
theorem fA {P:Program}(t:TypeId){D:TypeDesc}[i:gD P t D](w:World):(underlying t).run P w = .ok D w:=run_underlying i.out w
theorem sM {P:Program}(t:TypeId){D:Nat}[i:se P t D](w:World):(sizeOf t).run P w = .ok D w:=i.out w
theorem J7 {P:Program}(t:TypeId){D:Value}[i:IS P t D](w:World):(zeroValue t).run P w = .ok D w:=i.out w
theorem agg {P:Program}(t:TypeId){D:Bool}[i:V_ P t D](w:World):(isAgg t).run P w = .ok D w:=i.out w
theorem inf {P:Program}(t:TypeId){D:TypeInfo}[i:Gm P t D](w:World):(typeInfo t).run P w = .ok D w:=i.out w
abbrev bs (l:List UInt8):Value := .string ⟨l.toArray⟩
structure Pu (P:Program)(ρ:List Value)(o:Oper)(h:Array Obj)(v:Value):Prop where
 out:∀ w,w.heap=h->(execOp (ev ρ) o).run P w = .ok (.value v) w
theorem Pu.ex {P:Program}{ρ:List Value}{o:Oper}{h:Array Obj}{v:Value}(hp:Pu P ρ o h v):Ex P ρ o h v h :=
 ⟨λ_ w hw=>⟨_,w,hp.out w hw.1,hw, .inl rfl⟩⟩
def cell (h:Array Obj)(a:Addr):Option Value :=
 match h[a.block]? with
 | some (.cells c _ _)=>if a.spot.isSome then none else c[a.off]?
 | _=>none
theorem J8 (w:World)(a:Addr):w.cell? a=cell w.heap a:=rfl
section
variable {P:Program}{E:Env}{ops:List Oper}{K:List Value->Array Obj->Prop}{rest:List Oper}{ρ dz:List Value}{o:Oper}{h h':Array Obj}{v:Value}{d:Option Tmp}{T ty U:TypeId}{p:String}{af:Array Edge}{g:Option (Nat×Bool)}{x y c:Operand}
theorem NO (hg:IB ops ρ o)(hx:Pu P ρ o h v)(hs:o7 ρ o.dst v=dz)(hk:LW P E ops K rest dz h):LW P E ops K (o::rest) ρ h:=LI hg.out hx.ex hs hk
theorem Q0 (hx:ev ρ x=v):Pu P ρ ⟨d, .move x,ty,p,af,g⟩ h v:=⟨λw _=>by simp [execOp,hx]⟩
theorem LK (hx:ev ρ x=v):Pu P ρ ⟨d, .assign x,ty,p,af,g⟩ h v:=⟨λw _=>by simp [execOp,hx]⟩
theorem LL (hc:ev ρ c = .bool true)(hx:ev ρ x=v):Pu P ρ ⟨d, .pick c x y,ty,p,af,g⟩ h v:=⟨λw _=>by simp [execOp,hc,hx,asBool]⟩
theorem LM (hc:ev ρ c = .bool false)(hy:ev ρ y=v):Pu P ρ ⟨d, .pick c x y,ty,p,af,g⟩ h v:=⟨λw _=>by simp [execOp,hc,hy,asBool]⟩
variable {k:IntKind}{a b:Int}
theorem vm {α:Type}[BEq α][LawfulBEq α][DecidableEq α](a b:α):(a == b)=decide (a=b):=by by_cases h:a=b <;> simp [h]
theorem iR (op:BinOp)(v2:Value)(w:World):(eqGuard op T x y (.int k a) v2).run P w = .ok () w:=by
 unfold eqGuard
 split <;> simp
theorem Br (op:BinOp)(t:Bool)(v2:Value)(w:World):(eqGuard op T x y (.bool t) v2).run P w = .ok () w:=by
 unfold eqGuard
 split <;> simp
theorem yV (op:BinOp)(s:ByteArray)(v2:Value)(w:World):(eqGuard op T x y (.string s) v2).run P w = .ok () w:=by
 unfold eqGuard
 split <;> simp
theorem m8 (op:BinOp)(q:Option Addr)(v2:Value)(w:World):(eqGuard op T x y (.pointer q) v2).run P w = .ok () w:=by
 unfold eqGuard
 split <;> simp
theorem T8 (hx:ev ρ x = .int k a)(hy:ev ρ y = .int k b):Pu P ρ ⟨d, .binOp .add T x y U,ty,p,af,g⟩ h (.int k (k.wrap (a+b))):=⟨λw _=>by simp [execOp,iR,hx,hy,binOp,Op.intArith]⟩
theorem T_ (hx:ev ρ x = .int k a)(hy:ev ρ y = .int k b):Pu P ρ ⟨d, .binOp .sub T x y U,ty,p,af,g⟩ h (.int k (k.wrap (a - b))):=⟨λw _=>by simp [execOp,iR,hx,hy,binOp,Op.intArith]⟩
theorem Ua (hx:ev ρ x = .int k a)(hy:ev ρ y = .int k b):Pu P ρ ⟨d, .binOp .mul T x y U,ty,p,af,g⟩ h (.int k (k.wrap (a*b))):=⟨λw _=>by simp [execOp,iR,hx,hy,binOp,Op.intArith]⟩
theorem Q1 (a:Int)(h1 : -9223372036854775808<=a)(h2:a<=9223372036854775807):IntKind.wrap .i64 a=a:=by simp only [IntKind.wrap,IntKind.signed,IntKind.bits];simp;omega
theorem Ub (hx:ev ρ x = .int k a)(hy:ev ρ y = .int k b):Pu P ρ ⟨d, .binOp .eql T x y U,ty,p,af,g⟩ h (.bool (decide (a=b))):=⟨λw _=>by simp [execOp,iR,hx,hy,binOp,Op.intCmp,vm]⟩
theorem Uc (hx:ev ρ x = .int k a)(hy:ev ρ y = .int k b):Pu P ρ ⟨d, .binOp .neq T x y U,ty,p,af,g⟩ h (.bool (decide (a≠b))):=⟨λw _=>by simp only [execOp,Sem.run_bind,iR,hx,hy,binOp,Op.intCmp,Result.andThen_ok];simp [bne,vm]⟩
theorem Ue (hx:ev ρ x = .int k a)(hy:ev ρ y = .int k b):Pu P ρ ⟨d, .binOp .lss T x y U,ty,p,af,g⟩ h (.bool (decide (a<b))):=⟨λw _=>by simp [execOp,iR,hx,hy,binOp,Op.intCmp]⟩
theorem Uf (hx:ev ρ x = .int k a)(hy:ev ρ y = .int k b):Pu P ρ ⟨d, .binOp .leq T x y U,ty,p,af,g⟩ h (.bool (decide (a<=b))):=⟨λw _=>by simp [execOp,iR,hx,hy,binOp,Op.intCmp]⟩
theorem Ug (hx:ev ρ x = .int k a)(hy:ev ρ y = .int k b):Pu P ρ ⟨d, .binOp .gtr T x y U,ty,p,af,g⟩ h (.bool (decide (b<a))):=⟨λw _=>by simp [execOp,iR,hx,hy,binOp,Op.intCmp]⟩
theorem Uh (hx:ev ρ x = .int k a)(hy:ev ρ y = .int k b):Pu P ρ ⟨d, .binOp .geq T x y U,ty,p,af,g⟩ h (.bool (decide (b<=a))):=⟨λw _=>by simp [execOp,iR,hx,hy,binOp,Op.intCmp]⟩
theorem Ui (hx:ev ρ x = .int k a)(hy:ev ρ y = .int k b):Pu P ρ ⟨d, .binOp .and T x y U,ty,p,af,g⟩ h (.int k (k.wrap (((a % 2 ^ k.bits).toNat &&& (b % 2 ^ k.bits).toNat:Nat):Int))):=⟨λw _=>by simp [execOp,iR,hx,hy,binOp,Op.intBits]⟩
theorem WE (hx:ev ρ x = .int k a)(hy:ev ρ y = .int k b):Pu P ρ ⟨d, .binOp .or T x y U,ty,p,af,g⟩ h (.int k (k.wrap (((a % 2 ^ k.bits).toNat ||| (b % 2 ^ k.bits).toNat:Nat):Int))):=⟨λw _=>by simp [execOp,iR,hx,hy,binOp,Op.intBits]⟩
theorem Uj {t:Bool}(hx:ev ρ x = .bool t):Pu P ρ ⟨d, .unOp .not T x,ty,p,af,g⟩ h (.bool (!t)):=⟨λw _=>by simp [execOp,hx,Op.unary]⟩
theorem zP [i:gD P T .bool](s t:Bool)(w:World):(Op.equal T (.bool s) (.bool t)).run P w = .ok (s == t) w:=by unfold Op.equal Op.maxDepth;exact run_equalIn_bool' w 9999 T s t i.out
theorem Ul {s t:Bool}[gD P T .bool](hx:ev ρ x = .bool s)(hy:ev ρ y = .bool t):Pu P ρ ⟨d, .binOp .eql T x y U,ty,p,af,g⟩ h (.bool (decide (s=t))):=⟨λw _=>by simp [execOp,Br,hx,hy,binOp,zP,vm]⟩
theorem Q2 {s t:Bool}[gD P T .bool](hx:ev ρ x = .bool s)(hy:ev ρ y = .bool t):Pu P ρ ⟨d, .binOp .neq T x y U,ty,p,af,g⟩ h (.bool (decide (s≠t))):=⟨λw _=>by simp [execOp,Br,hx,hy,binOp,zP,vm]⟩
variable {l m:List UInt8}
theorem Um (hx:ev ρ x=bs l)(hy:ev ρ y=bs m):Pu P ρ ⟨d, .binOp .eql T x y U,ty,p,af,g⟩ h (.bool (decide (l=m))):=⟨λw _=>by simp [execOp,yV,hx,hy,binOp_string_eql,vm]⟩
theorem Q3 (hx:ev ρ x=bs l)(hy:ev ρ y=bs m):Pu P ρ ⟨d, .binOp .neq T x y U,ty,p,af,g⟩ h (.bool (decide (l≠m))):=⟨λw _=>by simp [execOp,yV,hx,hy,binOp_string_neq,vm]⟩
theorem pZ (l:List UInt8):(ByteArray.mk l.toArray).size=l.length:=by simp [ByteArray.size]
theorem LN (l m:List UInt8):ByteArray.mk l.toArray++ByteArray.mk m.toArray=ByteArray.mk (l++m).toArray:=by apply ByteArray.ext;simp
theorem Q4 (hx:ev ρ x=bs l)(hy:ev ρ y=bs m)(hl:l.length+m.length<=9223372036854775807):Pu P ρ ⟨d, .binOp .add T x y U,ty,p,af,g⟩ h (bs (l++m)):=⟨λw _=>by
 simp only [execOp,Sem.run_bind,yV,hx,hy,binOp,Op.stringOp,pZ,LN,Result.andThen_ok]
 have:¬ (IntKind.max .i64<((l.length+m.length:Nat):Int)):=by simp [IntKind.max,IntKind.signed,IntKind.bits];omega
 simp only [gt_iff_lt,this,if_false]
 simp⟩
theorem NP {n:Nat}[gD P T .string](hx:ev ρ x=bs l)(hy:ev ρ y = .int k (n:Int))(hn:n<l.length):Pu P ρ ⟨d, .index T x y,ty,p,af,g⟩ h (.int .u8 (((l.getD n 0).toNat:Nat):Int)):=⟨λw _=>by
 have e:(ByteArray.mk l.toArray)[n]?=some (l.getD n 0):=by rw [getElem?_pos (ByteArray.mk l.toArray) n (by rw [pZ];exact hn)];simp [ByteArray.getElem_eq_getElem_data,hn]
 simp [execOp,hx,hy,Instr.index,asIntOf,fA T w,e]⟩
theorem Q5 [gD P T .string]{ta:Array TypeId}{Un:TypeId}(hx:ev ρ x=bs l)(hT:ta=#[T]):Pu P ρ ⟨d, .call ⟨.builtin .len,#[x],ta⟩,Un,p,af,g⟩ h (.int .i64 (l.length:Int)):=⟨λw _=>by subst hT;simp [execOp,resolve,hx,invoke,builtin,Builtin.len_,fA T w,goInt,pZ]⟩
theorem uf {e:TypeId}{q:Option Addr}{n cp:Nat}[gD P T (.slice e)]{ta:Array TypeId}{Un:TypeId}(hx:ev ρ x = .slice q n cp)(hT:ta=#[T]):Pu P ρ ⟨d, .call ⟨.builtin .len,#[x],ta⟩,Un,p,af,g⟩ h (.int .i64 (n:Int)):=⟨λw _=>by subst hT;simp [execOp,resolve,hx,invoke,builtin,Builtin.len_,fA T w,goInt]⟩
theorem Uo {ta:Array TypeId}{Un:TypeId}(hx:ev ρ x = .int k a)(hy:ev ρ y = .int k b):Pu P ρ ⟨d, .call ⟨.builtin .min,#[x,y],ta⟩,Un,p,af,g⟩ h (.int k (if b<a then b else a)):=⟨λw _=>by simp [execOp,resolve,hx,hy,invoke,builtin,Builtin.min_,Builtin.min2]⟩
theorem Up {ta:Array TypeId}{Un:TypeId}(hx:ev ρ x = .int k a)(hy:ev ρ y = .int k b):Pu P ρ ⟨d, .call ⟨.builtin .max,#[x,y],ta⟩,Un,p,af,g⟩ h (.int k (if a<b then b else a)):=⟨λw _=>by simp [execOp,resolve,hx,hy,invoke,builtin,Builtin.max_,Builtin.max2]⟩
theorem IT {vs:Array Value}{i:Nat}(hx:ev ρ x = .tuple vs)(hi:vs[i]?=some v):Pu P ρ ⟨d, .extract x i,ty,p,af,g⟩ h v:=⟨λw _=>by simp [execOp,hx,Instr.extract,hi]⟩
variable {B off:Nat}
theorem pJ (B off n:Nat):(⟨B,off,none⟩:Addr).add n=⟨B,off+n,none⟩:=by
 unfold Addr.add
 by_cases hn:n=0 <;> simp [hn]
theorem jN {q:Addr}(hx:ev ρ x = .pointer (some q)):Pu P ρ ⟨d, .nilCheck x,ty,p,af,g⟩ h (.pointer (some q)):=⟨λw _=>by simp [execOp,hx]⟩
theorem sN {e:TypeId}{n len cp sz:Nat}[gD P T (.slice e)][se P e sz](hx:ev ρ x = .slice (some ⟨B,off,none⟩) len cp)(hy:ev ρ y = .int k (n:Int))(hn:n<len):Pu P ρ ⟨d, .indexAddr T x y,ty,p,af,g⟩ h (.pointer (some ⟨B,off+n*sz,none⟩)):=⟨λw _=>by simp [execOp,hx,hy,Instr.indexAt,asIntOf,fA T w,sM e w,hn,pJ]⟩
theorem lZ {i sz ft fo:Nat}[F:Fld P T i ft fo](hx:ev ρ x = .pointer (some ⟨B,off,none⟩))(hz:∀ w,(sizeOf ft).run P w = .ok (sz+1) w):Pu P ρ ⟨d, .fieldAddr T x i,ty,p,af,g⟩ h (.pointer (some ⟨B,off+fo,none⟩)):=⟨λw _=>by obtain⟨fs,f,hu,hf,rfl,rfl⟩:=F.out;simp [execOp,hx,Instr.fieldAt,run_underlying hu,hf,Instr.sureAddr,fieldPlace,hz,pJ]⟩
theorem J9 [V_ P T false]{q:Addr}(hx:ev ρ x = .pointer (some q))(hc:cell h q=some v):Pu P ρ ⟨d, .load T x,ty,p,af,g⟩ h v:=⟨λw hw=>by subst hw;simp [execOp,hx,Instr.loadAt,Instr.sureAddr,loadVar,agg T w,J8,hc]⟩
def bm (h:Array Obj)(B:Nat):Nat->List Value->Prop
 | _,[]=>True
 | off,c::cs=>cell h ⟨B,off,none⟩=some c/\bm h B (off+1) cs
theorem run_loadCellsFrom (w:World)(B off:Nat):∀ (cs:List Value) (i:Nat) (acc:Array Value),bm w.heap B (off+i) cs->(loadCellsFrom ⟨B,off,none⟩ i cs.length acc).run P w = .ok (acc++cs.toArray) w
 | [],i,acc,_=>by simp [loadCellsFrom]
 | c::cs,i,acc,hc=>by simp only [List.length_cons,loadCellsFrom,Sem.run_bind,pJ,run_load,J8,hc.1,Result.andThen_ok];rw [run_loadCellsFrom w B off cs (i+1) (acc.push c) hc.2];simp
theorem IU [V_ P T true]{n:Nat}{cs:List Value}[se P T n](hx:ev ρ x = .pointer (some ⟨B,off,none⟩))(hn:cs.length=n)(hc:bm h B off cs):Pu P ρ ⟨d, .load T x,ty,p,af,g⟩ h (.agg cs.toArray):=⟨λw hw=>by
 subst hw;subst hn
 have:=run_loadCellsFrom (P:=P) w B off cs 0 #[] (by simpa using hc)
 simp [execOp,hx,Instr.loadAt,Instr.sureAddr,loadVar,agg T w,sM T w,loadCells,this]⟩
end
section
variable {P:Program}{E:Env}{ops:List Oper}{K:List Value->Array Obj->Prop}{rest:List Oper}{ρ dz:List Value}{o:Oper}{h h':Array Obj}{v:Value}{d:Option Tmp}{T ty U:TypeId}{p:String}{af:Array Edge}{g:Option (Nat×Bool)}{x y z:Operand}{l:List UInt8}{k k':IntKind}{m n:Nat}
theorem extract_mk (l:List UInt8)(m n:Nat):(ByteArray.mk l.toArray).extract m n=ByteArray.mk ((l.take n).drop m).toArray:=by apply ByteArray.ext;rw [ByteArray.data_extract];simp [List.extract_eq_take_drop,List.drop_take]
def Gn (E:Env)(S:Array Obj->Prop)(w:World):Prop:=∃ h,At E h w/\S h
structure QW (P:Program)(E:Env)(S:Array Obj->Prop)(ops:List Oper)(K:List Value->Prop)(l:List Oper)(ρ:List Value):Prop where
 out:wpQuiet P ops.toArray (Gn E S) (λa=>∃ dz,a=act dz/\K dz) l (act ρ)
variable {f:FuncId}{R:Value->Array Obj->Prop}{kk:List Item}{Kq:List Value->Prop}{S:Array Obj->Prop}
theorem NQ (S:Array Obj->Prop){id:Nat}(hm:P.follows .mixedOrders=true)(hB:Region.lexB .any ops.toArray=true)(hS:S h)(hl:∀ K:List Value->Prop,(∀ ρ,(∀ h,S h->TW P f E R kk ρ h)->K ρ)->QW P E S ops K ops ρ):TW P f E R (.code (.region id ops.toArray true)::kk) ρ h :=
 TW.of_wp λw hw=>by
  refine wp_region_quiet (C:=Gn E S) hm hB ⟨h,⟨hw.1,hw.2.1,hw.2.2.1,hw.2.2.2⟩,hS⟩ ?_;have h1:=(hl (λρ=>∀ h,S h->TW P f E R kk ρ h) (λ_ h=>h)).out;have h2:∀ (l:List Oper) (a:Act),wpQuiet P ops.toArray (Gn E S) (λa=>∃ dz,a=act dz/\∀ h,S h->TW P f E R kk dz h) l a->wpQuiet P ops.toArray (Gn E S) (λa'=>∀ w',Gn E S w'->(λe a w'=>e=Exit.normal/\∃ dz h',a=act dz/\At E h' w'/\TW P f E R kk dz h') Exit.normal a' w') l a:=by
   intro l
   induction l with
   | nil=>exact λa ⟨dz,ha,hT⟩ w' ⟨h',xT,NS⟩=>⟨rfl,dz,h',ha,xT,hT h' NS⟩
   | cons o l ih =>
    intro a hh;unfold wpQuiet at hh ⊢;split
    ·rename_i hq;rw [if_pos hq] at hh;obtain⟨v,h1,h2⟩:=hh;exact⟨v,h1,ih _ h2⟩
    ·rename_i hq;rw [if_neg hq] at hh;exact ih _ hh
  exact h2 _ _ h1
theorem Uq (hk:Kq ρ):QW P E S ops Kq [] ρ:=⟨⟨ρ,rfl,hk⟩⟩
theorem WH (hg:IB ops ρ o)(hx:∀ h,S h->Pu P ρ o h v)(hs:o7 ρ o.dst v=dz)(hk:QW P E S ops Kq rest dz):QW P E S ops Kq (o::rest) ρ:=by
 refine⟨?_⟩;unfold wpQuiet;rw [if_pos hg.out];refine⟨v,λw ⟨h,hw,hS⟩=>?_,?_⟩
 ·unfold Oper.quietAt;rw [ry,(hx h hS).out w hw.1];exact⟨rfl,rfl⟩
 ·rw [pI,hs];exact hk.out
theorem J_ (hg:Region.wanted o (yielded ops.toArray (act ρ).tmps)=false)(hs:o7 ρ o.dst undef=dz)(hk:QW P E S ops Kq rest dz):QW P E S ops Kq (o::rest) ρ:=by refine⟨?_⟩;unfold wpQuiet;rw [if_neg (by rw [hg];exact Bool.false_ne_true),pI,hs];exact hk.out
theorem Dx {j t:Nat}{b:Bool}(hg:o.guard=some (j,b))(hd:(ops[j]?).bind (·.dst)=some t)(hv:ev ρ (.tmp t) = .bool (!b))(hs:o7 ρ o.dst undef=dz)(hk:QW P E S ops Kq rest dz):QW P E S ops Kq (o::rest) ρ :=
 J_ (by cases b <;> simp [Region.wanted,hg,qE hd hv]) hs hk
theorem LO {j t:Nat}{b:Bool}(hg:o.guard=some (j,b))(hd:(ops[j]?).bind (·.dst)=some t)(hv:ev ρ (.tmp t)=undef)(hs:o7 ρ o.dst undef=dz)(hk:QW P E S ops Kq rest dz):QW P E S ops Kq (o::rest) ρ :=
 J_ (by simp [Region.wanted,hg,rP hd hv]) hs hk
theorem Q6 {g:FuncId}{xs:List Operand}{ta:Array TypeId}{gd:Option (Nat×Bool)}[T7 P g](hw:IB ops ρ ⟨d, .call ⟨.value (.func g),xs.toArray,ta⟩,ty,p,af,gd⟩)(hc:∀ h,S h->IL P g (xs.map (ev ρ)) h λv' h'=>v'=v/\S h')
  (hs:o7 ρ d v=dz) (hk:QW P E S ops Kq rest dz):QW P E S ops Kq (⟨d, .call ⟨.value (.func g),xs.toArray,ta⟩,ty,p,af,gd⟩::rest) ρ:=by
 refine⟨?_⟩;unfold wpQuiet;rw [if_pos hw.out];refine⟨v,λw ⟨h,hA,hS⟩=>?_,?_⟩
 ·unfold Oper.quietAt;rw [ry,J6 w];refine⟨rfl,((hc h hS).out E w hA).mono λe w' ⟨v',he,h',xT,WJ,hh⟩=>?_⟩;subst WJ;exact⟨he,h',xT,hh⟩
 ·show wpQuiet _ _ _ _ _ _;rw [pI,hs];exact hk.out
theorem At.push {w:World}{ob:Obj}(hw:At E h w):At E (h.push ob) { w with heap:=w.heap.push ob }:=⟨by rw [<- hw.1],hw.2.1,hw.2.2.1,hw.2.2.2⟩
theorem IV {u:Value}(hx:ev ρ x=u):Ex P ρ ⟨d, .box T x,ty,p,af,g⟩ h (.pointer (some ⟨h.size,0,none⟩)) (h.push (.cells u.cells T (0,0))):=⟨λE w hw=>by refine⟨_,_,by simp only [execOp,hx,Instr.box,newVar,newRow,Sem.run_bind,run_newObj,Result.andThen_ok,Sem.run_pure];rfl,hw.push, .inl ?_⟩;rw [hw.1]⟩
theorem NU {u:Value}[IS P T u]:Ex P ρ ⟨d, .alloc T,ty,p,af,g⟩ h (.pointer (some ⟨h.size,0,none⟩)) (h.push (.cells u.cells T (0,0))):=⟨λE w hw=>by refine⟨_,_,by simp only [execOp,Instr.alloc,newVar,newRow,J7 T w,Sem.run_bind,run_newObj,Result.andThen_ok,Sem.run_pure];rfl,hw.push, .inl ?_⟩;rw [hw.1]⟩
def tM (h:Array Obj)(B off:Nat)(v:Value):Array Obj :=
 h.modify B fun | .cells c e fz => .cells (c.setIfInBounds off v) e fz | ob=>ob
end
def LP (fz:Nat×Nat)(n:Nat):Prop:=∀ i,i<n->¬ (fz.1<=i/\i<fz.2)
theorem WK (n:Nat):LP (0,0) n:=λi _ h=>by simp at h
inductive BT | c (T:TypeId) | map | ug
instance:Coe TypeId BT:=⟨BT.c⟩
@[simp] def BT.ty:BT->TypeId
 | .c T=>T
 | _=>0
abbrev gJ:=Nat×List Value×BT
structure Mem (h0 h:Array Obj)(M L:List gJ):Prop where
 size:h0.size<=h.size
 fe:∀ b,b<h0.size->(∀ p∈M,p.1≠b)->h[b]?=h0[b]?
 at_:∀ p∈M++L,h[p.1]?=some (.cells p.2.1.toArray p.2.2.ty (0,0))
 new:∀ p∈L,h0.size<=p.1
 nodup:((M++L).map (·.1)).Nodup
def Ext (h0 h:Array Obj):Prop:=h0.size<=h.size/\∀ b,b<h0.size->h[b]?=h0[b]?
theorem Ext.refl (h:Array Obj):Ext h h:=⟨Nat.le_refl _,λ_ _=>rfl⟩
theorem Ext.trans {a b c:Array Obj}(h1:Ext a b)(h2:Ext b c):Ext a c:=⟨Nat.le_trans h1.1 h2.1,λi hi=>(h2.2 i (Nat.lt_of_lt_of_le hi h1.1)).trans (h1.2 i hi)⟩
theorem Mem.refl (h:Array Obj):Mem h h [] []:=⟨Nat.le_refl _,λ_ _ _=>rfl,by simp,by simp,by simp⟩
theorem Mem.ext {h0 h:Array Obj}{L:List gJ}(hm:Mem h0 h [] L):Ext h0 h:=⟨hm.size,λb hb=>hm.fe b hb (by simp)⟩
theorem Mem.lt {h0 h:Array Obj}{M L:List gJ}(hm:Mem h0 h M L){p:gJ}(hp:p∈M++L):p.1<h.size:=by
 have:=hm.at_ p hp
 exact (Array.getElem?_eq_some_iff.1 this).1
theorem Mem.call {h0 h h':Array Obj}{M L:List gJ}(hm:Mem h0 h M L)(he:Ext h h'):Mem h0 h' M L :=
 ⟨Nat.le_trans hm.size he.1,λb hb hM=>(he.2 b (Nat.lt_of_lt_of_le hb hm.size)).trans (hm.fe b hb hM),λp hp=>(he.2 _ (hm.lt hp)).trans (hm.at_ p hp),hm.new,hm.nodup⟩
theorem Mem.push {h0 h:Array Obj}{M L:List gJ}(hm:Mem h0 h M L)(cs:List Value)(T:TypeId):Mem h0 (h.push (.cells cs.toArray T (0,0))) M ((h.size,cs,BT.c T)::L):=by
 refine⟨by simp;have:=hm.size;omega,λb hb hM=>?_,λp hp=>?_,λp hp=>?_,?_⟩
 ·rw [Array.getElem?_push,if_neg (by have:=hm.size;omega)];exact hm.fe b hb hM
 ·simp only [List.mem_append,List.mem_cons] at hp;rcases hp with hp | rfl | hp
  ·have h1:=hm.lt (p:=p) (by simp [hp]);rw [Array.getElem?_push,if_neg (by omega)];exact hm.at_ p (by simp [hp])
  ·simp
  ·have h1:=hm.lt (p:=p) (by simp [hp]);rw [Array.getElem?_push,if_neg (by omega)];exact hm.at_ p (by simp [hp])
 ·simp only [List.mem_cons] at hp;rcases hp with rfl | hp
  ·exact hm.size
  ·exact hm.new p hp
 ·have h1:∀ q∈M++L,q.1≠h.size:=λq hq=>by have:=hm.lt hq;omega
  have h2:=hm.nodup;simp only [List.map_append,List.map_cons] at h2 ⊢;rw [List.nodup_append] at h2 ⊢;refine⟨h2.1,?_,?_⟩
  ·rw [List.nodup_cons];refine⟨λlH=>?_,h2.2.1⟩;obtain⟨q,hq,he⟩:=List.mem_map.1 lH;exact h1 q (by simp [hq]) he
  ·intro a ha b hb p_;simp only [List.mem_cons] at hb;rcases hb with rfl | hb
   ·obtain⟨q,hq,he⟩:=List.mem_map.1 ha;exact h1 q (by simp [hq]) (by omega)
   ·exact h2.2.2 a ha b hb p_
theorem Mem.own {h0 h:Array Obj}{M L:List gJ}(hm:Mem h0 h M L){B off j:Nat}{cs:List Value}{T:TypeId}{v:Value}(hj:L[j]?=some (B,cs,BT.c T))(hc:cs[off]?=some v):cell h ⟨B,off,none⟩=some v:=by have h1:=hm.at_ (B,cs,BT.c T) (by simp [List.mem_of_getElem? hj]);simp only at h1;simp [K.cell,h1,hc]
theorem nodup_keys {L:List gJ}(hn:(L.map (·.1)).Nodup){j:Nat}{B:Nat}{cs:List Value}{T:BT}(hj:L[j]?=some (B,cs,T)){i:Nat}{q:gJ}(hi:L[i]?=some q)(NX:i≠j):q.1≠B:=by
 intro he;have h1:(L.map (·.1))[i]?=some q.1:=by simp [hi]
 have h2:(L.map (·.1))[j]?=some B:=by simp [hj]
 rw [he] at h1;obtain⟨j5,Ur⟩:=List.getElem?_eq_some_iff.1 h1;obtain⟨No,Us⟩:=List.getElem?_eq_some_iff.1 h2;exact NX ((List.getElem_inj (h₀:=j5) (h₁:=No) hn).1 (Ur.trans Us.symm))
theorem Mem.put {h0 h h':Array Obj}{M L M' L':List gJ}(hm:Mem h0 h M L){j B:Nat}{cs cs':List Value}{T:TypeId}(hj:(M++L)[j]?=some (B,cs,BT.c T))(hz:h'.size=h.size)(ho:∀ b,b≠B->h'[b]?=h[b]?)(hb:h'[B]?=some (.cells cs'.toArray T (0,0)))
  (hML:(M++L).set j (B,cs',BT.c T)=M'++L') (hlen:M'.length=M.length):Mem h0 h' M' L':=by
 have GA:j<(M++L).length:=(List.getElem?_eq_some_iff.1 hj).1;have tC:(M'++L').map (·.1)=(M++L).map (·.1):=by
  rw [<- hML,List.map_set];apply List.ext_getElem?;intro i
  by_cases e:j=i
  ·subst e;rw [List.getElem?_set_self (by simpa using GA),List.getElem?_map,hj];rfl
  ·rw [List.getElem?_set_ne e]
 have hM:M'.map (·.1)=M.map (·.1):=by
  have:=congrArg (List.take M.length) tC
  simpa [hlen,List.take_append_of_le_length] using this
 have hL:L'.map (·.1)=L.map (·.1):=by
  have:=congrArg (List.drop M.length) tC
  simpa [hlen] using this
 refine⟨by rw [hz];exact hm.size,λb Dy hMb=>?_,λp hp=>?_,λp hp=>?_,by rw [tC];exact hm.nodup⟩
 ·have WL:∀ p∈M,p.1≠b:=λp hp he=>by
   have:b∈M'.map (·.1):=by rw [hM];exact List.mem_map.2 ⟨p,hp,he⟩
   obtain⟨q,hq,Ut⟩:=List.mem_map.1 this;exact hMb q hq Ut
  by_cases Th:b=B
  ·subst Th;have sj:(b,cs,BT.c T)∈M++L:=List.mem_of_getElem? hj;rcases List.mem_append.1 sj with h1 | h1
   ·exact absurd rfl (WL _ h1)
   ·have:=hm.new _ h1
    simp only at this;omega
  ·rw [ho b Th];exact hm.fe b Dy WL
 ·obtain⟨i,hi⟩:=List.mem_iff_getElem?.1 hp;rw [<- hML] at hi
  by_cases e:j=i
  ·subst e;rw [List.getElem?_set_self GA] at hi;obtain rfl:=Option.some.inj hi;exact hb
  ·rw [List.getElem?_set_ne e] at hi;have eH:=nodup_keys hm.nodup hj hi (λh=>e h.symm);rw [ho _ eH];exact hm.at_ p (List.mem_of_getElem? hi)
 ·have:p.1∈L.map (·.1):=by rw [<- hL];exact List.mem_map.2 ⟨p,hp,rfl⟩
  obtain⟨q,hq,he⟩:=List.mem_map.1 this;rw [<- he];exact hm.new q hq
section
variable {P:Program}{E:Env}{ops:List Oper}{K:List Value->Array Obj->Prop}{rest:List Oper}{ρ dz:List Value}{o:Oper}{h0 h h':Array Obj}{M L M' L':List gJ}{v u:Value}{d:Option Tmp}{T ty U:TypeId}{p:String}{af:Array Edge}{g:Option (Nat×Bool)}{x y z:Operand}{cs:List Value}
variable {f:FuncId}{R:Value->Array Obj->Prop}{kk:List Item}{Kq:List Value->Prop}
theorem Mem.after {h':Array Obj}{j B:Nat}{cs':List Value}(hm:Mem h0 h M L)(hj:L[j]?=some (B,cs,BT.c T))(hc:Mem h h' [(B,cs',BT.c T)] [])(hL:L.set j (B,cs',BT.c T)=L'):Mem h0 h' M L':=by
 have GA:j<L.length:=(List.getElem?_eq_some_iff.1 hj).1;subst hL;have IW:∀ b,b<h.size->b≠B->h'[b]?=h[b]?:=λb hb eH=>hc.fe b hb (by simpa using λe=>eH e.symm)
 have abP:h0.size<=B:=hm.new (B,cs,BT.c T) (List.mem_of_getElem? hj);have tC:(L.set j (B,cs',BT.c T)).map (·.1)=L.map (·.1):=by
  rw [List.map_set];apply List.ext_getElem?;intro i
  by_cases e:j=i
  ·subst e;rw [List.getElem?_set_self (by simpa using GA),List.getElem?_map,hj];rfl
  ·rw [List.getElem?_set_ne e]
 refine⟨Nat.le_trans hm.size hc.size,λb hb hM=>?_,λp hp=>?_,λp hp=>?_,?_⟩
 ·have:=hm.size
  rw [IW b (by omega) (by omega)];exact hm.fe b hb hM
 ·rcases List.mem_append.1 hp with hp | hp
  ·have jC:=hm.lt (p:=p) (by simp [hp]);have eH:p.1≠B:=by have hn:=hm.nodup;rw [List.map_append,List.nodup_append] at hn;exact hn.2.2 p.1 (List.mem_map.2 ⟨p,hp,rfl⟩) B (List.mem_map.2 ⟨_,List.mem_of_getElem? hj,rfl⟩)
   rw [IW _ jC eH];exact hm.at_ p (by simp [hp])
  ·obtain⟨i,hi⟩:=List.mem_iff_getElem?.1 hp
   by_cases e:j=i
   ·subst e;rw [List.getElem?_set_self GA] at hi;obtain rfl:=Option.some.inj hi;exact hc.at_ (B,cs',BT.c T) (by simp)
   ·rw [List.getElem?_set_ne e] at hi;have hn:=hm.nodup;rw [List.map_append,List.nodup_append] at hn;have eH:=nodup_keys hn.2.1 hj hi (λh=>e h.symm);have lH:p∈L:=List.mem_of_getElem? hi;rw [IW _ (hm.lt (p:=p) (by simp [lH])) eH];exact hm.at_ p (by simp [lH])
 ·have:p.1∈L.map (·.1):=by rw [<- tC];exact List.mem_map.2 ⟨p,hp,rfl⟩
  obtain⟨q,hq,he⟩:=List.mem_map.1 this;rw [<- he];exact hm.new q hq
 ·rw [List.map_append,tC,<- List.map_append];exact hm.nodup
theorem Mem.one {B:Nat}(hb:h[B]?=some (.cells cs.toArray T (0,0))):Mem h h [(B,cs,BT.c T)] []:=⟨Nat.le_refl _,λ_ _ _=>rfl,by simpa using hb,by simp,by simp⟩
theorem Mem.drop (hm:Mem h0 h M L):Mem h0 h M [] :=
 ⟨hm.size,hm.fe,λp hp=>hm.at_ p (by simp at hp;simp [hp]),by simp,by have:=hm.nodup;rw [List.map_append,List.nodup_append] at this;simpa using this.1⟩
end
section
variable {P:Program}{ρ:List Value}{h:Array Obj}{d:Option Tmp}{T ty:TypeId}{p:String}{af:Array Edge}{g:Option (Nat×Bool)}{cs:List Value}
end
end Go.Proofs.YtngabkipchpmpaaGreat.K
namespace Go.Proofs.YtngabkipchpmpaaGreat.K
open Go Go.ChangeShapes Go.WideShapes Go.ChangeAt Go.RowKit
theorem wB {H:Type}{enc:TypeId×Value->H}{P:Program}(hl:laidOutB P=true){W W':World}{sp:Nat->Bool}:∀ (ts:List TypeId) (vs:List Value) (ds:List (DataW H)) (ps:List MemPlace),
  ts.all (λt=>P.readableRec t && decide (t<P.types.size))=true->DataW.TrodAll enc P W 0 (λ_=>true) true ts vs ds ps->(∀ p∈ps,W.sameAt W' p)->(∀ p∈ps,sp p.block=true)->DataW.TrodAll enc P W' 0 sp true ts vs ds ps
 | [],[],[],_,_,h,_,_=>h
 | t::ts,v::vs,d::ds,ps,hr,⟨p,q,h1,h2,he⟩,hs,hb=>by subst he;simp only [List.all_cons,Bool.and_eq_true,decide_eq_true_eq] at hr;exact⟨p,q,WideElems.Trod_stays hl hr.1.1 hr.1.2 h1 (λx hx=>hs x (by simp [hx])) (λx hx=>hb x (by simp [hx])),wB hl ts vs ds q hr.2 h2 (λx hx=>hs x (by simp [hx])) (λx hx=>hb x (by simp [hx])),rfl⟩
 | [],_::_,_,_,_,h,_,_=>h.elim
 | [],[],_::_,_,_,h,_,_=>h.elim
 | _::_,[],_,_,_,h,_,_=>h.elim
 | _::_,_::_,[],_,_,h,_,_=>h.elim
theorem NY {E:Env}{W w':World}{h':Array Obj}(hE:E=⟨W.os,W.output,W.tape⟩)(hA:At E h' w')(he:Ext W.heap h'):Below W.heap.size W w':=by subst hE;exact⟨hA.2.1,hA.2.2.2,hA.2.2.1,by rw [hA.1];exact he.1,λk hk=>by rw [hA.1];exact he.2 k hk⟩
theorem NZ {H:Type}{enc:TypeId×Value->H}{P:Program}{k:FuncId}{f:Func}{s:ChangeSpec}{tb:TypeId}{W:World}{args:Array Value}{ds gs:List (DataW H)}{before:List MemPlace}
  (hl:laidOutB P=true) (WM:f.params.toList.all (λt=>P.readableRec t && decide (t<P.types.size))=true) (hrt:f.resultTypes=#[tb]) (hub:P.underlying tb=some .bool) (Ti:s.vars=[]) (hW:DataW.Whole enc P f.params.toList s.vars false W args.toList ds gs before)
  (Np:(s.fn H (ds++gs)).results=[.lit (.bool true)]/\(s.fn H (ds++gs)).args=ds/\(s.fn H (ds++gs)).vars=[])
  (Ey:IL P k args.toList W.heap λv h=>v = .bool true/\Ext W.heap h) :
  Calls P k args W λe W'=>∃ v,e = .returned v/\s.post enc P f false true false false W args v W':=by
 have h1:=Ey.out ⟨W.os,W.output,W.tape⟩ W ⟨rfl,rfl,rfl,rfl⟩;simp only [Array.toArray_toList] at h1;refine h1.mono λe W' ⟨v,he,h',hA,hv,hx⟩=>?_
 subst hv;refine⟨_,he,?_⟩;have hb:=NY rfl hA hx;have YV:=hW;obtain⟨p,q,ZI,hV,rfl,A7,my⟩:=hW;rw [Ti] at hV;have hq:q=[]/\gs=[]:=by
  cases gs with
  | nil=>exact⟨hV,rfl⟩
  | cons g gs=>exact hV.elim
 obtain⟨rfl,rfl⟩:=hq;have jC:∀ x∈p,x.block<W.heap.size:=λx hx=>YV.lt x (by simp [hx])
 refine⟨ds,[],p++[],[],p,[],YV,?_,?_,?_,World.keptBut_mono (λ_ h=>h.elim) (hb.frame (λ_=>False)),λh=>by cases h⟩
 ·rw [hrt,Np.1];exact trodAll_mk1 (shut_bool hub true)
 ·rw [Np.2.1];exact wB hl _ _ _ _ WM ZI (λx hx=>hb.same (jC x hx)) (λx hx=>by simpa using jC x hx)
 ·rw [Ti,Np.2.2];rfl
end Go.Proofs.YtngabkipchpmpaaGreat.K
namespace Go.Proofs.YtngabkipchpmpaaGreat.K
open Go
theorem GB {P:Program}{o:Oper}{a:Act}{w:World}{K K':Act->World->Prop}{Q Q':Exit->Act->World->Prop}(h:∀ a w,K a w->K' a w)(hq:∀ e a w,e ≠ .normal->Q e a w->Q' e a w)(hl:LetsOut Q->LetsOut Q')(hh:o.wp P a w K Q):o.wp P a w K' Q':=by
 unfold Oper.wp at *;generalize (execOp a.eval o).run P w=r at *;cases r with
 | ok n w' =>
  cases n <;> simp only [Oper.upon] at hh ⊢ <;>
   first
    | exact h _ _ hh
    | exact Calls.mono hh (λe w'' he=>by cases e <;> first | exact h _ _ he | exact hq _ _ _ (by simp) he | exact hl he)
    | exact Rows.mono hh (λ_ _ he=>h _ _ he)
 | halt x w'=>cases x <;> simp only [Oper.upon] at hh ⊢ <;> first | exact hh | exact hq _ _ _ (by simp) hh
section
variable {P:Program}{f:FuncId}{E:Env}{R:Value->Array Obj->Prop}{kk:List Item}{S:Array Obj->Prop}{ops:List Oper}{K:List Value->Array Obj->Prop}{ρ dz:List Value}{o:Oper}{h0 h h':Array Obj}{v:Value}{fuel n:Nat}{an:Array Bool}{i:Nat}{M L:List gJ}
end
structure WN (h0:Array Obj)(M Ls:List gJ)(h:Array Obj):Prop where
 size:h0.size<=h.size
 fe:∀ b,b<h0.size->(∀ p∈M,p.1≠b)->h[b]?=h0[b]?
 at_:∀ p∈Ls,h[p.1]?=some (.cells p.2.1.toArray p.2.2.ty (0,0))
theorem Mem.ZJ {h0 h:Array Obj}{M M' L Ls:List gJ}(hm:Mem h0 h M' L)(hk:M'.map (·.1)=M.map (·.1))(hs:Ls.Sublist (M'++L)):WN h0 M Ls h :=
 ⟨hm.size,λb hb hM=>hm.fe b hb (λp hp he=>by
  have:p.1∈M.map (·.1):=by rw [<- hk];exact List.mem_map.2 ⟨p,hp,rfl⟩
  obtain⟨q,hq,Ut⟩:=List.mem_map.1 this;exact hM q hq (Ut.trans he)),λp hp=>hm.at_ p (hs.subset hp)⟩
theorem WN.own {h0 h:Array Obj}{M Ls:List gJ}(hm:WN h0 M Ls h){B off j:Nat}{cs:List Value}{T:TypeId}{v:Value}(hj:Ls[j]?=some (B,cs,BT.c T))(hc:cs[off]?=some v):cell h ⟨B,off,none⟩=some v:=by have h1:=hm.at_ (B,cs,BT.c T) (List.mem_of_getElem? hj);simp only at h1;simp [K.cell,h1,hc]
theorem WN.ext {h0 h:Array Obj}{Ls:List gJ}(hm:WN h0 [] Ls h):Ext h0 h:=⟨hm.size,λb hb=>hm.fe b hb (by simp)⟩
theorem fg {h:Array Obj}{B:Nat}{e:TypeId}{fz:Nat×Nat}:∀ (cs pre post:List Value) (off:Nat),h[B]?=some (.cells (pre++cs++post).toArray e fz)->off=pre.length->bm h B off cs
 | [],_,_,_,_,_=>trivial
 | c::cs,pre,post,off,hb,ho=>by subst ho;refine⟨?_,fg cs (pre++[c]) post (pre.length+1) (by simpa using hb) (by simp)⟩;unfold cell;rw [hb];simp
theorem Mem.row {h0 h:Array Obj}{M L:List gJ}(hm:Mem h0 h M L){B j:Nat}{cs:List Value}{T:TypeId}(hj:L[j]?=some (B,cs,BT.c T)):bm h B 0 cs :=
 fg cs [] [] 0 (by simpa using hm.at_ (B,cs,BT.c T) (by simp [List.mem_of_getElem? hj])) rfl
theorem Mem.sub {h0 h:Array Obj}{M L L':List gJ}(hm:Mem h0 h M L)(hs:L'.Sublist L):Mem h0 h M L' :=
 ⟨hm.size,hm.fe,λp hp=>hm.at_ p (by
  rcases List.mem_append.1 hp with hp | hp
  ·exact List.mem_append_left _ hp
  ·exact List.mem_append_right _ (hs.subset hp)),λp hp=>hm.new p (hs.subset hp),by
  have:=hm.nodup
  rw [List.map_append] at *;exact this.sublist ((List.Sublist.refl _).append (hs.map _))⟩
theorem Mem.perm {h0 h:Array Obj}{M L L':List gJ}(hm:Mem h0 h M L)(hp:L'.Perm L):Mem h0 h M L' :=
 ⟨hm.size,hm.fe,λp hq=>hm.at_ p (by
  rcases List.mem_append.1 hq with hq | hq
  ·exact List.mem_append_left _ hq
  ·exact List.mem_append_right _ (hp.mem_iff.1 hq)),λp hq=>hm.new p (hp.mem_iff.1 hq),by
  have:=hm.nodup
  rw [List.map_append] at *;exact (((List.Perm.refl _).append (hp.map _)).nodup_iff).2 this⟩
def Ao (sz:Nat)(T:TypeId)(v:Value)(Lv:List gJ)(il:List Value):Prop :=
 (v = .slice none 0 0/\Lv=[]/\il=[]) ∨
 ∃ B n cap spare,v = .slice (some ⟨B,0,none⟩) n cap/\Lv=[(B,il++spare,BT.c T)]/\n*sz=il.length/\cap*sz=il.length+spare.length/\n<=cap
theorem Ao.nil (sz:Nat)(T:TypeId):Ao sz T (.slice none 0 0) [] [] := .inl ⟨rfl,rfl,rfl⟩
theorem Dz (Ez:Nat):∀ (r c:Nat),256<=c->c<=2*Ez->Builtin.growBy Ez r c<=2*Ez
 | 0,c,_,h=>by simpa [Builtin.growBy] using h
 | r+1,c,h1,h2=>by
  simp only [Builtin.growBy];split
  ·exact h2
  ·exact Dz Ez r _ (by omega) (by omega)
theorem nextslicecap_le (Ez cap:Nat)(h:cap<Ez):Builtin.nextslicecap Ez cap<=2*Ez:=by
 unfold Builtin.nextslicecap;split
 ·omega
 ·split
  ·omega
  ·exact Dz Ez 4 cap (by omega) (by omega)
theorem kR {P:Program}{fz:Nat×Nat}:∀ (new pre post:List Value) (w:World) (B i:Nat) (e:TypeId),LP fz (pre++post).length->(∀ v∈new,v.oneCell'=true)->w.heap[B]?=some (.cells (pre++post).toArray e fz)->new.length<=post.length->∀ off,off+i=pre.length ->
  ∃ w',(storeCells ⟨B,off,none⟩ new i).run P w = .ok () w'/\w'.os=w.os/\w'.output=w.output/\w'.tape=w.tape/\w'.heap.size=w.heap.size/\(∀ b,b≠B->w'.heap[b]?=w.heap[b]?)/\w'.heap[B]?=some (.cells (pre++new++post.drop new.length).toArray e fz)
 | [],pre,post,w,B,i,e,_,_,hb,_,off,_=>⟨w,by simp [storeCells],rfl,rfl,rfl,rfl,λ_ _=>rfl,by simpa using hb⟩
 | v::new,pre,post,w,B,i,e,hz,hv,hb,hl,off,ho=>by
  match post,hl with
  | p::post,hl =>
   have hc:w.cell? ⟨B,off+i,none⟩=some p:=by unfold World.cell?;rw [hb];simp [ho]
   have hf:w.frozen? ⟨B,off+i,none⟩=false:=by
    unfold World.frozen?;rw [hb];obtain⟨lo,hi⟩:=fz
    have:=hz (off+i) (by simp;omega)
    simp only [not_and,Nat.not_lt] at this;simp only [Bool.and_eq_false_iff,decide_eq_false_iff_not]
    by_cases h1:lo<=off+i
    ·exact .inr (Nat.not_lt.2 (this h1))
    ·exact .inl h1
   have CM:(w.setCell ⟨B,off+i,none⟩ v).heap[B]?=some (.cells ((pre++[v])++post).toArray e fz):=by simp only [World.setCell,Array.getElem?_modify,if_true,hb,Option.map_some];simp [ho]
   obtain⟨w',h1,h2,h3,h4,h5,h6,h7⟩:=kR (P:=P) new (pre++[v]) post (w.setCell ⟨B,off+i,none⟩ v) B (i+1) e (by simpa using hz) (λu hu=>hv u (by simp [hu])) CM (by simpa using hl) off (by simp;omega);refine⟨w',?_,h2,h3,h4,by rw [h5];simp,λb eH=>?_,by rw [h7];simp⟩
   ·simp only [storeCells,Sem.run_bind,pJ,run_store _ _ _ _ _ (hv v (by simp)),hc,hf];exact h1
   ·rw [h6 b eH];simp only [World.setCell,Array.getElem?_modify];rw [if_neg (by omega)]
theorem sm (z:Array Value)(n:Nat):(Builtin.zeroCells z n).size=n*z.size:=by simp [Builtin.zeroCells]
section
variable {P:Program}{E:Env}{ops:List Oper}{K:List Value->Array Obj->Prop}{rest:List Oper}{ρ dz:List Value}{o:Oper}{h0 h h':Array Obj}{M L M' L' L1 L2 Lv Lf:List gJ}{v u:Value}{d:Option Tmp}{T ty S X X' e:TypeId}{p:String}{af:Array Edge}{g:Option (Nat×Bool)}{x y z:Operand}{cs il new:List Value}{i:TypeInfo}{zv:Value}{sz n cx Bx ox:Nat}
end
section
variable {P:Program}{f:FuncId}{E:Env}{R:Value->Array Obj->Prop}{kk:List Item}{ops:List Oper}{K:List Value->Array Obj->Prop}{rest:List Oper}{ρ dz:List Value}{o:Oper}{h0 h h':Array Obj}{M L M' L':List gJ}{v u:Value}{d:Option Tmp}{T ty U e:TypeId}{p:String}{af:Array Edge}{g:Option (Nat×Bool)}{x y z:Operand}{cs cs':List Value}{n B j off:Nat}{k:IntKind}
end
theorem mapM_some {α β:Type}{f:α->Option β}:∀ {l:List α} {ys:List β},l.mapM f=some ys->∀ a∈l,∃ y,f a=some y
 | [],_,_,a,ha=>by cases ha
 | b::l,ys,h,a,ha=>by
  rw [List.mapM_cons] at h;cases hb:f b with
  | none=>rw [hb] at h;cases h
  | some y =>
   rw [hb] at h;cases hl:l.mapM f with
   | none=>rw [hl] at h;cases h
   | some zs =>
    rcases List.mem_cons.1 ha with rfl | ha
    ·exact⟨y,hb⟩
    ·exact mapM_some hl a ha
theorem GC {α β:Type}{f:α->Option β}:∀ {l:List α} {ys:List β},l.mapM f=some ys->ys.length=l.length/\∀ i (hi:i<l.length) (j5:i<ys.length),f l[i]=some ys[i]
 | [],ys,h=>by rw [List.mapM_nil] at h;cases h;exact⟨rfl,λi hi=>absurd hi (by simp)⟩
 | b::l,ys,h=>by
  rw [List.mapM_cons] at h;cases hb:f b with
  | none=>rw [hb] at h;cases h
  | some y =>
   rw [hb] at h;cases hl:l.mapM f with
   | none=>rw [hl] at h;cases h
   | some zs =>
    rw [hl] at h;cases h;obtain⟨h1,h2⟩:=GC hl;refine⟨by simp [h1],λi hi j5=>?_⟩
    match i with
    | 0=>exact hb
    | i+1=>exact h2 i (by simpa using hi) (by simpa using j5)
def lb (q:Option Addr):Nat:=(q.map (·.block)).getD 0
def ka (q:Option Addr):Nat:=(q.map (·.off)).getD 0
theorem rQ {h:Array Obj}{B:Nat}:∀ {cs:List Value} {off:Nat},bm h B off cs↔∀ i v,cs[i]?=some v->cell h ⟨B,off+i,none⟩=some v
 | [],off=>by simp [bm]
 | c::cs,off=>by
  simp only [bm];rw [rQ];constructor
  ·rintro ⟨h1,h2⟩ i v hv
   match i with
   | 0=>simp at hv;subst hv;simpa using h1
   | i+1=>simp at hv;rw [show off+(i+1)=off+1+i by omega];exact h2 i v hv
  ·intro h;exact⟨by simpa using h 0 c (by simp),λi v hv=>by rw [show off+1+i=off+(i+1) by omega];exact h (i+1) v (by simpa using hv)⟩
theorem GD {w:World}{base n:Nat}{a:Addr}{ys:List Value}(h:w.cells? base a n=some ys):ys.length=n/\∀ i v,ys[i]?=some v->w.cell? (a.add i)=some v:=by
 unfold World.cells? at h
 split at h
 ·obtain⟨h1,h2⟩:=GC h;simp at h1;refine⟨h1,λi v hv=>?_⟩;obtain⟨hi,WJ⟩:=List.getElem?_eq_some_iff.1 hv
  have:=h2 i (by simp;omega) hi
  rw [WJ] at this;simpa using this
 ·cases h
theorem GG {w:World}{base sz i:Nat}{a:Addr}{ys:List Value}(qF:0<sz)(h0:∃ zs,w.cells? base (a.add (0*sz)) sz=some zs)(h:w.cells? base (a.add (i*sz)) sz=some ys):some a=some ⟨lb (some a),ka (some a),none⟩/\ys.length=sz/\bm w.heap (lb (some a)) (ka (some a)+i*sz) ys:=by
 obtain⟨zs,h0⟩:=h0;obtain⟨hl0,Tj⟩:=GD h0;have hz:∃ v,zs[0]?=some v:=⟨zs[0],by simp⟩;obtain⟨v,hv⟩:=hz;have tD:=Tj 0 v hv;have WO:a.spot=none:=by
  simp only [Nat.zero_mul,Addr.add,if_true] at tD;unfold World.cell? at tD
  split at tD
  ·cases hs:a.spot with
   | none=>rfl
   | some s=>rw [hs] at tD;simp at tD
  ·cases tD
 have ha:a=⟨lb (some a),ka (some a),none⟩:=by cases a;simp [lb,ka] at *;exact WO
 obtain⟨hl,hc⟩:=GD h;refine⟨congrArg some ha,hl,rQ.2 λj u hu=>?_⟩
 have:=hc j u hu
 rw [ha,pJ,pJ] at this;exact this
section
variable {H:Type}{enc:TypeId×Value->H}{P:Program}{w:World}{base:Nat}{spare:Nat->Bool}{held:Bool}{t e:TypeId}{fuel:Nat}{cs:List Value}{x:DataW H×List MemPlace}
theorem N0 {k:IntKind}(hu:P.underlying t=some (.int k))(h:DataW.trod enc P w base spare held fuel t cs=some x):∃ n,cs=[.int k n]/\(Lit.int k n).wf=true:=by
 cases fuel with
 | zero=>simp [DataW.trod] at h
 | succ n =>
  unfold DataW.trod at h;rw [hu] at h
  split at h <;> simp_all
theorem LQ (hu:P.underlying t=some .string)(h:DataW.trod enc P w base spare held fuel t cs=some x):∃ l:List UInt8,cs=[bs l]/\l.length<=maxLen:=by obtain⟨s,rfl,_,h3⟩:=DataW.trod_string hu h;refine⟨s.data.toList,rfl,?_⟩;rw [Array.length_toList];exact h3
theorem DA {fs:Array Field}(hu:P.underlying t=some (.struct fs))(h:DataW.trod enc P w base spare held fuel t cs=some x):∃ GH,cs.length=P.cellsOf t/\∀ f∈fs.toList,∃ y,DataW.trod enc P w base spare held GH f.type ((cs.drop f.offset).take (P.cellsOf f.type))=some y:=by
 cases fuel with
 | zero=>simp [DataW.trod] at h
 | succ n =>
  refine⟨n,?_⟩;unfold DataW.trod at h;rw [hu] at h
  split at h <;> try (simp_all;done)
  rename_i fs' cs' he;simp only [Option.some.injEq,TypeDesc.struct.injEq] at he;subst he
  split at h
  ·rename_i hl;refine⟨hl,λf hf=>?_⟩;rw [Option.map_eq_some_iff] at h;obtain⟨xs,QD,_⟩:=h;exact mapM_some QD f hf
  ·simp at h
theorem GI (hu:P.underlying t=some (.slice e))(h:DataW.trod enc P w base spare held fuel t cs=some x):∃ GH,cs=[.slice none 0 0]∨∃ a len cap,cs=[.slice (some a) len cap]/\len<=cap/\cap<=maxLen/\∀ i,i<len->∃ ys y,w.cells? base (a.add (i*P.cellsOf e)) (P.cellsOf e)=some ys/\DataW.trod enc P w base spare held GH e ys=some y:=by
 rcases DataW.trod_slice hu h with⟨rfl,_⟩ | ⟨a,len,cap,elems,rest,n,rfl,rfl,_,_,h1,h2,h3,h4,_⟩
 ·exact⟨0, .inl rfl⟩
 ·refine⟨n, .inr ⟨a,len,cap,rfl,h1,h2,λi hi=>?_⟩⟩
  have:=h4 i hi
  rw [List.getElem?_eq_getElem (by omega)] at this;obtain⟨ys,DB,Gp⟩:=Option.bind_eq_some_iff.1 this;exact⟨ys,_,DB,Gp⟩
end
def GJ (h:Array Obj)(sz:Nat)(q:Option Addr)(rows:List (List Value)):Prop :=
 ∀ i r,rows[i]?=some r->q=some ⟨lb q,ka q,none⟩/\bm h (lb q) (ka q+i*sz) r
theorem Q7 {h:Array Obj}{a:Addr}{v:Value}(hc:cell h a=some v):a.block<h.size:=by
 unfold cell at hc;cases hb:h[a.block]? with
 | none=>rw [hb] at hc;cases hc
 | some o=>exact (Array.getElem?_eq_some_iff.1 hb).1
theorem Ext.cell {h h':Array Obj}(he:Ext h h'){a:Addr}{v:Value}(hc:cell h a=some v):K.cell h' a=some v:=by have h1:=he.2 a.block (Q7 hc);unfold K.cell at hc ⊢;rw [h1];exact hc
theorem Ext.cells {h h':Array Obj}(he:Ext h h'){B:Nat}:∀ {cs:List Value} {off:Nat},bm h B off cs->bm h' B off cs
 | [],_,_=>trivial
 | _::_,_,⟨h1,h2⟩=>⟨he.cell h1,Ext.cells he h2⟩
theorem GJ.ext {h h':Array Obj}{sz:Nat}{q:Option Addr}{rows:List (List Value)}(hr:GJ h sz q rows)(he:Ext h h'):GJ h' sz q rows :=
 λi r hi=>⟨(hr i r hi).1,he.cells (hr i r hi).2⟩
theorem GJ.nil (h:Array Obj)(sz:Nat)(q:Option Addr):GJ h sz q []:=λi r hi=>by simp at hi
theorem GJ.take {h:Array Obj}{sz:Nat}{q:Option Addr}{rows:List (List Value)}(hr:GJ h sz q rows)(n:Nat):GJ h sz q (rows.take n) :=
 λi r hi=>hr i r (by
  rw [List.getElem?_take] at hi
  split at hi
  ·exact hi
  ·cases hi)
theorem xU {h:Array Obj}{B:Nat}:∀ {xs ys:List Value} {off:Nat},bm h B off xs->bm h B (off+xs.length) ys->bm h B off (xs++ys)
 | [],_,_,_,h2=>by simpa using h2
 | x::xs,ys,off,h1,h2=>⟨h1.1,xU h1.2 (by rw [List.length_cons] at h2;rw [Nat.add_right_comm];exact h2)⟩
theorem GJ.all {h:Array Obj}{sz:Nat}{q:Option Addr}:∀ {rows:List (List Value)} {off:Nat},(∀ r∈rows,r.length=sz)->(∀ i r,rows[i]?=some r->bm h (lb q) (off+i*sz) r)->bm h (lb q) off rows.flatten
 | [],_,_,_=>trivial
 | r::rows,off,hl,hr=>by
  have WQ:=hl r (by simp);refine xU (by simpa using hr 0 r (by simp)) (GJ.all (λr hr=>hl r (by simp [hr])) λi s hs=>?_)
  have:=hr (i+1) s (by simpa using hs)
  rw [WQ,show off+sz+i*sz=off+(i+1)*sz by rw [Nat.add_mul];omega];exact this
theorem GJ.flat {h:Array Obj}{sz:Nat}{q:Option Addr}{rows:List (List Value)}(hr:GJ h sz q rows)(hl:∀ r∈rows,r.length=sz):bm h (lb q) (ka q) rows.flatten :=
 GJ.all hl λi r hi=>(hr i r hi).2
theorem GJ.at {α:Type}{f:α->List Value}{h:Array Obj}{sz:Nat}{q:Option Addr}{as:List α}(hr:GJ h sz q (as.map f)){i:Nat}(hi:i<as.length) :
  ∃ a,as[i]?=some a/\q=some ⟨lb q,ka q,none⟩/\bm h (lb q) (ka q+i*sz) (f a):=by
 refine⟨as[i],List.getElem?_eq_getElem hi,?_⟩;exact hr i (f as[i]) (by rw [List.getElem?_map,List.getElem?_eq_getElem hi];rfl)
structure yO (sz:Nat)(T:TypeId)(q:Option Addr)(n cp:Nat)(Lv:List gJ)(rows:List (List Value)):Prop where
 sh:Ao sz T (.slice q n cp) Lv rows.flatten
 len:n=rows.length
 row:∀ r∈rows,r.length=sz
theorem yO.nil (sz:Nat)(T:TypeId):yO sz T none 0 0 [] []:=⟨Ao.nil sz T,rfl,by simp⟩
theorem yO.le {sz:Nat}{T:TypeId}{q:Option Addr}{n cp:Nat}{Lv:List gJ}{rows:List (List Value)}(hs:yO sz T q n cp Lv rows):n<=cp:=by
 rcases hs.sh with⟨he,_,_⟩ | ⟨_,_,_,_,he,_,_,_,h⟩
 ·cases he;exact Nat.le_refl _
 ·cases he;exact h
theorem fR {sz:Nat}:∀ {rows:List (List Value)},(∀ r∈rows,r.length=sz)->rows.flatten.length=rows.length*sz
 | [],_=>by simp
 | r::rows,h=>by rw [List.flatten_cons,List.length_append,h r (by simp),fR (λr hr=>h r (by simp [hr])),List.length_cons,Nat.add_mul];omega
theorem qG {sz:Nat}:∀ {rows:List (List Value)} {i:Nat} {r:List Value},(∀ r∈rows,r.length=sz)->rows[i]?=some r->∃ pre post,rows.flatten=pre++r++post/\pre.length=i*sz
 | [],i,r,_,h=>by simp at h
 | x::rows,0,r,hl,h=>by simp at h;subst h;exact⟨[],rows.flatten,by simp,by simp⟩
 | x::rows,i+1,r,hl,h=>by obtain⟨pre,post,h1,h2⟩:=qG (rows:=rows) (i:=i) (λr hr=>hl r (by simp [hr])) (by simpa using h);exact⟨x++pre,post,by simp [h1],by simp [h2,hl x (by simp),Nat.add_mul];omega⟩
theorem yO.rd {h0 h:Array Obj}{M L Lv:List gJ}{sz n cp:Nat}{T:TypeId}{q:Option Addr}{rows:List (List Value)}(hs:yO sz T q n cp Lv rows)(hm:Mem h0 h M L)(iC:∀ p∈Lv,p∈M++L):GJ h sz q rows:=by
 intro i r hi;obtain⟨pre,post,h1,h2⟩:=qG hs.row hi;rcases hs.sh with⟨he,_,hv⟩ | ⟨B,n',cap,spare,he,hL,hn,hc,hle⟩
 ·have hn:n=0:=by cases he;rfl
  have hl:=hs.len
  have:=(List.getElem?_eq_some_iff.1 hi).1
  omega
 ·cases he;refine⟨rfl,?_⟩;have hb:=hm.at_ _ (iC (B,rows.flatten++spare,BT.c T) (by rw [hL];simp));rw [h1] at hb;exact fg r pre (post++spare) _ (by show h[B]?=_;simpa using hb) (by simp [ka,h2])
theorem Mem.join {h0 h h':Array Obj}{M L L':List gJ}(hm:Mem h0 h M L)(hc:Mem h h' [] L'):Mem h0 h' M (L++L'):=by
 have he:=hc.ext;refine⟨Nat.le_trans hm.size he.1,λb hb hM=>(he.2 b (Nat.lt_of_lt_of_le hb hm.size)).trans (hm.fe b hb hM),λp hp=>?_,λp hp=>?_,?_⟩
 ·rw [<- List.append_assoc] at hp;rcases List.mem_append.1 hp with hp | hp
  ·exact (he.2 _ (hm.lt hp)).trans (hm.at_ p hp)
  ·exact hc.at_ p (by simpa using hp)
 ·rcases List.mem_append.1 hp with hp | hp
  ·exact hm.new p hp
  ·exact Nat.le_trans hm.size (hc.new p hp)
 ·rw [<- List.append_assoc,List.map_append,List.nodup_append];refine⟨hm.nodup,by simpa using hc.nodup,λa ha b hb p_=>?_⟩;obtain⟨p,hp,rfl⟩:=List.mem_map.1 ha;obtain⟨r,hr,rfl⟩:=List.mem_map.1 hb;have h1:=hm.lt hp;have h2:=hc.new r hr;omega
theorem Mem.tl {h0 h:Array Obj}{M L:List gJ}{x:gJ}(hm:Mem h0 h M (x::L)):Mem h0 h M L:=hm.sub (List.sublist_cons_self _ _)
section
variable {P:Program}{E:Env}{ops:List Oper}{K:List Value->Array Obj->Prop}{rest:List Oper}{ρ dz:List Value}{o:Oper}{h0 h h':Array Obj}{M L M' L' L1 L2 Lv Lf:List gJ}{v u:Value}{d:Option Tmp}{T ty S X e:TypeId}{p:String}{af:Array Edge}{g:Option (Nat×Bool)}{x y z:Operand}{cs il new:List Value}{i:TypeInfo}{zv:Value}{sz n m cp Bx ox:Nat}{q:Option Addr}{k:IntKind}{rows:List (List Value)}
theorem CR [gD P T (.slice e)][se P e sz]{len:Nat}(hx:ev ρ x = .slice q len cp)(hy:ev ρ y = .int k (n:Int))(hn:n<len)(hq:q=some ⟨lb q,ka q,none⟩):Pu P ρ ⟨d, .indexAddr T x y,ty,p,af,g⟩ h (.pointer (some ⟨lb q,ka q+n*sz,none⟩)) :=
 sN (by rw [hx,<- hq]) hy hn
theorem GK [gD P T (.pointer e)](q:Option Addr)(w:World):(Op.equal T (.pointer q) (.pointer none)).run P w = .ok (decide (q=none)) w:=by unfold Op.equal Op.maxDepth Op.equalIn;cases q <;> simp [fA T w]
theorem kb [gD P T (.pointer e)]{U:TypeId}(hx:ev ρ x = .pointer q)(hy:ev ρ y = .pointer none):Pu P ρ ⟨d, .binOp .eql T x y U,ty,p,af,g⟩ h (.bool (decide (q=none))):=⟨λw _=>by simp [execOp,m8,hx,hy,binOp,GK]⟩
theorem kc [gD P T (.pointer e)]{U:TypeId}(hx:ev ρ x = .pointer q)(hy:ev ρ y = .pointer none):Pu P ρ ⟨d, .binOp .neq T x y U,ty,p,af,g⟩ h (.bool (decide (q≠none))):=⟨λw _=>by simp [execOp,m8,hx,hy,binOp,GK]⟩
end
end Go.Proofs.YtngabkipchpmpaaGreat.K
namespace Go.Proofs.YtngabkipchpmpaaGreat.K
open Go Go.WideShapes
theorem xh {α:Type}(R:Nat->α->Prop):∀ (n:Nat),(∀ i,i<n->∃ a,R i a)->∃ l:List α,l.length=n/\∀ i a,l[i]?=some a->R i a
 | 0,_=>⟨[],rfl,λi a h=>by simp at h⟩
 | n+1,h=>by
  obtain⟨l,h1,h2⟩:=xh R n (λi hi=>h i (by omega));obtain⟨a,ha⟩:=h n (by omega);refine⟨l++[a],by simp [h1],λi b hb=>?_⟩;rcases Nat.lt_or_ge i l.length with h3 | h3
  ·rw [List.getElem?_append_left h3] at hb;exact h2 i b hb
  ·rw [List.getElem?_append_right h3] at hb;have h4:i - l.length=0:=by
    have:=(List.getElem?_eq_some_iff.1 hb).1
    simp at this;omega
   rw [h4] at hb;simp at hb;subst hb
   have:i=n:=by omega
   subst this;exact ha
section
variable {H:Type}{enc:TypeId×Value->H}{P:Program}{w:World}{base b0 sz:Nat}{spare:Nat->Bool}{held:Bool}{t e:TypeId}{v:Value}{d:DataW H}{ps:List MemPlace}
end
end Go.Proofs.YtngabkipchpmpaaGreat.K
namespace Go.Proofs.YtngabkipchpmpaaGreat.K
open Go
section
variable {P:Program}{E:Env}{ops:List Oper}{ρ dz:List Value}{h:Array Obj}{d:Option Tmp}{T ty U S D e:TypeId}{p:String}{af:Array Edge}{g:Option (Nat×Bool)}{x y z:Operand}{k k' k0:IntKind}{a b:Int}
theorem Uu (hx:ev ρ x = .int k a)(hy:ev ρ y = .int k b)(hb:b≠0):Pu P ρ ⟨d, .binOp .rem T x y U,ty,p,af,g⟩ h (.int k (a.tmod b)):=⟨λw _=>by simp [execOp,iR,hx,hy,binOp,Op.intDiv,hb]⟩
theorem Q8 [gD P S (.int k0)][gD P D (.int k)](hx:ev ρ x = .int k' a)(ha:k.wrap a=b):Pu P ρ ⟨d, .convert S D x,ty,p,af,g⟩ h (.int k b):=⟨λw _=>by simp [execOp,convert,hx,fA S w,fA D w,Conv.intToInt,ha]⟩
theorem GL {n:Nat}(hn:n<2 ^ 62):IntKind.wrap .i64 (n:Int)=(n:Int):=Q1 _ (by omega) (by omega)
theorem Bs {n:Nat}[gD P T (.pointer e)][se P e n](hn:n≠0){a b:Nat}{ca cb:List Value}{ta tb:TypeId}(w:World)(ha:w.heap[a]?=some (.cells ca.toArray ta (0,0)))(hb:w.heap[b]?=some (.cells cb.toArray tb (0,0))):(Op.equal T (.pointer (some ⟨a,0,none⟩)) (.pointer (some ⟨b,0,none⟩))).run P w = .ok (decide (a=b)) w:=by
 unfold Op.equal Op.maxDepth Op.equalIn;simp only [Sem.run_bind,fA T w,Result.andThen_ok,sM e w,ne_eq,hn,not_false_eq_true,if_true]
 by_cases p_:a=b
 ·subst p_;simp [run_sameAddr_same]
 ·rw [run_sameAddr_other w (a:=⟨a,0,none⟩) (b:=⟨b,0,none⟩) (by intro h;cases h;exact p_ rfl) ha hb];simp [p_]
theorem LR {n:Nat}[gD P T (.pointer e)][se P e n]{a b:Nat}{ca cb:List Value}{ta tb:TypeId}(hx:ev ρ x = .pointer (some ⟨a,0,none⟩))(hy:ev ρ y = .pointer (some ⟨b,0,none⟩))(ha:h[a]?=some (.cells ca.toArray ta (0,0)))(hb:h[b]?=some (.cells cb.toArray tb (0,0)))(hn:n≠0):Pu P ρ ⟨d, .binOp .eql T x y U,ty,p,af,g⟩ h (.bool (decide (a=b))):=⟨λw hw=>by subst hw;simp [execOp,m8,hx,hy,binOp,Bs (P:=P) (T:=T) (e:=e) hn w ha hb]⟩
theorem LS {n:Nat}[gD P T (.pointer e)][se P e n]{a b:Nat}{ca cb:List Value}{ta tb:TypeId}(hx:ev ρ x = .pointer (some ⟨a,0,none⟩))(hy:ev ρ y = .pointer (some ⟨b,0,none⟩))(ha:h[a]?=some (.cells ca.toArray ta (0,0)))(hb:h[b]?=some (.cells cb.toArray tb (0,0)))(hn:n≠0):Pu P ρ ⟨d, .binOp .neq T x y U,ty,p,af,g⟩ h (.bool (decide (a≠b))):=⟨λw hw=>by subst hw;simp [execOp,m8,hx,hy,binOp,Bs (P:=P) (T:=T) (e:=e) hn w ha hb]⟩
end
section
variable {P:Program}{E:Env}{ops:List Oper}{K:List Value->Array Obj->Prop}{rest:List Oper}{ρ:List Value}{h0 h:Array Obj}{M L:List gJ}{d:Option Tmp}{T ty e:TypeId}{p:String}{af:Array Edge}{g:Option (Nat×Bool)}{x y:Operand}{i:TypeInfo}{zv:Value}{n:Nat}
end
def jY (b:UInt8):Value := .int .u8 (b.toNat:Int)
section
variable {P:Program}{E:Env}{ops:List Oper}{ρ dz:List Value}{h:Array Obj}{d:Option Tmp}{S T ty U X e kt vt:TypeId}{p:String}{af:Array Edge}{g:Option (Nat×Bool)}{x y z:Operand}{l m:List UInt8}{n:Nat}{u:Value}
theorem GM {α:Type}(a:Array α)(x:α)(f:α->α):(a.push x).modify a.size f=a.push (f x):=by
 apply Array.ext_getElem?;intro i;simp only [Array.getElem?_modify,Array.getElem?_push]
 by_cases h:i=a.size
 ·subst h;simp
 ·have:¬ a.size=i:=λe=>h e.symm
  simp [h,this]
theorem Q9 [gD P S .string][gD P T (.slice e)][gD P e (.int .u8)](hx:ev ρ x=bs l)(w:World)(hw:At E h w) :
  ∃ cap w',l.length<=cap/\(execOp (ev ρ) ⟨d, .convert S T x,ty,p,af,g⟩).run P w = .ok (.value (.slice (some ⟨h.size,0,none⟩) l.length cap)) w'/\At E (h.push (.cells (l.map jY++List.replicate (cap - l.length) (Value.int .u8 0)).toArray e (cap,cap+1))) w':=by
 let q':Question := .appendCap l.length 0 e
 let nc:=q'.cut (w.tape w.drawn q')
 have Q_:l.length<=nc:=Nat.le_add_right _ _;have IX:w.heap=h:=hw.1;refine⟨nc,{ w.drew with heap:=w.drew.heap.push (.cells (l.map jY++List.replicate (nc - l.length) (Value.int .u8 0)).toArray e (nc,nc+1)) },Q_,?_,⟨by rw [<- IX];rfl,hw.2.1,hw.2.2.1,hw.2.2.2⟩⟩;simp only [execOp,convert,hx,Sem.run_bind,fA S w,fA T w,Result.andThen_ok,fA e w,Conv.stringToBytes];have qF:(ByteArray.mk l.toArray).size=l.length:=pZ l;simp only [bs,choose,Sem.run_bind,qF];simp only [Sem.run,Question.forced,Result.andThen_ok,qF];simp only [newRow,Sem.run_bind,run_newObj,Result.andThen_ok,Sem.run_pure,markStringish,shape,freeze,Sem.run];have tD:(Array.map (λb=>Value.int IntKind.u8 ((UInt8.toNat b:Nat):Int)) l.toArray++Array.replicate (nc - l.length) (Value.int IntKind.u8 0))=(List.map jY l++List.replicate (nc - l.length) (Value.int IntKind.u8 0)).toArray:=Array.ext' (by simp [jY]);have hq:(Question.appendCap l.length 0 e).cut (w.tape w.drawn (Question.appendCap l.length 0 e))=nc:=rfl;have hlen:(List.map jY l++List.replicate (nc - l.length) (Value.int IntKind.u8 0)).toArray.size=nc:=by simp;omega
 simp only [Bool.false_eq_true,if_false,Result.andThen_ok,hq,tD];have Uv:∀ (W:World) (a:Array Obj) (c:Array Value),W.heap=a.push (Obj.cells c e)->W.shape? a.size=some (e,c.size):=λW a c hW=>by simp [World.shape?,hW]
 rw [Uv _ w.heap _ rfl];simp only [hlen];simp [Sem.run,World.freeze,GM,World.drew,IX]
theorem IY (w:World)(f:Value->ByteArray->Sem (ForInStep ByteArray))(hf:∀ (c:UInt8) (s:ByteArray) (w:World),(f (jY c) s).run P w = .ok (.yield (s.push c)) w):∀ (l:List UInt8) (s:ByteArray),(forIn (l.map jY) s f:Sem ByteArray).run P w = .ok ⟨s.data++l.toArray⟩ w:=by
 intro l
 induction l with
 | nil=>intro s;simp
 | cons c l ih =>
  intro s;simp only [List.map_cons,List.forIn_cons,Sem.run_bind,hf,Result.andThen_ok,ih]
  congr 1
  apply ByteArray.ext;simp
theorem Ux [gD P S (.slice e)][gD P T .string][gD P e (.int .u8)]{B off cp:Nat}(hx:ev ρ x = .slice (some ⟨B,off,none⟩) l.length cp)(hc:bm h B off (l.map jY)):Pu P ρ ⟨d, .convert S T x,ty,p,af,g⟩ h (bs l):=⟨λw hw=>by
 have hl:(loadCells ⟨B,off,none⟩ l.length).run P w = .ok (l.map jY).toArray w:=by
  subst hw
  have:=run_loadCellsFrom (P:=P) w B off (l.map jY) 0 #[] (by simpa using hc)
  simpa [loadCells] using this
 simp only [execOp,convert,hx,Sem.run_bind,fA S w,fA T w,Result.andThen_ok,fA e w,Conv.bytesToString,hl];rw [<- Array.forIn_toList];simp only [List.toList_toArray];rw [IY]
 ·simp [bs]
 ·intro c s w;simp [jY]⟩
theorem Ka [gD P S (.slice e)][gD P T .string][gD P e (.int .u8)]{n cp:Nat}(hx:ev ρ x = .slice none n cp):Pu P ρ ⟨d, .convert S T x,ty,p,af,g⟩ h (bs []):=⟨λw hw=>by
 simp [execOp,convert,hx,Sem.run_bind,fA S w,fA T w,Result.andThen_ok,fA e w,Conv.bytesToString]
 rfl⟩
theorem Ra [gD P S (.slice e)][gD P T .string][gD P e (.int .u8)]{a:Addr}{cp:Nat}(hx:ev ρ x = .slice (some a) 0 cp):Pu P ρ ⟨d, .convert S T x,ty,p,af,g⟩ h (bs []):=⟨λw hw=>by
 simp [execOp,convert,hx,Sem.run_bind,fA S w,fA T w,Result.andThen_ok,fA e w,Conv.bytesToString,loadCells,loadCellsFrom]
 rfl⟩
theorem Kb [gD P T (.map kt vt)](a:Option Nat)(w:World):(Op.equal T (.map a) (.map none)).run P w = .ok (decide (a=none)) w:=by unfold Op.equal Op.maxDepth Op.equalIn;simp only [Sem.run_bind,fA T w,Result.andThen_ok];cases a <;> simp
theorem DC (op:BinOp)(q:Option Nat)(v2:Value)(w:World):(eqGuard op T x y (.map q) v2).run P w = .ok () w:=by
 unfold eqGuard
 split <;> simp
theorem Bt [gD P T (.map kt vt)]{a:Option Nat}(hx:ev ρ x = .map a)(hy:ev ρ y = .map none):Pu P ρ ⟨d, .binOp .eql T x y U,ty,p,af,g⟩ h (.bool (decide (a=none))):=⟨λw hw=>by simp [execOp,DC,hx,hy,binOp,Kb (P:=P) (T:=T) (kt:=kt) (vt:=vt)]⟩
theorem Bu [gD P T (.map kt vt)]{a:Option Nat}(hx:ev ρ x = .map a)(hy:ev ρ y = .map none):Pu P ρ ⟨d, .binOp .neq T x y U,ty,p,af,g⟩ h (.bool (!decide (a=none))):=⟨λw hw=>by simp [execOp,DC,hx,hy,binOp,Kb (P:=P) (T:=T) (kt:=kt) (vt:=vt)]⟩
theorem LU (hx:ev ρ x=bs l)[gD P T .string](w:World)(hw:At E h w):(execOp (ev ρ) ⟨d, .range T x,ty,p,af,g⟩).run P w = .ok (.value (.pointer (some ⟨h.size,0,none⟩))) { w with heap:=w.heap.push (.stringIter ⟨l.toArray⟩ 0) }:=by rw [<- hw.1];simp [execOp,hx,Instr.range,fA T w,bs]
theorem GN {B pos:Nat}(hx:ev ρ x = .pointer (some ⟨B,0,none⟩))(w:World)(hw:w.heap[B]?=some (.stringIter ⟨l.toArray⟩ pos))(hp:pos<l.length):(execOp (ev ρ) ⟨d, .next x true,ty,p,af,g⟩).run P w = .ok (.value (.tuple #[.bool true, .int .i64 (pos:Int), .int .i32 ((Utf8.decode ⟨l.toArray⟩ pos).1:Int)])) { w with heap:=w.heap.setIfInBounds B (.stringIter ⟨l.toArray⟩ (pos+(Utf8.decode ⟨l.toArray⟩ pos).2)) }:=by
 have h1:(getObj B).run P w = .ok (.stringIter ⟨l.toArray⟩ pos) w:=by simp [getObj,Sem.run,hw]
 have h2:∀ o,(setObj B o).run P w = .ok () { w with heap:=w.heap.setIfInBounds B o }:=λo=>by simp [setObj,Sem.run,hw]
 have hs:pos<(ByteArray.mk l.toArray).size:=by rw [pZ];exact hp
 simp [execOp,hx,Instr.next,h1,h2,hs];rfl
theorem EA {B pos:Nat}(hx:ev ρ x = .pointer (some ⟨B,0,none⟩))(w:World)(hw:w.heap[B]?=some (.stringIter ⟨l.toArray⟩ pos))(hp:¬ pos<l.length):(execOp (ev ρ) ⟨d, .next x true,ty,p,af,g⟩).run P w = .ok (.value (.tuple #[.bool false])) w:=by
 have h1:(getObj B).run P w = .ok (.stringIter ⟨l.toArray⟩ pos) w:=by simp [getObj,Sem.run,hw]
 have hs:¬ pos<(ByteArray.mk l.toArray).size:=by rw [pZ];exact hp
 simp only [execOp,hx,Instr.next,Sem.run_bind,h1,Result.andThen_ok,if_neg hs];simp
theorem LV [gD P T (.pointer e)][se P e n](hn:n≠0)(a:Option Addr)(w:World):(Op.equal T (.pointer none) (.pointer a)).run P w = .ok (decide (a=none)) w:=by unfold Op.equal Op.maxDepth Op.equalIn;simp only [Sem.run_bind,fA T w,Result.andThen_ok,sM e w,ne_eq,hn,not_false_eq_true,if_true];cases a <;> simp
theorem IZ [gD P T (.pointer e)][se P e n](hn:n≠0)(a:Option Addr)(w:World):(Op.equal T (.pointer a) (.pointer none)).run P w = .ok (decide (a=none)) w:=by unfold Op.equal Op.maxDepth Op.equalIn;simp only [Sem.run_bind,fA T w,Result.andThen_ok,sM e w,ne_eq,hn,not_false_eq_true,if_true];cases a <;> simp
def findD (dec:Value->Bool):List MapEntry->Nat->Option (Nat×Value)
 | [],_=>none
 | m::es,i=>if dec m.key then some (i,m.val) else findD dec es (i+1)
theorem uh (w:World)(k:Value)(dec:Value->Bool):∀ (es:List MapEntry) (i:Nat),(∀ m∈es,(Op.equal kt k m.key).run P w = .ok (dec m.key) w)->(Instr.findAsking kt k es i).run P w = .ok (findD dec es i) w
 | [],i,_=>by simp [Instr.findAsking,findD]
 | m::es,i,hq=>by
  simp only [Instr.findAsking,Sem.run_bind,hq m (by simp),Result.andThen_ok,findD];cases dec m.key with
  | true=>simp
  | false=>simpa using uh w k dec es (i+1) λm hm=>hq m (by simp [hm])
theorem run_findKey [gD P kt (.pointer e)](w:World)(k:Value)(dec:Value->Bool)(es:List MapEntry)(hq:∀ m∈es,(Op.equal kt k m.key).run P w = .ok (dec m.key) w):(Instr.findKey kt k es).run P w = .ok (findD dec es 0) w:=by
 simp only [Instr.findKey,Sem.run_bind,fA kt w,Result.andThen_ok];cases es with
 | nil=>simp [Instr.findNow,findD]
 | cons m es =>
  simp only [Instr.findNow,Instr.sameNow];exact uh w k dec _ 0 hq
theorem run_checkKey [gD P kt (.pointer e)](w:World)(b:Bool)(a:Option Addr):(Instr.checkKey b 10000 kt (.pointer a)).run P w = .ok () w:=by
 have h:∀ n,(Instr.checkKey b (n+1) kt (.pointer a)).run P w = .ok () w:=λn=>by simp [Instr.checkKey,fA kt w]
 exact h 9999
theorem LX [gD P T (.map kt vt)][gD P kt (.pointer e)][IS P vt u]{B:Nat}{a:Option Addr}{es:Array MapEntry}{ck:Nat}(dec:Value->Bool)(hx:ev ρ x = .map (some B))(hy:ev ρ y = .pointer a)(hb:h[B]?=some (.map es ck))(hq:∀ w:World,w.heap=h->∀ m∈es.toList,(Op.equal kt (.pointer a) m.key).run P w = .ok (dec m.key) w):Pu P ρ ⟨d, .lookup T x y false,ty,p,af,g⟩ h (match findD dec es.toList 0 with | some r=>r.2 | none=>u):=⟨λw hw=>by
 have h1:(getObj B).run P w = .ok (.map es ck) w:=by simp [getObj,Sem.run,hw,hb]
 simp only [execOp,hx,hy,Instr.lookup,Sem.run_bind,fA T w,Result.andThen_ok,h1,Sem.run_pure,run_checkKey (e:=e),run_findKey (e:=e) w _ dec _ (hq w hw)];cases findD dec es.toList 0 with
 | none=>simp [J7 vt w]
 | some r=>simp⟩
theorem I0 [gD P T (.map kt vt)][gD P kt (.pointer e)][IS P vt u]{a:Option Addr}(hx:ev ρ x = .map none)(hy:ev ρ y = .pointer a):Pu P ρ ⟨d, .lookup T x y false,ty,p,af,g⟩ h u:=⟨λw hw=>by have hf:=run_findKey (P:=P) (kt:=kt) (e:=e) w (.pointer a) (λ_=>true) [] (by simp);simp only [execOp,hx,hy,Instr.lookup,Sem.run_bind,fA T w,Result.andThen_ok,Sem.run_pure,run_checkKey (e:=e),hf];simp [findD,J7 vt w]⟩
theorem run_makeMap [gD P T (.map kt vt)]{r:Option Operand}(hr:∀ y,r=some y->∃ k n,ev ρ y = .int k n)(w:World)(hw:At E h w):(execOp (ev ρ) ⟨d, .makeMap T r,ty,p,af,g⟩).run P w = .ok (.value (.map (some h.size))) { w with heap:=w.heap.push (.map #[] 0) }:=by
 rw [<- hw.1];cases r with
 | none=>simp [execOp,Instr.makeMap]
 | some y =>
  obtain⟨k,n,hy⟩:=hr y rfl;simp [execOp,Instr.makeMap,hy,fA T w,asInt,asIntOf]
theorem CS [gD P T (.map kt vt)][gD P kt (.pointer e)]{B:Nat}{a:Option Addr}{es:Array MapEntry}{ck:Nat}(dec:Value->Bool)(hx:ev ρ x = .map (some B))(hy:ev ρ y = .pointer a)(w:World)(hb:w.heap[B]?=some (.map es ck))(hq:∀ m∈es.toList,(Op.equal kt (.pointer a) m.key).run P w = .ok (dec m.key) w)(hd:∀ m∈es.toList,dec m.key=true->m.key = .pointer a) :
  (execOp (ev ρ) ⟨d, .mapUpdate T x y z,ty,p,af,g⟩).run P w = .ok .skip { w with heap:=w.heap.setIfInBounds B (match findD dec es.toList 0 with
   | some r => .map (es.modify r.1 λm=>{ m with key := .pointer a,val:=ev ρ z }) ck
   | none => .map (es.push { key := .pointer a,val:=ev ρ z,born:=ck }) (ck+1)) }:=by
 have h1:(getObj B).run P w = .ok (.map es ck) w:=by simp [getObj,Sem.run,hb]
 have h2:∀ o,(setObj B o).run P w = .ok () { w with heap:=w.heap.setIfInBounds B o }:=λo=>by simp [setObj,Sem.run,hb]
 simp only [execOp,hx,hy,Instr.mapUpdate,Sem.run_bind,fA T w,Result.andThen_ok,h1,run_checkKey (e:=e),run_findKey (e:=e) w _ dec _ hq];cases hf:findD dec es.toList 0 with
 | none=>simp [h2]
 | some r =>
  obtain⟨i,v⟩:=r;have hk:∃ m,es[i]?=some m/\m.key = .pointer a:=by
   have key:∀ (l:List MapEntry) (j:Nat),(∀ m∈l,dec m.key=true->m.key = .pointer a)->findD dec l j=some (i,v)->∃ m,j<=i/\l[i - j]?=some m/\m.key = .pointer a:=by
    intro l
    induction l with
    | nil=>intro j _ h;simp [findD] at h
    | cons m l ih =>
     intro j hm h;simp only [findD] at h;cases hd:dec m.key with
     | true =>
      rw [hd] at h;simp at h;obtain⟨rfl,rfl⟩:=h;exact⟨m,Nat.le_refl _,by simp,hm m (by simp) hd⟩
     | false =>
      rw [hd] at h;obtain⟨m',h1,h2,h3⟩:=ih (j+1) (λm tE=>hm m (by simp [tE])) (by simpa using h);refine⟨m',by omega,?_,h3⟩;rw [show i - j=(i - (j+1))+1 by omega];simpa using h2
   obtain⟨m,_,h2,h3⟩:=key es.toList 0 hd hf;exact⟨m,by simpa using h2,h3⟩
  obtain⟨m,pK,vn⟩:=hk;have m9:Instr.sameBits 10000 (.pointer a) (.pointer a)=true:=by simp [Instr.sameBits]
  simp [pK,vn,Instr.keyThatStays,m9,h2]
end
section
variable {P:Program}{ops:Array Oper}{Q:Exit->Act->World->Prop}{md:Region.Mode}
def bh (md:Region.Mode)(ops:Array Oper)(i k:Nat):Bool :=
 match ops[i]? with
 | some o=>o.after.any λe=>Region.binds md e && e.on == k
 | none=>false
def oB (P:Program)(md:Region.Mode)(ops:Array Oper)(Q:Exit->Act->World->Prop):Nat->Array Bool->List (Nat×(World->Prop))->Act->World->Prop
 | 0,an,_,a,w=>Region.ready md ops an=[]/\Q .normal a w
 | fuel+1,an,T,a,w =>
  (Region.ready md ops an=[]->Q .normal a w) /\
  ∀ i∈Region.ready md ops an,wpOp P ops Q i (λa' w'=>(∀ q∈T.filter (λq=>!(bh md ops i q.1)),q.2 w')/\oB P md ops Q fuel (an.setIfInBounds i true) (T.filter λq=>!(bh md ops i q.1)) a' w') a w
theorem Bv:∀ (fuel:Nat) (an:Array Bool) (T:List (Nat×(World->Prop))) (a:Act) (w:World),oB P md ops Q fuel an T a w->wpAny P md ops Q fuel an a w
 | 0,_,_,_,_,h=>h
 | fuel+1,_,_,_,_,h=>⟨h.1,λi hi=>wpOp_mono (λa' w' h'=>Bv fuel _ _ a' w' h'.2) (h.2 i hi)⟩
theorem rz:∀ (fuel:Nat) (an:Array Bool) (T T':List (Nat×(World->Prop))) (a:Act) (w:World),(∀ q∈T',q∈T∨∀ w,q.2 w)->oB P md ops Q fuel an T a w->oB P md ops Q fuel an T' a w
 | 0,_,_,_,_,_,_,h=>h
 | fuel+1,an,T,T',_,_,hs,h=>⟨h.1,λi hi=>wpOp_mono (λa' w' h'=>by
   have key:∀ q∈T'.filter (λq=>!(bh md ops i q.1)),q∈T.filter (λq=>!(bh md ops i q.1))∨∀ w,q.2 w:=λq hq=>by
    obtain⟨h1,h2⟩:=List.mem_filter.1 hq;rcases hs q h1 with h3 | h3
    ·exact .inl (List.mem_filter.2 ⟨h3,h2⟩)
    ·exact .inr h3
   exact⟨λq hq=>(key q hq).elim (λh=>h'.1 q h) (λh=>h w'),rz fuel _ _ _ a' w' key h'.2⟩) (h.2 i hi)⟩
theorem EB {i:Nat}{oi:Oper}{v:Value}{Si:World->Prop}(hi:ops[i]?=some oi)(qb:∀ (j:Nat) (o:Oper) cs b,ops[j]?=some o->o.op ≠ .select cs b)
  (hQ:∀ c a w,Q (.panic c) (a.put oi.dst v) w->Q (.panic c) a w) :
  ∀ (fuel:Nat) (an:Array Bool) (T:List (Nat×(World->Prop))) (a:Act) (w:World),
   (∀ j oj,ops[j]?=some oj->j≠i->an.getD j true=false->(∀ e∈oj.after,Region.binds md e=true->e.on≠i)->oi.apart ops oj=true) ->
   i∈Region.ready md ops an->YieldsIf P ops Si oi v a->Si w->(∀ q∈T,q.2 w) ->
   oB P md ops Q fuel (an.setIfInBounds i true) ((i,Si)::T) (a.put oi.dst v) w->oB P md ops Q (fuel+1) an T a w:=by
 intro fuel;have own:∀ (fuel:Nat) (an:Array Bool) (T:List (Nat×(World->Prop))) (a:Act) (w:World),YieldsIf P ops Si oi v a->Si w->(∀ q∈T,q.2 w)->oB P md ops Q fuel (an.setIfInBounds i true) ((i,Si)::T) (a.put oi.dst v) w ->
   wpOp P ops Q i (λa' w'=>(∀ q∈T.filter (λq=>!(bh md ops i q.1)),q.2 w')/\oB P md ops Q fuel (an.setIfInBounds i true) (T.filter λq=>!(bh md ops i q.1)) a' w') a w:=λfuel an T a w hy hS hT H =>
  hy.wpOp hi hS ⟨λq hq=>hT q (List.mem_filter.1 hq).1,rz fuel _ _ _ _ _ (λq hq => .inl (List.mem_cons_of_mem _ (List.mem_filter.1 hq).1)) H⟩
 induction fuel with
 | zero =>
  intro an T a w _ hr hy hS hT H;refine⟨λh=>(by rw [h] at hr;cases hr),λj hj=>?_⟩
  by_cases GO:j=i
  ·subst GO;exact own 0 an T a w hy hS hT H
  ·have:=ready_mono hj GO
   rw [H.1] at this;cases this
 | succ fuel ih =>
  intro an T a w GP hr hy hS hT H;refine⟨λh=>(by rw [h] at hr;cases hr),λj hj=>?_⟩
  by_cases GO:j=i
  ·subst GO;exact own (fuel+1) an T a w hy hS hT H
  ·have h1:=H.2 j (ready_mono hj GO);obtain⟨N3,oj,Rb,xV⟩:=mem_ready.1 hj;have I1:∀ e∈oj.after,Region.binds md e=true->e.on≠i:=λe he hb heq=>by
    have h1:=xV e he hb;have h0:=(mem_ready.1 hr).1;rw [heq] at h1;rcases Nat.lt_or_ge i an.size with h' | h'
    ·simp [h'] at h0 h1;rw [h0] at h1;cases h1
    ·simp [Array.getElem?_eq_none h'] at h1
   have Rc:bh md ops j i=false:=by
    unfold bh;rw [Rb];simp only;rw [Array.any_eq_false];intro k hk;cases hb:Region.binds md oj.after[k] with
    | false=>simp
    | true =>
     have:=I1 _ (Array.getElem_mem hk) hb
     simpa using this
   have sn:((i,Si)::T).filter (λq=>!(bh md ops j q.1))=(i,Si)::T.filter (λq=>!(bh md ops j q.1)):=by rw [List.filter_cons];simp only [Rc,Bool.not_false,if_true]
   rw [sn] at h1;have h2:=wpOp_putIf Rb (GP j oj Rb GO N3 I1) (λcs b=>qb i oi cs b hi) (λcs b=>qb j oj cs b Rb) hQ hy h1;have I2:∀ k ok,ops[k]?=some ok->k≠i->(an.setIfInBounds j true).getD k true=false ->
     (∀ e∈ok.after,Region.binds md e=true->e.on≠i)->oi.apart ops ok=true:=λk ok hk ZK N4 N5=>by
    refine GP k ok hk ZK ?_ N5
    by_cases Uy:j=k
    ·subst Uy;exact N3
    ·rw [getD_set_ne true Uy] at N4;exact N4
   refine wpOp_mono (λa' w' h3=>?_) h2;have h4:=h3.2.1 (i,Si) (by simp);have h5:∀ q∈T.filter (λq=>!(bh md ops j q.1)),q.2 w':=λq hq=>h3.2.1 q (List.mem_cons_of_mem _ hq)
   refine⟨h5,ih (an.setIfInBounds j true) _ a' w' I2 (ready_mono hr (Ne.symm GO)) h3.1 h4 h5 ?_⟩;rw [Array.setIfInBounds_comm _ _ GO];exact h3.2.2
theorem wC {i:Nat}{oi:Oper}{v:Value}{Si:World->Prop}(hi:ops[i]?=some oi)(qb:∀ (j:Nat) (o:Oper) cs b,ops[j]?=some o->o.op ≠ .select cs b)
  (hQ:∀ c a w,Q (.panic c) (a.put oi.dst v) w->Q (.panic c) a w) :
  ∀ (fuel:Nat) (an:Array Bool) (T T1:List (Nat×(World->Prop))) (G:World->Prop) (a:Act) (w:World),
   (∀ j oj,ops[j]?=some oj->j≠i->an.getD j true=false->(∀ e∈oj.after,Region.binds md e=true->e.on≠i)->oi.apart ops oj=true) ->
   i∈Region.ready md ops an->YieldsIf P ops Si oi v a->Si w->G w->(∀ w,G w->Si w)->(∀ q∈T,q.2 w)->(∀ q∈T,bh md ops i q.1=false->q∈T1)->(∀ q∈T,q∈T1∨∀ w,G w->q.2 w) ->
   oB P md ops Q fuel (an.setIfInBounds i true) ((i,G)::T1) (a.put oi.dst v) w->oB P md ops Q (fuel+1) an T a w:=by
 intro fuel;have own:∀ (fuel:Nat) (an:Array Bool) (T T1:List (Nat×(World->Prop))) (G:World->Prop) (a:Act) (w:World),YieldsIf P ops Si oi v a->Si w->(∀ q∈T,q.2 w)->(∀ q∈T,bh md ops i q.1=false->q∈T1)->oB P md ops Q fuel (an.setIfInBounds i true) ((i,G)::T1) (a.put oi.dst v) w ->
   wpOp P ops Q i (λa' w'=>(∀ q∈T.filter (λq=>!(bh md ops i q.1)),q.2 w')/\oB P md ops Q fuel (an.setIfInBounds i true) (T.filter λq=>!(bh md ops i q.1)) a' w') a w:=λfuel an T T1 G a w hy hS hT tF H =>
  hy.wpOp hi hS ⟨λq hq=>hT q (List.mem_filter.1 hq).1,rz fuel _ _ _ _ _ (λq hq => .inl (List.mem_cons_of_mem _ (tF q (List.mem_filter.1 hq).1 (by simpa using (List.mem_filter.1 hq).2)))) H⟩
 induction fuel with
 | zero =>
  intro an T T1 G a w _ hr hy hS hG ZL hT tF o8 H;refine⟨λh=>(by rw [h] at hr;cases hr),λj hj=>?_⟩
  by_cases GO:j=i
  ·subst GO;exact own 0 an T T1 G a w hy hS hT tF H
  ·have:=ready_mono hj GO
   rw [H.1] at this;cases this
 | succ fuel ih =>
  intro an T T1 G a w GP hr hy hS hG ZL hT tF o8 H;refine⟨λh=>(by rw [h] at hr;cases hr),λj hj=>?_⟩
  by_cases GO:j=i
  ·subst GO;exact own (fuel+1) an T T1 G a w hy hS hT tF H
  ·have h1:=H.2 j (ready_mono hj GO);obtain⟨N3,oj,Rb,xV⟩:=mem_ready.1 hj;have I1:∀ e∈oj.after,Region.binds md e=true->e.on≠i:=λe he hb heq=>by
    have h1:=xV e he hb;have h0:=(mem_ready.1 hr).1;rw [heq] at h1;rcases Nat.lt_or_ge i an.size with h' | h'
    ·simp [h'] at h0 h1;rw [h0] at h1;cases h1
    ·simp [Array.getElem?_eq_none h'] at h1
   have Rc:bh md ops j i=false:=by
    unfold bh;rw [Rb];simp only;rw [Array.any_eq_false];intro k hk;cases hb:Region.binds md oj.after[k] with
    | false=>simp
    | true =>
     have:=I1 _ (Array.getElem_mem hk) hb
     simpa using this
   have sn:((i,G)::T1).filter (λq=>!(bh md ops j q.1))=(i,G)::T1.filter (λq=>!(bh md ops j q.1)):=by rw [List.filter_cons];simp only [Rc,Bool.not_false,if_true]
   rw [sn] at h1;have h2:=wpOp_putIf Rb (GP j oj Rb GO N3 I1) (λcs b=>qb i oi cs b hi) (λcs b=>qb j oj cs b Rb) hQ hy h1;have I2:∀ k ok,ops[k]?=some ok->k≠i->(an.setIfInBounds j true).getD k true=false ->
     (∀ e∈ok.after,Region.binds md e=true->e.on≠i)->oi.apart ops ok=true:=λk ok hk ZK N4 N5=>by
    refine GP k ok hk ZK ?_ N5
    by_cases Uy:j=k
    ·subst Uy;exact N3
    ·rw [getD_set_ne true Uy] at N4;exact N4
   refine wpOp_mono (λa' w' h3=>?_) h2;have h4:=h3.2.1 (i,G) (by simp);have h5:∀ q∈T.filter (λq=>!(bh md ops j q.1)),q.2 w':=λq hq=>by
    obtain⟨g1,g2⟩:=List.mem_filter.1 hq;rcases o8 q g1 with h | h
    ·exact h3.2.1 q (List.mem_cons_of_mem _ (List.mem_filter.2 ⟨h,g2⟩))
    ·exact h w' h4
   refine⟨h5,ih (an.setIfInBounds j true) _ (T1.filter λq=>!(bh md ops j q.1)) G a' w' I2 (ready_mono hr (Ne.symm GO)) h3.1 (ZL _ h4) h4 ZL h5 (λq hq hw=>?_) (λq hq=>?_) ?_⟩
   ·obtain⟨g1,g2⟩:=List.mem_filter.1 hq;exact List.mem_filter.2 ⟨tF q g1 hw,g2⟩
   ·obtain⟨g1,g2⟩:=List.mem_filter.1 hq;rcases o8 q g1 with h | h
    ·exact .inl (List.mem_filter.2 ⟨h,g2⟩)
    ·exact .inr h
   ·rw [Array.setIfInBounds_comm _ _ GO];exact h3.2.2
end
structure AM (P:Program)(E:Env)(ops:List Oper)(K:List Value->Array Obj->Prop)(fuel:Nat)(an:Array Bool)(T:List (Nat×(Array Obj->Prop)))(ρ:List Value)(h:Array Obj):Prop where
 out:∀ w,At E h w->oB P .any ops.toArray (λe a w'=>e = .normal/\∃ dz h',a=act dz/\At E h' w'/\K dz h') fuel an (T.map λq=>(q.1,Gn E q.2)) (act ρ) w
section
variable {P:Program}{f:FuncId}{E:Env}{R:Value->Array Obj->Prop}{kk:List Item}{S:Array Obj->Prop}{ops:List Oper}{K:List Value->Array Obj->Prop}{T:List (Nat×(Array Obj->Prop))}{ρ dz:List Value}{o:Oper}{h h':Array Obj}{v:Value}{fuel n:Nat}{an:Array Bool}
theorem GQ {id:Nat}(hm:P.follows .mixedOrders=true)(hl:∀ K:List Value->Array Obj->Prop,(∀ ρ h,TW P f E R kk ρ h->K ρ h)->AM P E ops K ops.length (Array.replicate ops.length false) [] ρ h):TW P f E R (.code (.region id ops.toArray true)::kk) ρ h :=
 TW.of_wp λw hw=>by have h1:=(hl _ (λ_ _ h=>h)).out { w with drawn:=w.drawn+1 } ⟨hw.1,hw.2.1,hw.2.2.1,hw.2.2.2⟩;exact wp_region_any hm (by simpa using Bv _ _ _ _ _ h1)
theorem EC (hr:Region.ready .any ops.toArray an=[])(hk:K ρ h):AM P E ops K fuel an T ρ h :=
 ⟨λw hA=>by
  cases fuel with
  | zero=>exact⟨hr,rfl,ρ,h,rfl,hA,hk⟩
  | succ n=>exact⟨λ_=>⟨rfl,ρ,h,rfl,hA,hk⟩,λi hi=>by rw [hr] at hi;cases hi⟩⟩
theorem GR (i:Nat)(hi:ops[i]?=some o)(hs:Region.noSelect ops.toArray=true)(hf:Region.free .any ops.toArray an i=true)(hr:(Region.ready .any ops.toArray an).contains i=true)
  (hS:S h) (hT:∀ q∈T,q.2 h) (hw:IB ops ρ o) (hx:∀ h,S h->Pu P ρ o h v) (tM:o7 ρ o.dst v=dz) (hk:AM P E ops K fuel (an.setIfInBounds i true) ((i,λh=>S h/\∀ q∈T,bh .any ops.toArray i q.1=true->q.2 h)::T.filter λq=>!(bh .any ops.toArray i q.1)) dz h):AM P E ops K (fuel+1) an T ρ h:=by
 have j5:ops.toArray[i]?=some o:=by simpa using hi
 refine⟨λw hA=>wC (i:=i) (oi:=o) (v:=v) (Si:=Gn E S) j5 (Region.noSelect_spec hs) (λc a w hq=>by cases hq.1) fuel an _ ((T.filter λq=>!(bh .any ops.toArray i q.1)).map λq=>(q.1,Gn E q.2)) (Gn E λh=>S h/\∀ q∈T,bh .any ops.toArray i q.1=true->q.2 h) (act ρ) w (Region.free_spec j5 hf) (by simpa using hr) (.inl ⟨hw.out,λw' ⟨h',xT,NS⟩=>?_⟩) ⟨h,hA,hS⟩ ⟨h,hA,hS,λq hq _=>hT q hq⟩ (λw ⟨h,hA,hS,_⟩=>⟨h,hA,hS⟩) (λq hq=>?_) (λq hq Rc=>?_) (λq hq=>?_) ?_⟩
 ·rw [ry];exact (hx h' NS).out w' xT.1
 ·obtain⟨q0,IC,rfl⟩:=List.mem_map.1 hq;exact⟨h,hA,hT q0 IC⟩
 ·obtain⟨q0,IC,rfl⟩:=List.mem_map.1 hq;exact List.mem_map.2 ⟨q0,List.mem_filter.2 ⟨IC,by simpa using Rc⟩,rfl⟩
 ·obtain⟨q0,IC,rfl⟩:=List.mem_map.1 hq;cases hb:bh .any ops.toArray i q0.1 with
  | false=>exact .inl (List.mem_map.2 ⟨q0,List.mem_filter.2 ⟨IC,by rw [hb];rfl⟩,rfl⟩)
  | true=>exact .inr λw ⟨h,hA,_,hG⟩=>⟨h,hA,hG q0 IC hb⟩
 ·rw [pI,tM];exact hk.out w hA
theorem N6 (i:Nat)(hi:ops[i]?=some o)(hs:Region.noSelect ops.toArray=true)(hf:Region.free .any ops.toArray an i=true)(hr:(Region.ready .any ops.toArray an).contains i=true)
  (hT:∀ q∈T,q.2 h) (hw:IB ops ρ o) (hx:∀ h,Pu P ρ o h v) (tM:o7 ρ o.dst v=dz) (hk:AM P E ops K fuel (an.setIfInBounds i true) ((i,λ_=>True)::T) dz h):AM P E ops K (fuel+1) an T ρ h:=by
 have j5:ops.toArray[i]?=some o:=by simpa using hi
 refine⟨λw hA=>wC (i:=i) (oi:=o) (v:=v) (Si:=Gn E λ_=>True) j5 (Region.noSelect_spec hs) (λc a w hq=>by cases hq.1) fuel an _ (T.map λq=>(q.1,Gn E q.2)) (Gn E λ_=>True) (act ρ) w (Region.free_spec j5 hf) (by simpa using hr) (.inl ⟨hw.out,λw' ⟨h',xT,_⟩=>?_⟩) ⟨h,hA,trivial⟩ ⟨h,hA,trivial⟩ (λw hw=>hw) (λq hq=>?_) (λq hq _=>hq) (λq hq => .inl hq) ?_⟩
 ·rw [ry];exact (hx h').out w' xT.1
 ·obtain⟨q0,IC,rfl⟩:=List.mem_map.1 hq;exact⟨h,hA,hT q0 IC⟩
 ·rw [pI,tM];exact hk.out w hA
theorem Kc (i:Nat)(hi:ops[i]?=some o)(hs:Region.noSelect ops.toArray=true)(hf:Region.free .any ops.toArray an i=true)(hr:(Region.ready .any ops.toArray an).contains i=true)
  (hT:∀ q∈T,q.2 h) (hw:Region.wanted o (yielded ops.toArray (act ρ).tmps)=false) (tM:o7 ρ o.dst undef=dz) (hk:AM P E ops K fuel (an.setIfInBounds i true) T dz h):AM P E ops K (fuel+1) an T ρ h:=by
 have j5:ops.toArray[i]?=some o:=by simpa using hi
 refine⟨λw hA=>EB (i:=i) (oi:=o) (v:=undef) (Si:=λ_=>True) j5 (Region.noSelect_spec hs) (λc a w hq=>by cases hq.1) fuel an _ (act ρ) w (Region.free_spec j5 hf) (by simpa using hr) (.inr ⟨hw,rfl⟩) trivial (λq hq=>?_) ?_⟩
 ·obtain⟨q0,IC,rfl⟩:=List.mem_map.1 hq;exact⟨h,hA,hT q0 IC⟩
 ·rw [pI,tM];refine rz _ _ _ _ _ _ (λq hq=>?_) (hk.out w hA);rcases List.mem_cons.1 hq with rfl | hq
  ·exact .inr λ_=>trivial
  ·exact .inl hq
theorem N7 (eH:Region.ready .any ops.toArray an≠[])(xV:∀ i∈Region.ready .any ops.toArray an,∃ o,ops[i]?=some o/\LW P E ops (λdz h'=>(∀ q∈T.filter (λq=>!(bh .any ops.toArray i q.1)),q.2 h')/\AM P E ops K fuel (an.setIfInBounds i true) (T.filter λq=>!(bh .any ops.toArray i q.1)) dz h') [o] ρ h):AM P E ops K (fuel+1) an T ρ h:=by
 refine⟨λw hA=>⟨λh0=>absurd h0 eH,λj hj=>?_⟩⟩;obtain⟨o,hi,hl⟩:=xV j hj;have h1:=hl.out w hA;have j5:ops.toArray[j]?=some o:=by simpa using hi
 have Wa:(T.map λq=>(q.1,Gn E q.2)).filter (λq=>!(bh .any ops.toArray j q.1))=(T.filter λq=>!(bh .any ops.toArray j q.1)).map λq=>(q.1,Gn E q.2):=by rw [List.filter_map];rfl
 rw [Wa];have fin:∀ h' w',At E h' w'->(∀ q∈T.filter (λq=>!(bh .any ops.toArray j q.1)),q.2 h')->∀ q∈(T.filter λq=>!(bh .any ops.toArray j q.1)).map (λq=>(q.1,Gn E q.2)),q.2 w':=λh' w' xT yW q hq=>by obtain⟨q0,IC,rfl⟩:=List.mem_map.1 hq;exact⟨h',xT,yW q0 IC⟩
 unfold wpOp;simp only [j5];unfold wpList at h1;split
 ·rename_i hq;rw [if_pos hq] at h1;rcases h1 with h1 | h1
  ·refine .inl (GB (λa w' hh=>?_) (λe a w' eH hh=>absurd hh.1 eH) (λ⟨_,_,hh⟩=>by cases hh.1) h1);obtain⟨_,dz,h',rfl,xT,NS,hk⟩:=hh;exact⟨fin h' w' xT NS,hk.out w' xT⟩
  ·obtain⟨_,a,w',hq,_⟩:=h1;cases hq
 ·rename_i hq;rw [if_neg hq] at h1;obtain⟨_,dz,h',he,xT,NS,hk⟩:=h1;rw [he];exact⟨fin h' w xT NS,hk.out w xT⟩
theorem A8 (i:Nat)(hi:ops[i]?=some o)(hr:Region.ready .any ops.toArray an=[i])(hl:LW P E ops (λdz h'=>(∀ q∈T.filter (λq=>!(bh .any ops.toArray i q.1)),q.2 h')/\AM P E ops K fuel (an.setIfInBounds i true) (T.filter λq=>!(bh .any ops.toArray i q.1)) dz h') [o] ρ h):AM P E ops K (fuel+1) an T ρ h:=by
 refine⟨λw hA=>⟨λh0=>(by rw [hr] at h0;cases h0),λj hj=>?_⟩⟩;rw [hr] at hj;obtain rfl:j=i:=by simpa using hj
 have h1:=hl.out w hA;have j5:ops.toArray[j]?=some o:=by simpa using hi
 have Wa:(T.map λq=>(q.1,Gn E q.2)).filter (λq=>!(bh .any ops.toArray j q.1))=(T.filter λq=>!(bh .any ops.toArray j q.1)).map λq=>(q.1,Gn E q.2):=by rw [List.filter_map];rfl
 rw [Wa];have fin:∀ h' w',At E h' w'->(∀ q∈T.filter (λq=>!(bh .any ops.toArray j q.1)),q.2 h')->∀ q∈(T.filter λq=>!(bh .any ops.toArray j q.1)).map (λq=>(q.1,Gn E q.2)),q.2 w':=λh' w' xT yW q hq=>by obtain⟨q0,IC,rfl⟩:=List.mem_map.1 hq;exact⟨h',xT,yW q0 IC⟩
 unfold wpOp;simp only [j5];unfold wpList at h1;split
 ·rename_i hq;rw [if_pos hq] at h1;rcases h1 with h1 | h1
  ·refine .inl (GB (λa w' hh=>?_) (λe a w' eH hh=>absurd hh.1 eH) (λ⟨_,_,hh⟩=>by cases hh.1) h1);obtain⟨_,dz,h',rfl,xT,NS,hk⟩:=hh;exact⟨fin h' w' xT NS,hk.out w' xT⟩
  ·obtain⟨_,a,w',hq,_⟩:=h1;cases hq
 ·rename_i hq;rw [if_neg hq] at h1;obtain⟨_,dz,h',he,xT,NS,hk⟩:=h1;rw [he];exact⟨fin h' w xT NS,hk.out w xT⟩
end
end Go.Proofs.YtngabkipchpmpaaGreat.K
namespace Go.Proofs.YtngabkipchpmpaaGreat.V
open Go
def Gl (_:Nat->Option Obj):Prop:=True
theorem Gl.mono {m m':Nat->Option Obj}(_:Gl m)(_:∀ b o,m b=some o->m' b=some o):Gl m':=trivial
structure Attr where
 key:List UInt8
 val:List UInt8
structure Node where
 kind:Int
 tag:List UInt8
 text:List UInt8
 attrs:List Attr
 size:Int
structure Sel where
 kind:Int
 op:Int
 key:List UInt8
 val:List UInt8
 a:Int
 b:Int
 flag:Int
 size:Int
structure cr where
 ns:List UInt8
 key:List UInt8
 val:List UInt8
structure HN where
 par:Option Nat
 fst:Option Nat
 aB:Option Nat
 aY:Option Nat
 aX:Option Nat
 ty:Int
 atom:Int
 data:List UInt8
 ns:List UInt8
 attrs:List cr
structure KN where
 pl:Int
 n:Node
 up:Option Nat
 kids:List (Option Nat)
 z:Bool
inductive Fl | int (k:IntKind) | bool | str | np | kA | nil | ints | strs | GS | eV | ED | nodes | GU | I3 | mA | vR | any | Uz (f:FuncId)
 deriving DecidableEq
abbrev Fl.T:Fl->Type
 | .int _=>Int | .bool=>Bool | .str=>List UInt8 | .np=>Option Nat | .kA=>Unit | .nil=>Unit | .ints=>List Int | .strs=>List (List UInt8) | .GS=>List Bool
 | .eV=>List (Option Nat) | .ED=>List cr | .nodes=>List Node | .GU=>List (Option Nat) | .I3=>Unit | .mA=>Unit | .vR=>Unit | .any=>Unit | .Uz _=>List (Option Nat)
abbrev CT:Fl->List Fl->Type
 | f,[]=>f.T
 | f,g::fs=>f.T×CT g fs
inductive E | int | u8 | str | bool | attr | node | QE | nE | np | rc (f:Fl)(fs:List Fl)(k:Nat)
 deriving DecidableEq
abbrev E.T:E->Type
 | .int=>Int | .u8=>UInt8 | .str=>List UInt8 | .bool=>Bool | .attr=>Attr | .node=>Node | .QE=>Sel | .nE=>cr | .np=>Option Nat | .rc f fs _=>CT f fs
def E.sz:E->Nat
 | .int=>1 | .u8=>1 | .str=>1 | .bool=>1 | .attr=>2 | .node=>5 | .QE=>8 | .nE=>3 | .np=>1 | .rc _ fs k=>1+fs.length+k
def uT:TypeId:=5
def NT:Nat:=1000000000
def gZ:Nat:=1000000001
def SB:Nat:=2000000000
def j3 (i j:Nat):Nat:=SB+64*i+j
def WS:Nat:=500000000
def I4 (T:Nat):Nat:=WS+2*T
def ZM (T c:Nat):Nat:=WS+2*(16*T+c)+1
def WT:Nat->String
 | 0 => "WriteString"
 | 1 => "WriteByte"
 | _ => "Write"
inductive D
 | u | fA
 | int (k:IntKind) (n:Int) | bool (b:Bool) | str (l:List UInt8)
 | nil | aB (e:E) (xs:List e.T) | own (tag:Nat)
 | op (tag off:Nat) | oe (tag sz i off:Nat)
 | fp (ds:List D) (off:Nat) | agg (ds:List D) | A9 (ds:List D) | kA
 | np (o:Option Nat) | nf (i off:Nat) | any | na (i:Nat) | Ap (z i j off:Nat) | DD (z i a b:Nat) | mT
 | mq (f:FuncId) (ds:List D) | mA | vR | vS (ds:List D) (tag:Nat)
 | mU (f:FuncId) (tag:Nat) (ds:List D) | err (b:Bool) | CN (tag:Nat) (b:Bool) | zQ (T:TypeId) (ds:List D) | xi (tag:Nat) (ds:List D) | vo (o:Option (Nat×Nat)) | gm (g:Nat)
 deriving Inhabited
def Fl.enc:(f:Fl)->f.T->D
 | .int k,n => .int k n
 | .bool,b => .bool b
 | .str,l => .str l
 | .np,o => .np o
 | .kA,_ => .kA
 | .nil,_ => .nil
 | .ints,xs => .aB .int xs
 | .strs,xs => .aB .str xs
 | .GS,xs => .aB .bool xs
 | .eV,xs => .aB .np xs
 | .ED,xs => .aB .nE xs
 | .nodes,xs => .aB .node xs
 | .GU,xs => .fp [.aB .np xs, .any, .any] 0
 | .I3,_ => .fp [.nil, .any, .any] 0
 | .mA,_ => .mA
 | .vR,_ => .vR
 | .any,_ => .any
 | .Uz f,xs => .mq f [.fp [.mA] 0, .fp [.aB .np xs] 0]
def oC:(f:Fl)->(fs:List Fl)->CT f fs->List D
 | f,[],x=>[f.enc x]
 | f,g::fs,x=>f.enc x.1::oC g fs x.2
def HN.enc (h:HN):List D:=[.np h.par, .np h.fst, .np h.aB, .np h.aY, .np h.aX, .int .u32 h.ty, .int .u32 h.atom, .str h.data, .str h.ns]
def E.enc:(e:E)->e.T->List D
 | .int,n=>[.int .i64 n]
 | .u8,c=>[.int .u8 (c.toNat:Int)]
 | .str,s=>[.str s]
 | .bool,b=>[.bool b]
 | .attr,a=>[.str a.key, .str a.val]
 | .node,n=>[.int .i64 n.kind, .str n.tag, .str n.text, .aB .attr n.attrs, .int .i64 n.size]
 | .QE,s=>[.int .i64 s.kind, .int .i64 s.op, .str s.key, .str s.val, .int .i64 s.a, .int .i64 s.b, .int .i64 s.flag, .int .i64 s.size]
 | .nE,a=>[.str a.ns, .str a.key, .str a.val]
 | .np,o=>[.np o]
 | .rc f fs k,x=>oC f fs x++List.replicate k .any
def D.plain:D->Bool
 | .int _ _=>true | .bool _=>true | .str _=>true | .nil=>true | .aB _ _=>true | .kA=>true | .fp _ _=>true | .np _=>true | .any=>true | .mT=>true | .mq _ _=>true | .mA=>true | .vR=>true | .err _=>true | .zQ _ _=>true | .gm _=>true
 | _=>false
def D.cell:D->Bool
 | .own _=>true | .op _ _=>true
 | d=>d.plain
def qH:D->Option (Option Nat)
 | .np o=>some o
 | .kA=>some none
 | _=>none
def lq (e e':E)(xs:List e.T):Option (List e'.T):=if h:e=e' then some (h ▸ xs) else none
def Aq (e:E):D->Option (List e.T)
 | .aB e' xs=>lq e' e xs
 | .nil=>some []
 | _=>none
def Fl.dec:(f:Fl)->D->Option f.T
 | .int k, .int k' n=>cond (decide (k'=k)) (some n) none
 | .bool, .bool b=>some b
 | .str, .str l=>some l
 | .np,d=>qH d
 | .kA, .kA=>some ()
 | .nil, .nil=>some ()
 | .ints,d=>Aq .int d
 | .strs,d=>Aq .str d
 | .GS,d=>Aq .bool d
 | .eV,d=>Aq .np d
 | .ED,d=>Aq .nE d
 | .nodes,d=>Aq .node d
 | .GU, .fp [d,a,b] 0=>cond (a.plain && b.plain) (Aq .np d) none
 | .I3, .fp [.nil,a,b] 0=>cond (a.plain && b.plain) (some ()) none
 | .mA, .mA=>some ()
 | .vR, .vR=>some ()
 | .any,d=>cond d.plain (some ()) none
 | .Uz f, .mq f' [.fp [.mA] 0, .fp [d] 0]=>cond (decide (f'=f)) (Aq .np d) none
 | _,_=>none
def rR:(f:Fl)->(fs:List Fl)->(k:Nat)->List D->Option (CT f fs)
 | f,[],k,d::ds=>cond (ds.length == k && ds.all D.plain) (f.dec d) none
 | f,g::fs,k,d::ds=>match f.dec d with
  | none=>none
  | some x=>match rR g fs k ds with
   | none=>none
   | some y=>some (x,y)
 | _,_,_,[]=>none
def HN.dec (CU:List cr):List D->Option HN
 | [a,b,c,d,e, .int .u32 t, .int .u32 m, .str da, .str n]=>(match qH a with
  | none=>none
  | some a=>match qH b with
   | none=>none
   | some b=>match qH c with
    | none=>none
    | some c=>match qH d with
     | none=>none
     | some d=>match qH e with
      | none=>none
      | some e=>some ⟨a,b,c,d,e,t,m,da,n,CU⟩)
 | _=>none
def uj:D->Option (List Attr)
 | .aB .attr xs=>some xs
 | .nil=>some []
 | _=>none
inductive Cl | h | k
 deriving DecidableEq
abbrev Cl.R:Cl->Type
 | .h=>HN | .k=>KN
def Cl.n:Cl->Nat
 | .h=>9 | .k=>7
abbrev Cl.e:Cl->E
 | .h => .nE | .k => .np
def Cl.xs:(c:Cl)->c.R->List c.e.T
 | .h,x=>x.attrs
 | .k,x=>x.kids
def HN.wa (x:HN)(xs:List cr):HN:=⟨x.par,x.fst,x.aB,x.aY,x.aX,x.ty,x.atom,x.data,x.ns,xs⟩
def KN.wk (x:KN)(xs:List (Option Nat)):KN:=⟨x.pl,x.n,x.up,xs,false⟩
def Cl.wx:(c:Cl)->c.R->List c.e.T->c.R
 | .h,x,xs=>x.wa xs
 | .k,x,xs=>x.wk xs
def Cl.fz:(c:Cl)->c.R->Bool
 | .h,_=>false
 | .k,x=>x.z
def KN.wz (x:KN)(b:Bool):KN:=⟨x.pl,x.n,x.up,x.kids,b⟩
def Cl.wz:(c:Cl)->c.R->Bool->c.R
 | .h,x,_=>x
 | .k,x,b=>x.wz b
def KN.enc (h:KN):List D:=[.int .i64 h.pl, .int .i64 h.n.kind, .str h.n.tag, .str h.n.text, .aB .attr h.n.attrs, .int .i64 h.n.size, .np h.up]
def Cl.enc:(c:Cl)->c.R->List D
 | .h,x=>x.enc
 | .k,x=>x.enc
def KN.dec (l:List (Option Nat)):List D->Option KN
 | [.int .i64 a, .int .i64 k, .str tg, .str tx,d, .int .i64 z,p]=>(match uj d with
  | none=>none
  | some CU=>match qH p with
   | none=>none
   | some o=>some ⟨a,⟨k,tg,tx,CU,z⟩,o,l,false⟩)
 | _=>none
def Cl.dec:(c:Cl)->List c.e.T->List D->Option c.R
 | .h,CU,ds=>HN.dec CU ds
 | .k,CU,ds=>KN.dec CU ds
def Cl.cast (c c':Cl)(hs:List c.R):Option (List c'.R):=if e:c=c' then some (e ▸ hs) else none
def zR (n:Int):Option UInt8:=if 0<=n/\n<256 then some (UInt8.ofNat n.toNat) else none
def E.dec:(e:E)->List D->Option e.T
 | .int,[.int .i64 n]=>some n
 | .u8,[.int .u8 n]=>zR n
 | .str,[.str s]=>some s
 | .bool,[.bool b]=>some b
 | .attr,[.str k, .str v]=>some ⟨k,v⟩
 | .node,[.int .i64 k, .str tg, .str tx,d, .int .i64 z]=>(uj d).bind λCU=>some ⟨k,tg,tx,CU,z⟩
 | .QE,[.int .i64 k, .int .i64 o, .str ke, .str v, .int .i64 a, .int .i64 b, .int .i64 f, .int .i64 z]=>some ⟨k,o,ke,v,a,b,f,z⟩
 | .nE,[.str n, .str k, .str v]=>some ⟨n,k,v⟩
 | .np,[d]=>qH d
 | .rc f fs k,ds=>rR f fs k ds
 | _,_=>none
def N8:(e:E)->List D->Option e.T
 | .u8,[.int .u8 0]=>some 0
 | e,ds=>e.dec ds
theorem LY {e:E}{ds:List D}{v:e.T}(h:N8 e ds=some v):e.dec ds=some v:=by
 unfold N8 at h
 split at h
 ·cases h;rfl
 ·exact h
inductive FX | fl (f:Fl) | own | self
abbrev FX.T:FX->Type
 | .fl f=>f.T | .own=>Unit | .self=>Bool
abbrev Re:List FX->Type
 | []=>Unit
 | [f]=>f.T
 | f::g::fs=>f.T×Re (g::fs)
def FX.enc (i j:Nat):(f:FX)->f.T->D
 | .fl f,x=>f.enc x
 | .own,_ => .own (j3 i j)
 | .self,b => .CN i b
def so (i:Nat):(j:Nat)->(fs:List FX)->Re fs->List D
 | _,[],_=>[]
 | j,[f],x=>[f.enc i j x]
 | j,f::g::fs,x=>f.enc i j x.1::so i (j+1) (g::fs) x.2
def FX.dec (t:Nat):(f:FX)->D->Option f.T
 | .fl f,d=>f.dec d
 | .own, .own _=>some ()
 | .own, .nil=>some ()
 | .self, .CN t' b=>cond (t' == t) (some b) none
 | .self, .op t' 0=>cond (t' == t) (some true) none
 | .self, .kA=>some false
 | _,_=>none
def um (t:Nat):(fs:List FX)->List D->Option (Re fs)
 | [],[]=>some ()
 | [f],[d]=>f.dec t d
 | f::g::fs,d::ds=>match f.dec t d with
  | none=>none
  | some x=>match um t (g::fs) ds with
   | none=>none
   | some y=>some (x,y)
 | _,_=>none
def FX.flat:FX->Bool
 | .fl f=>(match f with | .int _=>true | .bool=>true | .str=>true | .np=>true | .kA=>true | .nil=>true | _=>false)
 | _=>true
inductive OB
 | rows (e:E) (T:TypeId) (xs:List e.T)
 | cells (T:TypeId) (ds:List D)
 | nodes (c:Cl) (T A:TypeId) (hs:List c.R) (hole:Option Nat)
 | oD (c:Cl) (hs:List c.R)
 | mp (l:List (Option Nat×Bool))
 | ug (l:List UInt8) (pos:Nat)
structure St where
 n:Nat
 np:Nat
 nw:Bool
 sl:Nat->D
 ow:List (Nat×OB)
def St.look (s:St)(t:Nat):Option OB:=(s.ow.find? λp=>p.1 == t).map (·.2)
def St.set (s:St)(t:Nat)(d:D):St:={ s with sl:=λi=>cond (i == t) d (s.sl i) }
def D.bX (t:Nat):D->D
 | .own t'=>cond (t' == t) .u (.own t')
 | .op t' o=>cond (t' == t) .u (.op t' o)
 | .oe t' z i o=>cond (t' == t) .u (.oe t' z i o)
 | .na i=>cond (NT == t) .u (.na i)
 | .Ap z i j o=>cond (NT == t) .u (.Ap z i j o)
 | .DD z i a b=>cond (NT == t) .u (.DD z i a b)
 | .vS ds t'=>cond (t' == t) .u (.vS ds t')
 | .xi t' ds=>cond (t' == t) .u (.xi t' ds)
 | .mU f t' ds=>cond (t' == t) .u (.mU f t' ds)
 | .CN t' b=>cond (t' == t) .u (.CN t' b)
 | .vo o=>cond (NT == t) .u (.vo o)
 | d=>d
def D.au (t:Nat):D->D
 | .A9 ds => .A9 (ds.map (D.bX t))
 | d=>d.bX t
def D.jx (k:Bool)(t:Nat):D->D
 | .own t'=>cond (t' == t) (cond k .any .u) (.own t')
 | d=>d.bX t
def OB.UB:OB->Bool
 | .rows _ _ _=>true
 | _=>false
def OB.au (k:Bool)(t:Nat):OB->OB
 | .cells T ds => .cells T (ds.map (D.jx k t))
 | b=>b
def St.gone (s:St)(t:Nat):Bool:=match s.look t with
 | some b=>b.UB
 | none=>false
def St.au (s:St)(t:Nat):St:=⟨s.n,s.np,s.nw,λi=>(s.sl i).au t,(s.ow.filter λp=>!(p.1 == t)).map λp=>(p.1,p.2.au (s.gone t) t)⟩
def St.put (s:St)(d:Option Tmp)(x:D):Option St :=
 match d with
 | none=>some s
 | some t=>cond (Nat.blt t s.n) (some (s.set t x)) none
def St.make (s:St)(t:Nat)(b:OB):St:=⟨s.n,s.np,s.nw,s.sl,(t,b)::s.ow⟩
def St.dq (s:St)(t:Nat)(b:OB):St:=⟨s.n,s.np,s.nw,s.sl,s.ow.map λp=>cond (p.1 == t) (t,b) p⟩
inductive Sh | bool | int (k:IntKind) | str | slice (e:TypeId) | struct (fs:List (TypeId×Nat)) | ptr (e:TypeId) | map (k v:TypeId) | iface | func | other
def Sh.UC:Sh->Bool
 | .ptr _=>true | .str=>true | .struct _=>true | .int _=>true
 | _=>false
structure TI where
 sh:Sh
 size:Nat
 agg:Bool
 zv:Value
 bytes:Nat
 el:Option E
def tG:Value->D
 | .int k n => .int k n
 | .bool b => .bool b
 | .string s => .str s.data.toList
 | .slice none 0 0 => .nil
 | .pointer none => .kA
 | .map none => .mT
 | .nilIface => .mA
 | .nilFunc => .vR
 | _ => .u
abbrev UD:List E->Type
 | []=>Unit
 | [e]=>e.T
 | e::e'::es=>e.T×UD (e'::es)
def Ke:(es:List E)->UD es->List D
 | [],_=>[]
 | [e],x=>[.fp (e.enc x) 0]
 | e::e'::es,x => .fp (e.enc x.1) 0::Ke (e'::es) x.2
def o9:(es:List E)->List D->Option (UD es)
 | [],[]=>some ()
 | [e],[.fp ds 0]=>e.dec ds
 | e::e'::es, .fp ds 0::r=>match e.dec ds with
  | none=>none
  | some x=>match o9 (e'::es) r with
   | none=>none
   | some y=>some (x,y)
 | _,_=>none
inductive Kd | int (k:IntKind) | bool | str | aB (e:E) | el (e:E) | own (e:E)(T:TypeId) | lb (e:E)(T:TypeId) | np | any | mT | emp | fp (e:E) | ns (c:Cl)(T A:TypeId) | mz (c:Cl) | mq (f:FuncId)(es:List E) | N9 (k:IntKind)(n:Int) | mA | vR | al (j:Nat) | mp | ug | err | dA (T:TypeId)(fs:List FX) | dI (i0 j:Nat)(e:E)(T:TypeId) | CV (f:FuncId)(T:TypeId)(fs:List FX)(es:List E) | zQ (T:TypeId)(e:E) | QF | vo | N_
abbrev Kd.T:Kd->Type
 | .int _=>Int | .bool=>Bool | .str=>List UInt8 | .aB e=>List e.T | .el e=>e.T | .own e _=>List e.T | .lb e _=>e.T
 | .np=>Option Nat | .any=>Unit | .mT=>Unit | .emp=>Unit | .fp e=>e.T | .ns c _ _=>List c.R | .mz c=>List c.R | .mq _ es=>UD es | .N9 _ _=>Unit | .mA=>Unit | .vR=>Unit | .al _=>Unit | .mp=>List (Option Nat×Bool) | .ug=>List UInt8×Nat
 | .N_=>Unit | .zQ _ e=>e.T | .QF=>Nat | .vo=>Option (Nat×Nat) | .err=>Bool | .dA _ fs=>Re fs | .dI _ _ e _=>List e.T | .CV _ _ fs es=>Re fs×UD es
abbrev Pt:=List (Nat×Kd)
abbrev er:Pt->Type
 | []=>Unit
 | [p]=>p.2.T
 | p::q::ps=>p.2.T×er (q::ps)
abbrev rj:List Pt->Type
 | []=>Empty
 | [p]=>er p
 | p::q::ps=>er p ⊕ rj (q::ps)
structure vT where
 np:Nat
 lf:Pt
 bI:Pt
 m:er lf->Option (er bI)
inductive Xt | nm | ex (id:Nat) | rt | gt (l:Nat)
 deriving DecidableEq
structure mB where
 lf:Pt
 pT:List (Xt×Pt)
 m:er lf->Option (rj (pT.map (·.2)))
structure Cx where
 tb:List (Option TI)
 fns:FuncId->Option vT
 n_:Nat->Option (List (Bool×Nat))
 ID:List (TypeId×String×FuncId)
 LZ:List (TypeId×TypeId)
def bl {α:Type}(l:List α)(i:Int):Option α:=if 0<=i then l[i.toNat]? else none
def gn {α:Type}(l:List α)(lo hi:Int):Option (List α):=if 0<=lo/\lo<=hi/\hi<=l.length then some ((l.take hi.toNat).drop lo.toNat) else none
def mr (l m:List UInt8):Option (List UInt8):=if l.length+m.length<=9223372036854775807 then some (l++m) else none
def eC {α:Type}(l m:List α):Option (List α):=if l.length+m.length<=2147483648 then some (l++m) else none
def L3 (k:IntKind)(a b:Int):Option Int:=if b=0 then none else some (IntKind.wrap k (a.tdiv b))
def WU (a b:Int):Option Int:=if b=0 then none else some (a.tmod b)
def Oa (k:IntKind)(a b:Int):Option Int:=if b<0 then none else some (IntKind.wrap k (a*2 ^ min b.toNat k.bits))
def WV (k:IntKind)(a b:Int):Option Int:=if b<0 then none else some (a.fdiv (2 ^ min b.toNat k.bits))
def yX:List (Option Nat×Bool)->Option Nat->Bool
 | [],_=>false
 | (k,v)::l,o=>if o=k then v else yX l o
def yY:List (Option Nat×Bool)->Option Nat->Bool->List (Option Nat×Bool)
 | [],o,b=>[(o,b)]
 | (k,v)::l,o,b=>if o=k then (o,b)::l else (k,v)::yY l o b
def uo (l:List UInt8)(i:Nat):Nat×Nat:=Utf8.decode ⟨l.toArray⟩ i
def ZN (k:IntKind)(a b:Int):Int:=IntKind.wrap k (((a % 2 ^ k.bits).toNat &&& (b % 2 ^ k.bits).toNat:Nat):Int)
def orI (k:IntKind)(a b:Int):Int:=IntKind.wrap k (((a % 2 ^ k.bits).toNat ||| (b % 2 ^ k.bits).toNat:Nat):Int)
section
variable (C:Cx){R:Type}
def g (s:St):Operand->D
 | .tmp t=>s.sl t
 | .const v=>tG v
 | .func f => .mq f []
 | _ => .u
def ti (T:TypeId):Option TI:=(C.tb[T]?).join
def Ob (f:Nat)(n:String):Option (TypeId×String×FuncId):=C.ID.find? λq=>I4 q.1 == f && q.2.1 == n
def Tk (op:BinOp)(k:IntKind)(a b:Int)(K:D->Option R):Option R :=
 match op with
 | .add=>K (.int k (k.wrap (a+b)))
 | .sub=>K (.int k (k.wrap (a - b)))
 | .mul=>K (.int k (k.wrap (a*b)))
 | .eql=>K (.bool (decide (a=b)))
 | .neq=>K (.bool (decide (a≠b)))
 | .lss=>K (.bool (decide (a<b)))
 | .leq=>K (.bool (decide (a<=b)))
 | .gtr=>K (.bool (decide (b<a)))
 | .geq=>K (.bool (decide (b<=a)))
 | .and=>K (.int k (ZN k a b))
 | .or=>K (.int k (orI k a b))
 | .quo=>(L3 k a b).bind λn=>K (.int k n)
 | .rem=>(WU a b).bind λn=>K (.int k n)
 | _=>none
def vU (op:BinOp)(b:Bool)(K:D->Option R):Option R :=
 match op with
 | .eql=>K (.bool b)
 | .neq=>K (.bool (!b))
 | _=>none
def D.parts:D->List D
 | .agg ds=>ds
 | _=>[]
def Oc (op:BinOp)(T:TypeId)(x y:D)(K:D->Option R):Option R :=
 match x with
 | .int k a=>(match y with
  | .int k' b=>(match op with
   | .shl=>(Oa k a b).bind λn=>K (.int k n)
   | .shr=>(WV k a b).bind λn=>K (.int k n)
   | op=>cond (decide (k=k')) (Tk op k a b K) none)
  | _=>none)
 | .str l=>(match y with
  | .str m=>(match op with
   | .eql=>K (.bool (decide (l=m)))
   | .neq=>K (.bool (decide (l≠m)))
   | .add=>(mr l m).bind λr=>K (.str r)
   | _=>none)
  | _=>none)
 | .bool a=>(match y with
  | .bool b=>(match ti C T with
   | some ⟨.bool,_,_,_,_,_⟩=>vU op (a == b) K
   | _=>none)
  | _=>none)
 | .np o=>(match ti C T with
  | some ⟨.ptr e,_,_,_,_,_⟩=>(match ti C e with
   | some te=>cond (Nat.blt 0 te.size) (match y with
    | .np o'=>vU op (decide (o=o')) K
    | .kA=>vU op o.isNone K
    | _=>none) none
   | none=>none)
  | _=>none)
 | .fp _ _=>(match ti C T with
  | some ⟨.ptr _,_,_,_,_,_⟩=>(match y with
   | .kA=>vU op false K
   | _=>none)
  | _=>none)
 | .vo o=>(match ti C T with
  | some ⟨.ptr _,_,_,_,_,_⟩=>(match y with
   | .kA=>vU op o.isNone K
   | _=>none)
  | _=>none)
 | .Ap _ _ _ _=>(match ti C T with
  | some ⟨.ptr _,_,_,_,_,_⟩=>(match y with
   | .kA=>vU op false K
   | _=>none)
  | _=>none)
 | .op _ _=>(match ti C T with
  | some ⟨.ptr _,_,_,_,_,_⟩=>(match y with
   | .kA=>vU op false K
   | _=>none)
  | _=>none)
 | .CN t b=>(match ti C T with
  | some ⟨.ptr e,_,_,_,_,_⟩=>(match y with
   | .kA=>vU op (!b) K
   | .op t' 0=>(match ti C e with
    | some te=>cond (Nat.blt 0 te.size && t' == t) (vU op b K) none
    | none=>none)
   | _=>none)
  | _=>none)
 | .kA=>(match ti C T with
  | some ⟨.ptr _,_,_,_,_,_⟩=>(match y with
   | .np o'=>vU op o'.isNone K
   | .kA=>vU op true K
   | _=>none)
  | _=>none)
 | .mT=>(match ti C T with
  | some ⟨.map _ _,_,_,_,_,_⟩=>(match y with
   | .mT=>vU op true K
   | _=>none)
  | _=>none)
 | _=>none
def D.xj (y:D)(t:Nat)(d:D):D :=
 match y with
 | .own t'=>cond (t' == t) d (.own t')
 | .op t' o=>cond (t' == t) (match d with
  | .fp ds _ => .fp ds o
  | _ => .u) (.op t' o)
 | .oe t' z i o=>cond (t' == t) .u (.oe t' z i o)
 | .na i=>cond (NT == t) .u (.na i)
 | .Ap z i j o=>cond (NT == t) .u (.Ap z i j o)
 | .DD z i a b=>cond (NT == t) .u (.DD z i a b)
 | .vS ds t'=>cond (t' == t) .u (.vS ds t')
 | .xi t' ds=>cond (t' == t) .u (.xi t' ds)
 | .mU f t' ds=>cond (t' == t) .u (.mU f t' ds)
 | .CN t' b=>cond (t' == t) .u (.CN t' b)
 | .vo o=>cond (NT == t) .u (.vo o)
 | x=>x
def D.tH (y:D)(t:Nat)(d:D):D :=
 match y with
 | .A9 ds => .A9 (ds.map (λx=>x.xj t d))
 | x=>x.xj t d
def OB.tH (t:Nat)(d:D):OB->OB
 | .cells T ds => .cells T (ds.map (λx=>x.xj t d))
 | b=>b
def St.freeze (s:St)(t:Nat)(d:D):St:=⟨s.n,s.np,s.nw,λi=>(s.sl i).tH t d,(s.ow.filter λp=>!(p.1 == t)).map λp=>(p.1,OB.tH t d p.2)⟩
def St.nodes (s:St):Option (Bool×(Σ c:Cl,List c.R)) :=
 match s.look gZ with
 | some (.oD c hs)=>some (false,⟨c,hs⟩)
 | _=>match s.look NT with
  | some (.nodes c _ _ hs _)=>some (true,⟨c,hs⟩)
  | _=>none
def Wb (s:St)(i:Nat)(e:E):Option (List e.T) :=
 match s.look NT with
 | some (.nodes c _ _ hs none)=>(match hs[i]? with
  | some h=>lq c.e e (c.xs h)
  | none=>none)
 | _=>none
def rA (ds:List D)(off:Nat)(i:TI)(K:D->Option R):Option R :=
 cond i.agg
  (cond (Nat.ble (off+i.size) ds.length && ((ds.drop off).take i.size).all D.plain) (K (.agg ((ds.drop off).take i.size))) none)
  (match ds[off]? with
   | some d=>K d
   | none=>none)
def Kf (s:St)(d:D):Bool:=d.plain || (match d with
 | .CN _ _=>true
 | .own t=>(match s.look t with
  | some (.rows _ _ _)=>true
  | _=>false)
 | _=>false)
def Bw (fs:List (TypeId×Nat))(C:Cx)(s:St):List (Nat×D)->List D->Option (List D)
 | [],z=>some z
 | (i,d)::r,z=>match fs[i]? with
  | none=>none
  | some (ft,fo)=>match (C.tb[ft]?).join with
   | none=>none
   | some t=>match d with
    | .agg l=>cond (l.length == t.size && Nat.ble (fo+t.size) z.length && l.all D.plain) (Bw fs C s r (z.take fo++l++z.drop (fo+t.size))) none
    | d=>cond (t.size == 1 && Nat.blt fo z.length && Kf s d) (Bw fs C s r (z.set fo d)) none
def UE (s:St)(b:Builtin)(xs:List Operand)(ts:List TypeId)(K:D->Option R):Option R :=
 match b with
 | .len=>(match xs with
  | [x]=>(match ts with
   | [T]=>(match ti C T with
    | some ⟨.str,_,_,_,_,_⟩=>(match g s x with
     | .str l=>K (.int .i64 (l.length:Int))
     | _=>none)
    | some ⟨.slice _,_,_,_,_,_⟩=>(match g s x with
     | .aB _ xs=>K (.int .i64 (xs.length:Int))
     | .nil=>K (.int .i64 0)
     | .own t=>(match s.look t with
      | some (.rows _ _ xs)=>K (.int .i64 (xs.length:Int))
      | _=>none)
     | .na i=>(match s.look NT with
      | some (.nodes c _ _ hs none)=>(hs[i]?).bind λh=>K (.int .i64 ((c.xs h).length:Int))
      | _=>none)
     | _=>none)
    | _=>none)
   | _=>none)
  | _=>none)
 | .min=>(match xs with
  | [x,y]=>(match g s x with
   | .int k a=>(match g s y with
    | .int k' b=>cond (decide (k=k')) (K (.int k (if b<a then b else a))) none
    | _=>none)
   | _=>none)
  | _=>none)
 | .max=>(match xs with
  | [x,y]=>(match g s x with
   | .int k a=>(match g s y with
    | .int k' b=>cond (decide (k=k')) (K (.int k (if a<b then b else a))) none
    | _=>none)
   | _=>none)
  | _=>none)
 | _=>none
def nF (s:St)(o:Op)(K:D->Option R):Option R :=
 match o with
 | .move x=>K (g s x)
 | .assign x=>K (g s x)
 | .pick c x y=>(match g s c with
  | .bool b=>cond b (K (g s x)) (K (g s y))
  | _=>none)
 | .binOp op T x y _=>(match y with
  | .const (.map none)=>(match ti C T with
   | some ⟨.map _ _,_,_,_,_,_⟩=>(match g s x with
    | .mT=>vU op true K
    | .own t=>(match s.look t with
     | some (.mp _)=>vU op false K
     | _=>none)
    | _=>none)
   | _=>none)
  | _=>Oc C op T (g s x) (g s y) K)
 | .unOp .not _ x=>(match g s x with
  | .bool b=>K (.bool (!b))
  | _=>none)
 | .extract x i=>(match g s x with
  | .A9 l=>(match l[i]? with
   | some d=>K d
   | none=>none)
  | _=>none)
 | .index T x y=>(match ti C T with
  | some ⟨.str,_,_,_,_,_⟩=>(match g s x with
   | .str l=>(match g s y with
    | .int _ i=>(bl l i).bind λc=>K (.int .u8 (c.toNat:Int))
    | _=>none)
   | _=>none)
  | _=>none)
 | .indexAddr T x y=>(match ti C T with
  | some ⟨.slice et,_,_,_,_,_⟩=>(match ti C et with
   | some te=>(match g s y with
    | .int _ i=>(match g s x with
     | .aB e xs=>cond (te.size == e.sz) ((bl xs i).bind λv=>K (.fp (e.enc v) 0)) none
     | .own t=>(match s.look t with
      | some (.rows e _ xs)=>cond (te.size == e.sz) ((bl xs i).bind λ_=>K (.oe t e.sz i.toNat 0)) none
      | _=>none)
     | .na j=>(match s.look NT with
      | some (.nodes c _ _ hs none)=>cond (te.size == c.e.sz) ((hs[j]?).bind λh=>(bl (c.xs h) i).bind λ_=>K (.Ap c.e.sz j i.toNat 0)) none
      | _=>none)
     | _=>none)
    | _=>none)
   | none=>none)
  | _=>none)
 | .fieldAddr T x i=>(match ti C T with
  | some ⟨.struct fs,_,_,_,_,_⟩=>(match fs[i]? with
   | some (ft,fo)=>(match ti C ft with
    | some t=>cond (Nat.blt 0 t.size) (match g s x with
     | .fp ds off=>K (.fp ds (off+fo))
     | .op t off=>K (.op t (off+fo))
     | .oe t z j off=>K (.oe t z j (off+fo))
     | .np o=>o.bind λi=>K (.nf i fo)
     | .Ap z i j off=>K (.Ap z i j (off+fo))
     | .nf i off=>K (.nf i (off+fo))
     | _=>none) none
    | none=>none)
   | none=>none)
  | _=>none)
 | .load T x=>(match ti C T with
  | some t=>(match g s x with
   | .fp ds off=>rA ds off t K
   | .op b off=>(match s.look b with
    | some (.cells _ ds)=>rA ds off t K
    | _=>none)
   | .oe b z i off=>(match s.look b with
    | some (.rows e _ xs)=>cond (z == e.sz) ((xs[i]?).bind λv=>rA (e.enc v) off t K) none
    | _=>none)
   | .nf i off=>(match s.nodes with
    | some (own,⟨c,hs⟩)=>cond (off == c.n) (cond t.agg none ((hs[i]?).bind λh=>cond own (K (.na i)) (K (.aB c.e (c.xs h))))) ((hs[i]?).bind λh=>rA (c.enc h) off t K)
    | none=>none)
   | .Ap z i j off=>(match s.look NT with
    | some (.nodes c _ _ hs none)=>cond (z == c.e.sz) ((hs[i]?).bind λh=>((c.xs h)[j]?).bind λa=>rA (c.e.enc a) off t K) none
    | _=>none)
   | _=>none)
  | none=>none)
 | .nilCheck x=>(match g s x with
  | .fp ds off=>K (.fp ds off)
  | .op t off=>K (.op t off)
  | .np o=>o.bind λi=>K (.np (some i))
  | .Ap z i j off=>K (.Ap z i j off)
  | .vo o=>o.bind λq=>K (.Ap 3 q.1 q.2 0)
  | .nf i off=>K (.nf i off)
  | .oe t z i off=>K (.oe t z i off)
  | _=>none)
 | .build T parts=>(match ti C T with
  | some ⟨.struct fs,_,_,z,_,_⟩=>cond (fs.all λf=>(C.tb[f.1]?).join.isSome) (match Bw fs C s (parts.toList.map λp=>(p.1,g s p.2)) (z.cells.toList.map tG) with
   | some ds=>cond (ds.all D.plain) (K (.agg ds)) (match ds.drop 9 with
    | [.own t]=>cond ((ds.take 9).all D.plain) (K (.vS (ds.take 9) t)) none
    | _=>(match ds with
     | .own t::rest=>cond (rest.all D.plain) (K (.xi t rest)) none
     | _=>none))
   | none=>none) none
  | _=>none)
 | .slice T x lo hi .none=>(match ti C T with
  | some ⟨.str,_,_,_,_,_⟩=>(match g s x with
   | .str l=>(match (match lo with | none=>D.int .i64 0 | some y=>g s y) with
    | .int _ a=>(match (match hi with | none=>D.int .i64 (l.length:Int) | some y=>g s y) with
     | .int _ b=>(gn l a b).bind λm=>K (.str m)
     | _=>none)
    | _=>none)
   | _=>none)
  | some ⟨.slice et,_,_,_,_,_⟩=>(match ti C et with
   | some te=>(match g s x with
    | .aB e xs=>cond (te.size == e.sz) (match (match lo with | none=>D.int .i64 0 | some y=>g s y) with
     | .int _ a=>(match (match hi with | none=>D.int .i64 (xs.length:Int) | some y=>g s y) with
      | .int _ b=>(gn xs a b).bind λm=>K (.aB e m)
      | _=>none)
     | _=>none) none
    | .na j=>(match s.look NT with
     | some (.nodes c _ _ hs none)=>cond (te.size == c.e.sz) ((hs[j]?).bind λn=>(match (match lo with | none=>D.int .i64 0 | some y=>g s y) with
      | .int _ a=>(match (match hi with | none=>D.int .i64 ((c.xs n).length:Int) | some y=>g s y) with
       | .int _ b=>(gn (c.xs n) a b).bind λ_=>K (.DD c.e.sz j a.toNat b.toNat)
       | _=>none)
      | _=>none)) none
     | _=>none)
    | _=>none)
   | none=>none)
  | _=>none)
 | .convert S T x=>(match ti C S with
  | some ⟨.int _,_,_,_,_,_⟩=>(match ti C T with
   | some ⟨.int k,_,_,_,_,_⟩=>(match g s x with
    | .int _ a=>K (.int k (k.wrap a))
    | _=>none)
   | _=>none)
  | some ⟨.slice et,_,_,_,_,_⟩=>(match ti C et with
   | some ⟨.int .u8,1,_,_,_,_⟩=>(match ti C T with
    | some ⟨.str,_,_,_,_,_⟩=>(match g s x with
     | .nil=>K (.str [])
     | .aB e xs=>(lq e .u8 xs).bind λxs=>K (.str xs)
     | .own t=>(match s.look t with
      | some (.rows e _ xs)=>(lq e .u8 xs).bind λxs=>K (.str xs)
      | _=>none)
     | _=>none)
    | _=>none)
   | _=>none)
  | _=>none)
 | .lookup T x y false=>(match ti C T with
  | some ⟨.map kt vt,_,_,_,_,_⟩=>(match ti C kt with
   | some ⟨.ptr e,_,_,_,_,_⟩=>(match ti C e with
    | some te=>cond (Nat.blt 0 te.size) (match ti C vt with
     | some ⟨.bool,_,_, .bool false,_,_⟩=>(match qH (g s y) with
      | some o=>(match g s x with
       | .mT=>K (.bool false)
       | .own t=>(match s.look t with
        | some (.mp l)=>K (.bool (yX l o))
        | _=>none)
       | _=>none)
      | none=>none)
     | _=>none) none
    | none=>none)
   | _=>none)
  | _=>none)
 | .makeFunc (.func f) fs cs=>cond fs.isEmpty (match cs.toList.map (g s) with
  | .op t 0::ds=>cond (ds.all D.plain && Nat.blt f 1000000) (K (.mU f t ds)) none
  | ds=>cond (ds.all D.plain) (K (.mq f ds)) none) none
 | .makeInterface T x=>(match ti C T with
  | some t=>cond t.sh.UC (match g s x with
   | .agg l=>cond (l.all D.plain) (K (.zQ T l)) (K (.err true))
   | .op b 0=>cond (C.ID.any λq=>q.1 == T) (K (.mU (I4 T) b [])) (K (.err true))
   | _=>K (.err true)) none
  | none=>none)
 | .call c=>(match c.callee with
  | .builtin b=>UE C s b c.args.toList c.argTypes.toList K
  | _=>none)
 | _=>none
end
section
variable (C:Cx){R:Type}
def yZ (s:St)(d:D)(e:E):Option (List e.T) :=
 match d with
 | .nil=>some []
 | .aB e' xs=>lq e' e xs
 | .own t=>match s.look t with
  | some (.rows e' _ xs)=>lq e' e xs
  | _=>none
 | .na i=>Wb s i e
 | .DD z i a b=>cond (z == e.sz) (match Wb s i e with
  | some xs=>some ((xs.take b).drop a)
  | none=>none) none
 | _=>none
def DE (s:St)(d:D)(e:E)(k:List e.T->Option R):Option R :=
 match d with
 | .na i=>(match s.look NT with
  | some (.nodes c _ _ hs none)=>(hs[i]?).bind λh=>(match lq c.e e (c.xs h) with
   | some xs=>k xs
   | none=>none)
  | _=>none)
 | .DD z i a b=>cond (z == e.sz) (match s.look NT with
  | some (.nodes c _ _ hs none)=>(hs[i]?).bind λh=>(match lq c.e e (c.xs h) with
   | some xs=>k ((xs.take b).drop a)
   | none=>none)
  | _=>none) none
 | d=>(match yZ s d e with
  | some xs=>k xs
  | none=>none)
def cellsOf (s:St)(d:D):Option (List D) :=
 match d with
 | .agg l=>cond (l.all D.plain) (some l) none
 | .op t o=>some [.op t o]
 | .CN t b=>some [.CN t b]
 | .own t=>(match s.look t with
  | some (.rows _ _ _)=>some [.own t]
  | _=>none)
 | .xi t l=>(match s.look t with
  | some (.rows _ _ _)=>cond (l.all D.plain) (some (.own t::l)) none
  | _=>none)
 | d=>cond d.plain (some [d]) none
def Od:(e:E)->List D->(e.T->Option R)->Option R
 | .u8,[.int .u8 n],k=>(zR n).bind λv=>k v
 | e,ds,k=>match e.dec ds with
  | some v=>k v
  | none=>none
def y6 (e:E):List (List D)->Option (List e.T)
 | []=>some []
 | r::rs=>match e.dec r with
  | none=>none
  | some x=>match y6 e rs with
   | none=>none
   | some xs=>some (x::xs)
def A_ (e:E):List (List D)->(List e.T->Option R)->Option R
 | [],k=>k []
 | r::rs,k=>Od e r λx=>A_ e rs λxs=>k (x::xs)
def xW (sy s:St)(d:Tmp)(x y:Operand)(S X:TypeId)(K:D->St->Option R):Option R :=
 match ti C S with
 | some ⟨.slice et,_,_,_,_,_⟩=>(match ti C X with
  | some ⟨.slice _,_,_,_,_,_⟩=>(match ti C et with
   | some ⟨_,sz,_,_,bytes,some e⟩=>cond (sz == e.sz && Nat.ble (sz*(bytes+1)) 32768) (match g s x with
    | .own tx=>(match s.look tx with
     | some (.rows e' T xs)=>(match lq e' e xs with
      | some xs=>let s1:=s.au tx
       DE (sy.au tx) (g (sy.au tx) y) e λys=>cond (T == et) ((eC xs ys).bind λr=>K (.own d) ((s1.au d).make d (.rows e et r))) none
      | none=>none)
     | _=>none)
    | .nil=>DE sy (g sy y) e λys=>(eC [] ys).bind λr=>K (.own d) ((s.au d).make d (.rows e et r))
    | .na i=>(match s.look NT with
     | some (.nodes c T A hs none)=>let s1:=s.au NT
      DE (sy.au NT) (g (sy.au NT) y) c.e λys=>cond (A == et && decide (e=c.e) && Nat.ble (s.np % 1000) NT && !(d == NT)) ((hs[i]?).bind λh=>cond (c.fz h) none ((eC (c.xs h) ys).bind λr=>K (.own d) (((s1.make NT (.nodes c T A hs (some i))).au d).make d (.rows c.e et r)))) none
     | _=>none)
    | _=>none) none
   | _=>none)
  | _=>none)
 | _=>none
def y7 (s:St)(d:Tmp)(x y:Operand)(S:TypeId)(K:D->St->Option R):Option R :=
 match ti C S with
 | some ⟨.slice et,_,_,_,_,_⟩=>(match ti C et with
  | some ⟨_,1,_,_,bytes,some .u8⟩=>cond (Nat.ble (bytes+1) 32768) (match g s y with
   | .str ys=>(match g s x with
    | .own tx=>(match s.look tx with
     | some (.rows e' T xs)=>(match lq e' .u8 xs with
      | some xs=>cond (T == et) ((eC xs ys).bind λr=>K (.own d) (((s.au tx).au d).make d (.rows .u8 et r))) none
      | none=>none)
     | _=>none)
    | .nil=>(eC [] ys).bind λr=>K (.own d) ((s.au d).make d (.rows .u8 et r))
    | _=>none)
   | _=>none) none
  | _=>none)
 | _=>none
def I5 (s:St)(x y:Operand)(S:TypeId)(K:D->St->Option R):Option R :=
 match ti C S with
 | some ⟨.slice et,_,_,_,_,_⟩=>(match ti C et with
  | some te=>(match g s x with
   | .na j=>(match s.look NT with
    | some (.nodes c T A hs none)=>cond (te.size == c.e.sz && A == et) ((hs[j]?).bind λh=>cond (c.fz h) none (DE s (g s y) c.e λys=>K (.int .i64 ((min ys.length (c.xs h).length:Nat):Int)) (s.dq NT (.nodes c T A (hs.set j (c.wx h (ys.take (min ys.length (c.xs h).length)++(c.xs h).drop (min ys.length (c.xs h).length)))) none)))) none
    | _=>none)
   | _=>none)
  | none=>none)
 | _=>none
def DF (s:St)(d:Tmp)(T:TypeId)(x:Operand)(K:D->St->Option R):Option R :=
 let s':=s.au d
 match cellsOf s' (g s' x) with
  | some ds=>K (.op d 0) (s'.make d (.cells T ds))
  | none=>none
def UF (s:St)(i off:Nat)(d:D)(K:D->St->Option R):Option R :=
 match s.look NT with
 | some (.nodes c TN A hs hole)=>cond (Nat.blt off c.n) (cond d.plain ((hs[i]?).bind λh=>match c.dec (c.xs h) ((c.enc h).set off d) with
   | some h'=>K .fA (s.dq NT (.nodes c TN A (hs.set i (c.wz h' (c.fz h))) hole))
   | none=>none) none)
  (cond (off == c.n) (match d with
   | .own t=>(match s.look t with
    | some (.rows e T xs)=>(match lq e c.e xs with
     | some xs=>cond (T == A && !(t == NT) && Nat.ble (s.np % 1000) NT) ((hs[i]?).bind λh=>(match hole with
      | none=>K .fA (((s.au t).au NT).make NT (.nodes c TN A (hs.set i (c.wx h xs)) none))
      | some j=>cond (decide (j=i)) (K .fA (((s.au t).au NT).make NT (.nodes c TN A (hs.set i (c.wx h xs)) none))) none)) none
     | none=>none)
    | _=>none)
   | .DD z i' 0 b=>cond (z == c.e.sz && hole.isNone && Nat.ble (s.np % 1000) NT) (cond (decide (i'=i)) ((hs[i]?).bind λh=>cond (c.fz h) none (K .fA ((s.au NT).make NT (.nodes c TN A (hs.set i (c.wx h ((c.xs h).take b))) none)))) none) none
   | _=>none) none)
 | _=>none
def Oe (s:St)(t:TI)(z i j off:Nat)(d:D)(K:D->St->Option R):Option R :=
 match s.look NT with
 | some (.nodes c TN A hs none)=>(match cellsOf s d with
  | some l=>cond (z == c.e.sz && l.length == t.size && Nat.ble (off+t.size) c.e.sz && l.all D.plain) ((hs[i]?).bind λh=>cond (c.fz h) none (((c.xs h)[j]?).bind λv=>Od c.e ((c.e.enc v).take off++l++(c.e.enc v).drop (off+t.size)) λv'=>K .fA (s.dq NT (.nodes c TN A (hs.set i (c.wx h ((c.xs h).set j v'))) none)))) none
  | none=>none)
 | _=>none
def o_ (s:St)(d:Tmp)(o:Op)(K:D->St->Option R):Option R :=
 match o with
 | .alloc T=>(match ti C T with
  | some t=>let s':=s.au d
   K (.op d 0) (s'.make d (.cells T (t.zv.cells.toList.map tG)))
  | none=>none)
 | .box T x=>(match s.look NT with
  | some (.nodes c TN A hs hole)=>cond (T == TN) (match g s x with
    | .agg l=>(match l.drop c.n with
     | [.nil]=>(match c.dec [] (l.take c.n) with
      | some h=>cond (s.nw && Nat.ble (s.np % 1000) NT && !(T == uT)) (K (.np (some hs.length)) ((s.au NT).make NT (.nodes c TN A (hs++[h]) hole))) none
      | none=>none)
     | _=>none)
    | .vS l t=>(match s.look t with
     | some (.rows e A' xs)=>(match lq e c.e xs with
      | some xs=>(match c.dec xs l with
       | some h=>cond (s.nw && Nat.ble (s.np % 1000) NT && A' == A && !(t == NT) && hole.isNone && !(T == uT)) (K (.np (some hs.length)) (((s.au t).au NT).make NT (.nodes c TN A (hs++[h]) hole))) none
       | none=>none)
      | none=>none)
     | _=>none)
    | _=>none) (DF s d T x K)
  | _=>DF s d T x K)
 | .store T x y=>(match ti C T with
  | some t=>(match g s x with
   | .op b off=>(match s.look b with
    | some (.cells T0 ds)=>(match cellsOf s (g s y) with
     | some l=>cond (l.length == t.size && Nat.ble (off+t.size) ds.length) (K .fA (s.dq b (.cells T0 (ds.take off++l++ds.drop (off+t.size))))) none
     | none=>none)
    | _=>none)
   | .oe b z i off=>(match s.look b with
    | some (.rows e T0 xs)=>(match cellsOf s (g s y) with
     | some l=>cond (z == e.sz && l.length == t.size && Nat.ble (off+t.size) e.sz && l.all D.plain) ((xs[i]?).bind λv=>Od e ((e.enc v).take off++l++(e.enc v).drop (off+t.size)) λv'=>K .fA (s.dq b (.rows e T0 (xs.set i v')))) none
     | none=>none)
    | _=>none)
   | .nf i off=>cond (t.size == 1 && !t.agg) (UF s i off (g s y) K) none
   | .Ap z i j off=>Oe s t z i j off (g s y) K
   | _=>none)
  | none=>none)
 | .buildSlice T n parts=>(match ti C T with
  | some ⟨.slice et,_,_,_,_,_⟩=>(match ti C et with
   | some ⟨_,sz,_,_,_,some e⟩=>let s':=s.au d
    (match (parts.toList.map λp=>g s' p.2).mapM (cellsOf s') with
    | some rows=>A_ e rows λxs=>cond (sz == e.sz && (parts.toList.map (·.1) == List.range n) && rows.all (·.all D.plain) && Nat.ble (n*sz) 16777216) (K (.own d) (s'.make d (.rows e et xs))) none
    | none=>none)
   | _=>none)
  | _=>none)
 | .makeSlice T x y=>(match ti C T with
  | some ⟨.slice et,_,_,_,_,_⟩=>(match ti C et with
   | some ⟨_,sz,_,z,bytes,some e⟩=>(match g s x with
    | .int .i64 a=>(match g s y with
     | .int .i64 b=>(match N8 e (z.cells.toList.map tG) with
      | some v=>let s':=s.au d
       cond (sz == e.sz && Nat.ble bytes 300 && decide (a<=b/\0<=a/\b<=1048576)) (K (.own d) (s'.make d (.rows e et (List.replicate a.toNat v)))) none
      | none=>none)
     | _=>none)
    | _=>none)
   | _=>none)
  | _=>none)
 | .call c=>(match c.callee with
  | .builtin .append=>(match c.args.toList with
   | [x,y]=>(match c.argTypes.toList with
    | [S,X]=>(match ti C X with
     | some ⟨.str,_,_,_,_,_⟩=>y7 C s d x y S K
     | _=>xW C s s d x y S X K)
    | _=>none)
   | _=>none)
  | .builtin .copy=>(match c.args.toList with
   | [x,y]=>(match c.argTypes.toList with
    | S::_=>I5 C s x y S K
    | _=>none)
   | _=>none)
  | _=>none)
 | .convert S T x=>(match ti C S with
  | some ⟨.str,_,_,_,_,_⟩=>(match ti C T with
   | some ⟨.slice et,_,_,_,_,_⟩=>(match ti C et with
    | some ⟨.int .u8,1,_,_,_,_⟩=>(match g s x with
     | .str l=>K (.own d) ((s.au d).make d (.rows .u8 et l))
     | _=>none)
    | _=>none)
   | _=>none)
  | _=>none)
 | .range T x=>(match ti C T with
  | some ⟨.str,_,_,_,_,_⟩=>(match g s x with
   | .str l=>K (.op d 0) ((s.au d).make d (.ug l 0))
   | _=>none)
  | _=>none)
 | .next x true=>(match g s x with
  | .op t 0=>(match s.look t with
   | some (.ug l pos)=>cond (decide (pos<l.length)) (K (.A9 [.bool true, .int .i64 (pos:Int), .int .i32 ((uo l pos).1:Int)]) (s.dq t (.ug l (pos+(uo l pos).2)))) (K (.A9 [.bool false]) s)
   | _=>none)
  | _=>none)
 | .makeMap T r=>(match ti C T with
  | some ⟨.map _ _,_,_,_,_,_⟩=>(match (match r with | none=>D.int .i64 0 | some y=>g s y) with
   | .int _ _=>K (.own d) ((s.au d).make d (.mp []))
   | _=>none)
  | _=>none)
 | .mapUpdate T x y z=>(match ti C T with
  | some ⟨.map kt _,_,_,_,_,_⟩=>(match ti C kt with
   | some ⟨.ptr e,_,_,_,_,_⟩=>(match ti C e with
    | some te=>cond (Nat.blt 0 te.size) (match qH (g s y) with
     | some o=>(match g s z with
      | .bool b=>(match g s x with
       | .own t=>(match s.look t with
        | some (.mp l)=>K .fA (s.dq t (.mp (yY l o b)))
        | _=>none)
       | _=>none)
      | _=>none)
     | none=>none) none
    | none=>none)
   | _=>none)
  | _=>none)
 | _=>none
def a7 (i:Nat):(k:Kd)->k.T->D×List (Nat×OB)
 | .int k,n=>(.int k n,[])
 | .bool,b=>(.bool b,[])
 | .str,l=>(.str l,[])
 | .aB e,xs=>(.aB e xs,[])
 | .el e,x=>(.agg (e.enc x),[])
 | .own e T,xs=>(.own i,[(i, .rows e T xs)])
 | .lb e T,x=>(.op i 0,[(i, .cells T (e.enc x))])
 | .np,o=>(.np o,[])
 | .any,_=>(.any,[])
 | .mT,_=>(.mT,[])
 | .N_,_=>(.nil,[])
 | .emp,_=>(.agg [],[])
 | .fp e,x=>(.fp (e.enc x) 0,[])
 | .mq f es,x=>(.mq f (Ke es x),[])
 | .N9 k n,_=>(.int k n,[])
 | .mA,_=>(.mA,[])
 | .vR,_=>(.vR,[])
 | .al j,_=>(.own j,[])
 | .QF,j=>(.na j,[])
 | .vo,o=>(.vo o,[])
 | .mp,l=>(.own i,[(i, .mp l)])
 | .ug,x=>(.op i 0,[(i, .ug x.1 x.2)])
 | .err,b=>(.err b,[])
 | .zQ T e,x=>(.zQ T (e.enc x),[])
 | .dA T fs,x=>(.op i 0,[(i, .cells T (so i 0 fs x))])
 | .dI _ _ e T,xs=>(.u,[(i, .rows e T xs)])
 | .CV f T fs es,x=>(.mU f i (Ke es x.2),[(i, .cells T (so i 0 fs x.1))])
 | .ns c T A,hs=>(.u,[(i, .nodes c T A hs none)])
 | .mz c,hs=>(.u,[(i, .oD c hs)])
def Of:(p:Pt)->er p->Nat->D
 | [],_,_ => .u
 | [p],x,i=>cond (i == p.1) (a7 p.1 p.2 x).1 .u
 | p::q::ps,x,i=>cond (i == p.1) (a7 p.1 p.2 x.1).1 (Of (q::ps) x.2 i)
def jb:(p:Pt)->er p->List (Nat×OB)
 | [],_=>[]
 | [p],x=>(a7 p.1 p.2 x).2
 | p::q::ps,x=>(a7 p.1 p.2 x.1).2++jb (q::ps) x.2
def xk (np i:Nat):Bool:=Nat.ble (np % 1000) i || Nat.blt i (np / 1000)
def Nq (n np:Nat)(nw:Bool)(p:Pt)(x:er p):St:=⟨n,np,nw,Of p x,jb p x⟩
def CW (s:St)(i0 j:Nat):D :=
 match s.sl i0 with
 | .op t 0=>(match s.look t with
  | some (.cells _ ds)=>ds.getD j .u
  | _ => .u)
 | .mU _ t _=>(match s.look t with
  | some (.cells _ ds)=>ds.getD j .u
  | _ => .u)
 | _ => .u
def qc (s:St)(lax:Bool)(i:Nat):(k:Kd)->Option k.T
 | .int k=>match s.sl i with
  | .int k' n=>cond (decide (k'=k)) (some n) none
  | _=>none
 | .bool=>match s.sl i with
  | .bool b=>some b
  | _=>none
 | .str=>match s.sl i with
  | .str l=>some l
  | _=>none
 | .aB e=>match s.sl i with
  | .aB e' xs=>lq e' e xs
  | .nil=>some []
  | .own t=>cond lax (match s.look t with
   | some (.rows e' _ xs)=>lq e' e xs
   | _=>none) none
  | _=>none
 | .el e=>match s.sl i with
  | .agg ds=>e.dec ds
  | _=>none
 | .own e T=>match s.sl i with
  | .own t=>cond ((xk s.np i || t == i) && !(i == NT) && !(Nat.ble gZ i)) (match s.look t with
   | some (.rows e' T' xs)=>cond (T' == T) (lq e' e xs) none
   | _=>none) none
  | .nil=>cond (xk s.np i && !(i == NT) && !(Nat.ble gZ i)) (some []) none
  | _=>none
 | .lb e T=>match s.sl i with
  | .op t 0=>cond ((xk s.np i || t == i) && !(i == NT) && !(Nat.ble gZ i)) (match s.look t with
   | some (.cells T' ds)=>cond (T' == T) (e.dec ds) none
   | _=>none) none
  | _=>none
 | .np=>qH (s.sl i)
 | .any=>match s.sl i with
  | .op _ _=>some ()
  | d=>cond d.plain (some ()) none
 | .mT=>match s.sl i with
  | .mT=>some ()
  | _=>none
 | .N_=>match s.sl i with
  | .nil=>some ()
  | _=>none
 | .emp=>match s.sl i with
  | .agg []=>some ()
  | _=>none
 | .fp e=>match s.sl i with
  | .fp ds 0=>e.dec ds
  | .op t 0=>cond lax (match s.look t with
   | some (.cells _ ds)=>cond (ds.all D.plain) (e.dec ds) none
   | _=>none) none
  | _=>none
 | .mq f es=>match s.sl i with
  | .mq f' ds=>cond (decide (f'=f)) (o9 es ds) none
  | _=>none
 | .N9 k n=>match s.sl i with
  | .int k' n'=>cond (decide (k'=k/\n'=n)) (some ()) none
  | _=>none
 | .mA=>match s.sl i with
  | .mA=>some ()
  | _=>none
 | .vR=>match s.sl i with
  | .vR=>some ()
  | _=>none
 | .QF=>match s.sl i with
  | .na j=>some j
  | _=>none
 | .vo=>match s.sl i with
  | .vo o=>some o
  | .Ap z j k 0=>cond (z == 3) (some (some (j,k))) none
  | .kA=>some none
  | _=>none
 | .al j=>match s.sl i with
  | .own t=>match s.sl j with
   | .own t'=>cond (t == t' && ((xk s.np j || t' == j) && !(j == NT) && !(Nat.ble gZ j))) (some ()) none
   | _=>none
  | .nil=>match s.sl j with
   | .nil=>cond (xk s.np j && !(j == NT) && !(Nat.ble gZ j)) (some ()) none
   | _=>none
  | _=>none
 | .mp=>match s.sl i with
  | .own t=>cond ((xk s.np i || t == i) && !(i == NT) && !(Nat.ble gZ i)) (match s.look t with
   | some (.mp l)=>some l
   | _=>none) none
  | _=>none
 | .ug=>match s.sl i with
  | .op t 0=>cond ((xk s.np i || t == i) && !(i == NT) && !(Nat.ble gZ i)) (match s.look t with
   | some (.ug l pos)=>some (l,pos)
   | _=>none) none
  | _=>none
 | .zQ T e=>match s.sl i with
  | .zQ T' ds=>cond (T' == T) (e.dec ds) none
  | _=>none
 | .err=>match s.sl i with
  | .mA=>some false
  | .zQ _ _=>some true
  | .err b=>some b
  | _=>none
 | .dA T fs=>match s.sl i with
  | .op t 0=>cond ((xk s.np i || t == i) && !(i == NT) && !(Nat.ble gZ i)) (match s.look t with
   | some (.cells T' ds)=>cond (T' == T && Nat.ble fs.length 64) (um t fs ds) none
   | _=>none) none
  | _=>none
 | .CV f T fs es=>match s.sl i with
  | .mU f' t cs=>cond ((xk s.np i || t == i) && !(i == NT) && !(Nat.ble gZ i)) (match s.look t with
   | some (.cells T' ds)=>cond (T' == T && Nat.ble fs.length 64 && decide (f'=f)) (match um t fs ds with
    | none=>none
    | some x=>match o9 es cs with
     | none=>none
     | some y=>some (x,y)) none
   | _=>none) none
  | _=>none
 | .dI i0 j e T=>cond (i == j3 i0 j && Nat.blt j 64) (match CW s i0 j with
  | .own t=>(match s.look t with
   | some (.rows e' T' xs)=>cond (T' == T) (lq e' e xs) none
   | _=>none)
  | .nil=>some []
  | _=>none) none
 | .ns c T A=>cond (i == NT) (match s.look NT with
  | some (.nodes c' T' A' hs none)=>cond (T' == T && A' == A) (Cl.cast c' c hs) none
  | _=>none) none
 | .mz c=>cond (i == gZ) (match s.look gZ with
  | some (.oD c' hs)=>Cl.cast c' c hs
  | _=>cond lax (match s.look NT with
   | some (.nodes c' _ _ hs none)=>Cl.cast c' c hs
   | _=>none) none) none
def oE (s:St)(i:Nat):Kd->List Nat
 | .own _ _=>match s.sl i with
  | .own t=>[t]
  | _=>[]
 | .lb _ _=>match s.sl i with
  | .op t _=>[t]
  | _=>[]
 | .mp=>match s.sl i with
  | .own t=>[t]
  | _=>[]
 | .ug=>match s.sl i with
  | .op t _=>[t]
  | _=>[]
 | .ns _ _ _=>[NT]
 | .dA _ _=>match s.sl i with
  | .op t _=>[t]
  | _=>[]
 | .CV _ _ _ _=>match s.sl i with
  | .mU _ t _=>[t]
  | _=>[]
 | .dI i0 j _ _=>match CW s i0 j with
  | .own t=>[t]
  | _=>[]
 | _=>[]
def Kg (s:St)(lax:Bool):(p:Pt)->Option (er p)
 | []=>some ()
 | [p]=>qc s lax p.1 p.2
 | p::q::ps=>match qc s lax p.1 p.2 with
  | none=>none
  | some x=>match Kg s lax (q::ps) with
   | none=>none
   | some y=>some (x,y)
def tags (s:St)(p:Pt):List Nat:=p.flatMap λq=>oE s q.1 q.2
def mu:List Nat->Bool
 | []=>true
 | t::ts=>!(ts.any (· == t)) && mu ts
def Gq (s:St)(p:Pt):Option (er p):=cond (mu (tags s p) && mu (p.map (·.1))) (Kg s false p) none
def Fl.flat:Fl->Bool
 | .int _=>true | .bool=>true | .str=>true | .np=>true | .kA=>true | .nil=>true
 | _=>false
def E.flat:E->Bool
 | .node=>false
 | .rc f fs _=>f.flat && fs.all Fl.flat
 | _=>true
def Kd.flat:Kd->Bool
 | .aB _=>false | .el e=>e.flat | .own e _=>e.flat | .lb e _=>e.flat | .fp _=>false | .mz _=>false | .ns c _ _=>(match c with | .h=>true | .k=>false) | .mq _ _=>false | .zQ _ _=>false
 | .dA _ fs=>fs.all FX.flat | .dI _ _ e _=>e.flat | .CV _ _ _ _=>false
 | _=>true
def Kd.scalar:Kd->Bool
 | .int _=>true | .bool=>true | .str=>true
 | _=>false
def kf (s:St):Pt->List Nat
 | []=>[]
 | (i, .aB _)::ps=>match s.sl i with
  | .own t=>t::kf s ps
  | _=>kf s ps
 | (i, .fp _)::ps=>match s.sl i with
  | .op t 0=>t::kf s ps
  | _=>kf s ps
 | (_, .mz _)::ps=>match s.look gZ with
  | some (.oD _ _)=>kf s ps
  | _=>match s.look NT with
   | some (.nodes _ _ _ _ _)=>NT::kf s ps
   | _=>kf s ps
 | _::ps=>kf s ps
def fG (s:St):List Nat->Option St
 | []=>some s
 | t::ts=>match s.look t with
  | some (.rows e _ xs)=>fG (s.freeze t (.aB e xs)) ts
  | some (.cells _ ds)=>cond (ds.all D.plain) (fG (s.freeze t (.fp ds 0)) ts) none
  | _=>none
def c8 (s:St):List Nat->St
 | []=>s
 | t::ts=>c8 (s.au t) ts
def fH (p:Pt):List Nat:=(p.map (·.1)).filter λk=>Nat.blt k 1000
def pU (p:Pt):Bool:=p.any λq=>q.1 == NT
def vp (d:Nat)(args:List D)(k:Nat):Nat:=cond (Nat.blt k 1000) (1000*(d+1)+k) (cond (k == NT) NT (match args.getD (k - 1000) .u with
 | .op t _=>t
 | .own t=>t
 | .mU _ t _=>t
 | _=>0))
def oF (d:Nat)(args:List D)(k:Nat):Nat:=cond (Nat.ble SB k) (j3 (vp d args ((k - SB) / 64)) ((k - SB) % 64)) (vp d args k)
def rB (τ:Nat->Nat):(p:Pt)->er p->List (Nat×OB)
 | [],_=>[]
 | [p],x=>(a7 (τ p.1) p.2 x).2
 | p::q::ps,x=>(a7 (τ p.1) p.2 x.1).2++rB τ (q::ps) x.2
def wD (τ:Nat->Nat):(p:Pt)->er p->List D
 | [],_=>[]
 | [p],x=>cond (Nat.blt p.1 1000) [(a7 (τ p.1) p.2 x).1] []
 | p::q::ps,x=>cond (Nat.blt p.1 1000) ((a7 (τ p.1) p.2 x.1).1::wD τ (q::ps) x.2) (wD τ (q::ps) x.2)
def Og:List D->D
 | [d]=>d
 | [] => .u
 | ds => .A9 ds
def sq (s:St)(args:List D):St:=⟨args.length,0,s.nw,λi=>args.getD i .u,s.ow⟩
def pa (τ:Nat->Nat)(p:Pt):List Nat:=((p.map (·.1)).filter λk=>!(Nat.blt k 1000) && Nat.blt k SB).map τ
def WW (p:Pt):List Nat:=(p.map (·.1)).filter λk=>Nat.blt k 1000 || Nat.ble SB k
def qI:Nat->List FX->List Nat
 | _,[]=>[]
 | j, .own::fs=>j::qI (j+1) fs
 | j,_::fs=>qI (j+1) fs
def Kd.Rf:Kd->List Nat
 | .dA _ fs=>qI 0 fs
 | .CV _ _ fs _=>qI 0 fs
 | _=>[]
def wfX (p:Pt):Bool:=p.all λq=>q.2.Rf.all λj=>(p.map (·.1)).contains (j3 q.1 j) && Nat.blt j 64 && Nat.blt q.1 SB
def pfX (p:Pt):Bool:=p.all λq=>Nat.blt q.1 SB || ((p.map (·.1)).contains ((q.1 - SB) / 64) && Nat.blt ((q.1 - SB) / 64) SB)
def Kd.Rg (b:Bool):Kd->Bool
 | .al _=>false
 | .QF=>false
 | .vo=>b
 | _=>true
def D.isRef:D->Bool
 | .own _=>true
 | .op _ _=>true
 | .mU _ _ _=>true
 | _=>false
def I6 (s:St)(d:Nat)(args:List D)(bN:vT):Bool :=
 mu (tags (sq s args) bN.lf++kf (sq s args) bN.lf) && fH bN.lf == List.range args.length && fH bN.bI == List.range (fH bN.bI).length
 && (pa (oF d args) bN.bI).all (λt=>(tags (sq s args) bN.lf).contains t) && bN.bI.all (λq=>Nat.blt q.1 1000 || q.1 == NT || Nat.ble SB q.1 || (Nat.blt q.1 NT && (args.getD (q.1 - 1000) .u).isRef)) && mu (bN.bI.map λq=>oF d args q.1)
 && Nat.ble (s.np % 1000) (1000*(d+1)) && Nat.ble (s.np % 1000) NT && (!(pU bN.bI) || s.nw) && bN.bI.all (λq=>q.2.Rg (pU bN.bI)) && wfX bN.bI && pfX bN.bI
def GV (f:FuncId)(args:List D):Option vT :=
 cond (Nat.blt f 1000000) (match args.findSome? (λd=>match d with | .mq g _=>some g | .mU g _ _=>some g | _=>none) with
  | some g=>(match C.fns (f+1000000*(g+1)) with
   | some e=>some e
   | none=>C.fns f)
  | none=>C.fns f) none
def sO (s:St)(d:Nat)(f:FuncId)(args:List D)(K:D->St->Option R):Option R :=
 match GV C f args with
 | none=>none
 | some bN =>
  cond (I6 s d args bN)
   (match Kg (sq s args) true bN.lf with
    | none=>none
    | some x =>
     match (cond (bN.bI.all λq=>q.2.flat) (some s) (fG s (kf (sq s args) bN.lf)):Option St) with
     | none=>none
     | some s0 =>
     let τ:=oF d args
     let back:=pa τ bN.bI
     let s2:=c8 s0 (((tags (sq s args) bN.lf).filter λt=>!(back.contains t) || t == NT)++(WW bN.bI).map τ)
     (bN.m x).bind λr=>K (Og (wD τ bN.bI r)) ⟨s2.n,s2.np,s2.nw,s2.sl,rB τ bN.bI r++s2.ow.filter λp=>!(back.contains p.1)⟩)
   none
def xl:Op->Bool
 | .move _=>true | .assign _=>true | .pick _ _ _=>true | .lookup _ _ _ _=>true | .binOp _ _ _ _ _=>true | .unOp _ _ _=>true | .extract _ _=>true | .index _ _ _=>true | .indexAddr _ _ _=>true | .fieldAddr _ _ _=>true | .load _ _=>true | .nilCheck _=>true | .field _ _ _=>true | .build _ _=>true | .slice _ _ _ _ _=>true | .makeFunc _ _ _=>true | .makeInterface _ _=>true | .typeAssert _ _ _ _=>true
 | .call c=>(match c.callee with
  | .builtin .len=>true | .builtin .min=>true | .builtin .max=>true
  | _=>false)
 | _=>false
def EE (s:St)(f:FuncId)(args:List D)(K:D->Option R):Option R :=
 match GV C f args with
 | none=>none
 | some bN =>
  cond (bN.bI.all (λq=>q.2.scalar) && (tags (sq s args) bN.lf).isEmpty && mu (kf (sq s args) bN.lf) && fH bN.lf == List.range args.length && bN.bI.map (·.1) == List.range bN.bI.length && (fH bN.bI).length == bN.bI.length)
   (match Kg (sq s args) true bN.lf with
    | none=>none
    | some x=>(bN.m x).bind λr=>K (Og (wD id bN.bI r)))
   none
def rC:List D->List Nat
 | []=>[]
 | .own t::ds=>t::rC ds
 | _::ds=>rC ds
def Tl (s:St)(T:TypeId):Bool:=match s.look NT with
 | some (.nodes _ TN _ _ _)=>T == TN
 | _=>false
def ZO (s:St)(T:TypeId)(x:Operand):List Nat :=
 match ti C T with
 | some t=>cond t.agg (match g s x with
  | .op b off=>(match s.look b with
   | some (.cells _ ds)=>rC ((ds.drop off).take t.size)
   | _=>[])
  | _=>[]) []
 | none=>[]
def ZP (s:St):Op->List Nat
 | .buildSlice _ _ parts=>rC (parts.toList.map λq=>g s q.2)
 | .store _ x y=>(match g s x with
  | .nf _ off=>(match g s y with
   | .own t=>(match s.look NT with
    | some (.nodes c _ _ _ _)=>cond (Nat.blt off c.n) [t] []
    | _=>[])
   | _=>[])
  | _=>[])
 | _=>[]
def UG (s:St)(o:Op)(K:St->Option R):Option R :=
 match o with
 | .store _ _ (.tmp t)=>(match s.sl t with
  | .na i=>(match s.look NT with
   | some (.nodes .k T A hs none)=>(hs[i]?).bind λn=>K ((s.dq NT (.nodes .k T A (hs.set i (n.wz true)) none)).set t (.aB .np n.kids))
   | _=>K s)
  | _=>K s)
 | _=>K s
def UH (s:St)(args:List D):Pt->List Nat
 | []=>[]
 | (i, .fp _)::ps=>(match args.getD i .u with
  | .op t 0=>(match s.look t with
   | some (.cells _ ds)=>rC ds
   | _=>[])
  | _=>[])++UH s args ps
 | _::ps=>UH s args ps
def ZQ (s:St)(f:FuncId)(args:List D):List Nat :=
 match GV C f args with
 | some bN=>UH s args bN.lf
 | none=>[]
def WX (s:St)(dst:Option Tmp)(o:Op)(K:D->St->Option R):Option R :=
 match o with
 | .call ⟨.value (.func f),xs,_⟩=>(match fG s (ZQ C s f (xs.toList.map (g s))) with
  | some s'=>sO C s' (dst.getD 900000) f (xs.toList.map (g s')) K
  | none=>none)
 | .call ⟨.value (.tmp t),xs,_⟩=>(match s.sl t with
  | .mq f ds=>sO C s (dst.getD 900000) f (xs.toList.map (g s)++ds) K
  | .mU f t ds=>cond (Nat.blt f 1000000) (sO C s (dst.getD 900000) f (xs.toList.map (g s) ++ .op t 0::ds) K) none
  | _=>none)
 | .call ⟨.invoke x n,xs,_⟩=>(match g s x with
  | .mU f t []=>(match Ob C f n with
   | some q=>sO C s (dst.getD 900000) q.2.2 (.op t 0::xs.toList.map (g s)) K
   | none=>none)
  | _=>none)
 | .convert S T x=>(match ti C T with
  | some ⟨.slice _,_,_,_,_,_⟩=>cond (Nat.ble (s.np % 1000) (dst.getD 900000)) (o_ C s (dst.getD 900000) (.convert S T x) K) none
  | _=>nF C s (.convert S T x) λd=>K d s)
 | .load T x=>(match fG s (ZO C s T x) with
  | some s'=>nF C s' (.load T x) λd=>K d s'
  | none=>none)
 | .build T parts=>cond (Tl s T || (C.n_ (1000000+T)).isSome) (nF C s (.build T parts) λd=>K d s) (match fG s (rC (parts.toList.map λq=>g s q.2)) with
  | some s'=>nF C s' (.build T parts) λd=>K d s'
  | none=>none)
 | o=>cond (xl o) (nF C s o λd=>K d s) (cond (Nat.ble (s.np % 1000) (dst.getD 900000)) (match fG s (ZP s o) with
  | some s'=>UG s' o λs'=>o_ C s' (dst.getD 900000) o K
  | none=>none) none)
def Kh (s:St)(o:Op)(K:D->Option R):Option R :=
 match o with
 | .call ⟨.value (.func f),xs,_⟩=>EE C s f (xs.toList.map (g s)) K
 | o=>nF C s o K
def rD (step:St->Oper->(St->Option R)->Option R)(all:List Oper):List Oper->St->(St->Option R)->Option R
 | [],s,k=>k s
 | o::l,s,k =>
  match o.guard with
  | none=>step s o λs'=>rD step all l s' k
  | some (j,b)=>match (all[j]?).bind (·.dst) with
   | none=>none
   | some t=>match s.sl t with
    | .bool c=>cond c
      (let s':=s.set t (.bool true);cond b (step s' o λs'=>rD step all l s' k) (match s'.put o.dst .fA with
       | some s'=>rD step all l s' k
       | none=>none))
      (let s':=s.set t (.bool false);cond b (match s'.put o.dst .fA with
       | some s'=>rD step all l s' k
       | none=>none) (step s' o λs'=>rD step all l s' k))
    | .fA=>(match s.put o.dst .fA with
      | some s'=>rD step all l s' k
      | none=>none)
    | _=>none
def zS (s:St)(o:Oper)(k:St->Option R):Option R:=WX C s o.dst o.op λd s'=>match s'.put o.dst d with
 | some IE=>k IE
 | none=>none
def DG (s:St)(o:Oper)(k:St->Option R):Option R:=Kh C s o.op λd=>match s.put o.dst d with
 | some IE=>k IE
 | none=>none
def vq (b:Bool):Bool:=b
def y8 (ops:Array Oper)(s:St)(o:Oper)(go skip:St->Option R):Option R :=
 match o.guard with
 | none=>go s
 | some (j,b)=>match (ops.toList[j]?).bind (·.dst) with
  | none=>none
  | some t=>match s.sl t with
   | .bool c=>cond c
     (let s':=s.set t (.bool true);cond b (go s') (match s'.put o.dst .fA with
      | some s'=>skip s'
      | none=>none))
     (let s':=s.set t (.bool false);cond b (match s'.put o.dst .fA with
      | some s'=>skip s'
      | none=>none) (go s'))
   | .fA=>(match s.put o.dst .fA with
     | some s'=>skip s'
     | none=>none)
   | _=>none
def WY (s:St)(o:Op):List Nat :=
 let own:=λx=>(match g s x with
  | .own t=>[t]
  | .na _=>[NT]
  | .DD _ _ _ _=>[NT]
  | _=>[])
 match o with
 | .load _ x=>(match g s x with
  | .op t _=>[t]
  | .oe t _ _ _=>[t]
  | .nf _ _=>[NT,gZ]
  | .Ap _ _ _ _=>[NT]
  | _=>[])
 | .indexAddr _ x _=>own x
 | .slice _ x _ _ _=>own x
 | .convert _ _ x=>own x
 | .lookup _ x _ _=>own x
 | .binOp _ _ x _ _=>own x
 | .call c=>c.args.toList.flatMap own
 | .build _ parts=>parts.toList.flatMap λq=>own q.2
 | _=>[]
def Nr (s:St)(o:Op):List Nat:=WY s o++(WY s o).flatMap λt=>(match s.look t with
 | some (.cells _ ds)=>ds.flatMap λd=>(match d with
  | .own t'=>[t']
  | .op t' _=>[t']
  | _=>[])
 | _=>[])
def GW (s:St):Op->Bool
 | .slice _ x _ _ .none=>(match g s x with
  | .na _=>true
  | _=>false)
 | .call ⟨.builtin .len,xs,_⟩=>(match xs.toList with
  | [x]=>(match g s x with
   | .na _=>true
   | _=>false)
  | _=>false)
 | _=>false
def Oh (w0:List (Nat×OB)):Bool:=w0.all λp=>match p.2 with
 | .cells _ ds=>ds.all λd=>d.plain || (match d with
  | .own t=>w0.any λq=>q.1 == t
  | .op t _=>w0.any λq=>q.1 == t
  | .CN t _=>w0.any λq=>q.1 == t
  | _=>false)
 | _=>true
def L4 (ow:List (Nat×OB))(dt t:Nat):Bool:=!(t == dt) && !(t / 1000 == dt+1) && (Nat.blt t SB || (ow.all (λq=>!(q.1 == (t - SB) / 64)) && !((t - SB) / 64 / 1000 == dt+1)))
def DH (ops:Array Oper)(an:Array Bool)(i:Nat):Bool:=Region.free .any ops an i && (Region.ready .any ops an).contains i
def Tm (s:St)(o:Op):Bool :=
 match o with
 | .call c=>(match c.callee with
  | .builtin .append=>(match c.args.toList with
   | [_,y]=>(match g s y with
    | .na _=>true
    | .DD _ _ _ _=>true
    | _=>false)
   | _=>false)
  | _=>false)
 | _=>false
def Tn (sy s:St)(o:Oper)(k:St->Option R):Option R :=
 match o.op with
 | .call c=>(match c.callee with
  | .builtin .append=>(match c.args.toList with
   | [x,y]=>(match c.argTypes.toList with
    | [S,X]=>(match ti C X with
     | some ⟨.str,_,_,_,_,_⟩=>none
     | _=>cond (Nat.ble (s.np % 1000) (o.dst.getD 900000)) (xW C sy s (o.dst.getD 900000) x y S X λd s'=>match s'.put o.dst d with
      | some IE=>k IE
      | none=>none) none)
    | _=>none)
   | _=>none)
  | _=>none)
 | _=>none
def Kj (sy s:St)(o:Oper)(k:St->Option R):Option R:=cond (Tm sy o.op) (Tn C sy s o k) (zS C s o k)
def I7 (o:Op):Bool :=
 match o with
 | .call ⟨.value (.func f),_,_⟩=>(match C.fns f with
  | some bN=>bN.bI.all (λq=>q.2.scalar) && bN.lf.all λq=>(match q.2 with | .own _ _=>false | .lb _ _=>false | .ns _ _ _=>false | _=>true)
  | none=>false)
 | _=>false
def ur (ops:Array Oper):List (Bool×Nat)->Array Bool->List (Nat×List Nat)->St->(St->Option R)->Option R
 | [],an,_,s,K=>cond (vq (Region.ready .any ops an == [])) (K s) none
 | (true,i)::n_,an,T,s,K=>cond (vq (DH ops an i)) (match ops.toList[i]? with
  | none=>none
  | some o=>y8 ops s o
   (λs=>cond (xl o.op) (nF C ⟨s.n,s.np,s.nw,s.sl,s.ow.filter λp=>(Nr s o.op).contains p.1⟩ o.op λd=>match s.put o.dst d with
    | some s'=>ur ops n_ (an.setIfInBounds i true) (cond (GW s o.op && !(n_.any λq=>!q.1 && Go.Proofs.YtngabkipchpmpaaGreat.K.bh .any ops q.2 i && T.any λp=>Go.Proofs.YtngabkipchpmpaaGreat.K.bh .any ops i p.1 && !(Go.Proofs.YtngabkipchpmpaaGreat.K.bh .any ops q.2 p.1))) ((i,[])::T) ((i,Nr s o.op++(T.filter λq=>Go.Proofs.YtngabkipchpmpaaGreat.K.bh .any ops i q.1).flatMap (·.2))::T.filter λq=>!(Go.Proofs.YtngabkipchpmpaaGreat.K.bh .any ops i q.1))) s' K
    | none=>none) none)
   (λs'=>ur ops n_ (an.setIfInBounds i true) T s' K)) none
 | (false,i)::n_,an,T,s,K=>cond (vq (Region.ready .any ops an == [i])) (match ops.toList[i]? with
  | none=>none
  | some o=>y8 ops s o
   (λs=>let T':=T.filter λq=>!(Go.Proofs.YtngabkipchpmpaaGreat.K.bh .any ops i q.1)
    let pd:=T'.flatMap (·.2)
    cond (I7 C o.op && !(pd.isEmpty)) (Kh C s o.op λd=>match s.put o.dst d with
     | some s'=>ur ops n_ (an.setIfInBounds i true) T' s' K
     | none=>none)
    (cond (Oh (s.ow.filter λp=>pd.contains p.1) && (s.ow.filter λp=>pd.contains p.1).all (λp=>L4 (s.ow.filter λp=>!(pd.contains p.1)) (o.dst.getD 900000) p.1))
     (Kj C s ⟨s.n,s.np,s.nw && !(pd.contains NT),s.sl,s.ow.filter λp=>!(pd.contains p.1)⟩ o λs' =>
      cond (s'.ow.all λq=>!(pd.contains q.1)) (ur ops n_ (an.setIfInBounds i true) T' ⟨s'.n,s'.np,s.nw,s'.sl,(s.ow.filter λp=>pd.contains p.1)++s'.ow⟩ K) none) none))
   (λs'=>ur ops n_ (an.setIfInBounds i true) (T.filter λq=>!(Go.Proofs.YtngabkipchpmpaaGreat.K.bh .any ops i q.1)) s' K)) none
open Classical in
noncomputable def both {R:Type}(a b:Option R):Option R:=if a=b then a else none
def UI (ops:Array Oper)(i:Nat)(T:List (Nat×List Nat))(s:St)(Q:List (Nat×List Nat)->St->Option R):Option R :=
 match ops.toList[i]? with
  | none=>none
  | some o=>y8 ops s o
   (λs=>cond (xl o.op) (nF C ⟨s.n,s.np,s.nw,s.sl,s.ow.filter λp=>(Nr s o.op).contains p.1⟩ o.op λd=>match s.put o.dst d with
    | some s'=>Q ((i,Nr s o.op++(T.filter λq=>Go.Proofs.YtngabkipchpmpaaGreat.K.bh .any ops i q.1).flatMap (·.2))::T.filter λq=>!(Go.Proofs.YtngabkipchpmpaaGreat.K.bh .any ops i q.1)) s'
    | none=>none) none)
   (λs'=>Q T s')
def Oi (ops:Array Oper)(i:Nat)(T:List (Nat×List Nat))(s:St)(Q:List (Nat×List Nat)->St->Option R):Option R :=
 match ops.toList[i]? with
  | none=>none
  | some o=>y8 ops s o
   (λs=>let T':=T.filter λq=>!(Go.Proofs.YtngabkipchpmpaaGreat.K.bh .any ops i q.1)
    let pd:=T'.flatMap (·.2)
    cond (Oh (s.ow.filter λp=>pd.contains p.1) && (s.ow.filter λp=>pd.contains p.1).all (λp=>L4 (s.ow.filter λp=>!(pd.contains p.1)) (o.dst.getD 900000) p.1))
     (Kj C s ⟨s.n,s.np,s.nw && !(pd.contains NT),s.sl,s.ow.filter λp=>!(pd.contains p.1)⟩ o λs' =>
      cond (s'.ow.all λq=>!(pd.contains q.1)) (Q T' ⟨s'.n,s'.np,s.nw,s'.sl,(s.ow.filter λp=>pd.contains p.1)++s'.ow⟩) none) none)
   (λs'=>Q (T.filter λq=>!(Go.Proofs.YtngabkipchpmpaaGreat.K.bh .any ops i q.1)) s')
structure ZR where
 ia:Nat
 ib:Nat
 t:Nat
 T:TypeId
 z:List D
 l:List D
noncomputable def pL (ops:Array Oper):Nat->List (Bool×Nat)->Array Bool->List (Nat×List Nat)->St->(St->Option R)->Option R
 | _,[],an,_,s,K=>cond (vq (Region.ready .any ops an == [])) (K s) none
 | 0,_::_,_,_,_,_=>none
 | n+1,(true,i)::n_,an,T,s,K=>cond (vq (DH ops an i)) (UI C ops i T s λT s=>pL ops n n_ (an.setIfInBounds i true) T s K) none
 | n+1,(false,i)::n_,an,T,s,K=>cond (Nat.blt i 1000000)
   (cond (vq (Region.ready .any ops an == [i])) (Oi C ops i T s λT s=>pL ops n n_ (an.setIfInBounds i true) T s K) none)
   (match n_.drop (i / 1000000 - 1) with
   | (false,j)::u=>cond (vq (Region.ready .any ops an == [i % 1000000,j] || Region.ready .any ops an == [j,i % 1000000]))
     (both (Oi C ops (i % 1000000) T s λT s=>pL ops n (n_.take (i / 1000000 - 1)) (an.setIfInBounds (i % 1000000) true) T s K)
      (Oi C ops j T s λT s=>pL ops n u (an.setIfInBounds j true) T s K)) none
   | _=>none)
def Oj (o:Oper):Bool :=
 match o.op with
 | .call ⟨.value (.func f),_,_⟩=>(match C.fns f with
  | some bN=>bN.bI.all (λq=>q.2.scalar) && bN.lf.all λq=>(match q.2 with | .own _ _=>false | .lb _ _=>false | .ns _ _ _=>false | _=>true)
  | none=>true)
 | .convert _ T _=>(match ti C T with
  | some ⟨.slice _,_,_,_,_,_⟩=>false
  | _=>true)
 | o=>xl o
def GX (s:St)(f:FuncId)(j:Nat):List Operand->List Nat
 | []=>[]
 | x::xs=>match g s x with
  | .op t 0=>(match C.fns f with
   | some bN=>(match bN.lf.find? (λq=>q.1 == j) with
    | some (_,Kd.fp _)=>t::GX s f (j+1) xs
    | _=>GX s f (j+1) xs)
   | none=>GX s f (j+1) xs)
  | _=>GX s f (j+1) xs
def I8 (np:FuncId->Nat)(s:St):List Oper->List Nat
 | []=>[]
 | o::os=>match o.op with
  | .makeFunc (.func f) _ cs=>GX C s f (np f) cs.toList++I8 np s os
  | _=>I8 np s os
def dedup:List Nat->List Nat
 | []=>[]
 | t::ts=>cond (ts.any (· == t)) (dedup ts) (t::dedup ts)
def ZS (s:St)(ops:Array Oper):Option St:=fG s (dedup (I8 C (λf=>match C.fns f with
 | some bN=>(fH bN.lf).length - (ops.toList.foldl (λn o=>match o.op with | .makeFunc (.func f') _ cs=>cond (f' == f) cs.size n | _=>n) 0)
 | none=>0) s ops.toList))
def EF (n np:Nat)(nw:Bool):(xs:List (Xt×Pt))->rj (xs.map (·.2))->Xt×St
 | [],x=>x.elim
 | [p],x=>(p.1,Nq n np nw p.2 x)
 | p::q::ps,x=>match x with
  | .inl y=>(p.1,Nq n np nw p.2 y)
  | .inr y=>EF n np nw (q::ps) y
def bu {α β γ:Type}(f:α->γ)(h:β->γ):α ⊕ β->γ
 | .inl a=>f a
 | .inr b=>h b
def Rh {R:Type}(n np:Nat)(nw:Bool)(k:Xt->St->Option R):(xs:List (Xt×Pt))->rj (xs.map (·.2))->Option R
 | [],_=>none
 | [p],x=>k p.1 (Nq n np nw p.2 x)
 | p::q::ps,x=>bu (λy=>k p.1 (Nq n np nw p.2 y)) (λy=>Rh n np nw k (q::ps) y) x
def BK:Nat:=1000000
noncomputable def vV (L:Nat->Option mB)(G:Code->Nat->Nat->St->(Xt->St->Option R)->Option R):Code->Nat->St->(Xt->St->Option R)->Option R
 | .skip,_,s,k=>k .nm s
 | .region id ops drawn,_,s,k=>(match ZS C s ops with
  | none=>none
  | some s=>cond drawn (cond (ops.toList.all (Oj C)) (cond (vq (Region.lexB .any ops)) (rD (DG C) ops.toList ops.toList s λs'=>k .nm s') none) (match C.n_ id with
   | none=>none
   | some n_=>cond (n_.any λq=>Nat.ble 1000000 q.2) (cond (vq (Region.noSelect ops)) (pL C ops ops.size n_ (Array.replicate ops.size false) [] s λs'=>k .nm s') none)
    (cond (vq (Region.noSelect ops && Nat.ble n_.length ops.size)) (ur C ops n_ (Array.replicate ops.size false) [] s λs'=>k .nm s') none))) (rD (zS C) ops.toList ops.toList s λs'=>k .nm s'))
 | .seq a b,i,s,k=>vV L G a i s λe s'=>match e with
  | .nm=>vV L G b i s' k
  | e=>k e s'
 | .cond x a b,i,s,k=>(match x with
  | .tmp t=>(match s.sl t with
   | .bool c=>cond c (vV L G a i (s.set t (.bool true)) k) (vV L G b i (s.set t (.bool false)) k)
   | _=>none)
  | .const (.bool c)=>cond c (vV L G a i s k) (vV L G b i s k)
  | _=>none)
 | .block id c,_,s,k=>(match L (BK+id) with
  | some le=>(match Gq s le.lf with
   | none=>none
   | some x=>(le.m x).bind λy=>Rh s.n s.np s.nw k le.pT y)
  | none=>vV L G c id s λe s'=>match e with
   | .ex j=>cond (j == id) (k .nm s') (k (.ex j) s')
   | e=>k e s')
 | .loop _,i,s,k=>(match L i with
  | none=>none
  | some le=>match Gq s le.lf with
   | none=>none
   | some x=>(le.m x).bind λy=>Rh s.n s.np s.nw k le.pT y)
 | .scope c,i,s,k=>vV L G c i s λe s'=>match e with
  | .gt l=>G c l i s' k
  | e=>k e s'
 | .goto l,_,s,k=>k (.gt l) s
 | .label _,_,s,k=>k .nm s
 | .exit id,_,s,k=>k (.ex id) s
 | .ret,_,s,k=>k .rt s
 | _,_,_,_=>none
noncomputable def ZT (L:Nat->Option mB):Code->Nat->St->(Xt->St->Option R)->Option R:=vV C L λ_ _ _ _ _=>none
inductive ai (X B:Type) | nx (x:X) | out (b:B)
def y9 (e:Xt)(s:St):(xs:List (Xt×Pt))->Option (rj (xs.map (·.2)))
 | []=>none
 | [p]=>cond (decide (p.1=e)) (Gq s p.2) none
 | p::q::ps=>cond (decide (p.1=e)) (match Gq s p.2 with
  | some x=>some (.inl x)
  | none=>(match y9 e s (q::ps) with
   | some x=>some (.inr x)
   | none=>none)) (match y9 e s (q::ps) with
  | some x=>some (.inr x)
  | none=>none)
def By (lf:Pt)(pT:List (Xt×Pt))(e:Xt)(s:St):Option (ai (er lf) (rj (pT.map (·.2)))) :=
 match e with
 | .nm=>(match Gq s lf with
  | some x=>some (.nx x)
  | none=>none)
 | e=>(match y9 e s pT with
  | some b=>some (.out b)
  | none=>none)
noncomputable def EG (L:Nat->Option mB)(c:Code)(n np:Nat)(nw:Bool)(lf:Pt)(pT:List (Xt×Pt))(x:er lf):Option (ai (er lf) (rj (pT.map (·.2)))) :=
 ZT C L c 0 (Nq n np nw lf x) (By lf pT)
def I9 (s:St):List ResultVar->Option (St×List D)
 | []=>some (s,[])
 | .tmp t::rs=>(match I9 s rs with
  | some (s',ds)=>some (s',s'.sl t::ds)
  | none=>none)
 | .cell t T::rs=>(match s.sl t with
  | .op b off=>(match s.look b with
   | some (.cells _ ds)=>(match fG s (rC ds) with
    | some s1=>(match ti C T with
     | some i=>(match s1.look b with
      | some (.cells _ ds)=>rA ds off i λd=>match I9 s1 rs with
       | some (s',ds)=>some (s',d::ds)
       | none=>none
      | _=>none)
     | none=>none)
    | none=>none)
   | _=>none)
  | _=>none)
def UJ (s:St)(t:Nat):Option St :=
 match s.look t with
 | some (.cells _ ds)=>(match fG s (rC ds) with
  | some s1=>(match s1.look t with
   | some (.cells _ WZ)=>cond (WZ.all D.plain) (some (s1.freeze t (.fp WZ 0))) none
   | _=>none)
  | none=>none)
 | _=>none
def sP (s:St):List ResultVar->List (Nat×Kd)->Option St
 | .tmp t::rs,(_, .fp _)::ks=>(match s.sl t with
  | .op b 0=>(match UJ s b with
   | some s'=>sP s' rs ks
   | none=>none)
  | _=>sP s rs ks)
 | .tmp t::rs,(_, .aB _)::ks=>(match s.sl t with
  | .own b=>(match fG s [b] with
   | some s'=>sP s' rs ks
   | none=>none)
  | _=>sP s rs ks)
 | _::rs,_::ks=>sP s rs ks
 | _,_=>some s
def ioD (s:St)(i:Nat):D :=
 match s.look i with
 | some (.rows _ _ _) => .own i
 | some (.cells _ _) => .op i 0
 | some (.mp _) => .own i
 | _ => .u
def Kd.isRef:Kd->Bool
 | .own _ _=>true | .lb _ _=>true | .mp=>true | .dA _ _=>true
 | _=>false
def Kk (s:St)(ds:List D):St:=⟨0,0,s.nw,λk=>cond (Nat.blt k 1000) (ds.getD k .u) (cond (k == NT || Nat.ble SB k) .u (ioD s (k - 1000))),s.ow⟩
def Ok (bN:vT)(fn:Func)(e:Xt)(s:St):Option (er bN.bI) :=
 cond (match e with | .rt=>true | .nm=>fn.results.isEmpty | _=>false)
  (match sP s fn.results.toList bN.bI with
  | some s=>match I9 C s fn.results.toList with
   | some (s',ds)=>cond (fH bN.bI == List.range ds.length && bN.bI.all (λq=>Nat.blt q.1 1000 || q.1 == NT || Nat.ble SB q.1 || (Nat.blt q.1 (1000+bN.np % 1000) && Nat.ble (1000+bN.np / 1000) q.1 && q.2.isRef))) (Gq (Kk s' ds) bN.bI) none
   | none=>none
  | none=>none) none
noncomputable def ZU (L:Nat->Option mB)(fn:Func)(c:Code)(bN:vT)(x:er bN.lf):Option (er bN.bI) :=
 ZT C L c 0 (Nq fn.ntmps bN.np (pU bN.bI) bN.lf x) (Ok C bN fn)
end
inductive qJ {X B:Type}(body:X->Option (ai X B)):X->B->Prop
 | out {x:X} {b:B}:body x=some (.out b)->qJ body x b
 | nx {x y:X} {b:B}:body x=some (.nx y)->qJ body y b->qJ body x b
open Classical in
noncomputable def ab {X B:Type}(body:X->Option (ai X B))(x:X):Option B:=if h:∃ b,qJ body x b then some h.choose else none
theorem qJ.unique {X B:Type}{body:X->Option (ai X B)}{x:X}{b b':B}(h:qJ body x b)(h':qJ body x b'):b=b':=by
 induction h with
 | out h1 =>
  cases h' with
  | out h2=>rw [h1] at h2;cases h2;rfl
  | nx h2 _=>rw [h1] at h2;cases h2
 | nx h1 _ ih =>
  cases h' with
  | out h2=>rw [h1] at h2;cases h2
  | nx h2 h3=>rw [h1] at h2;cases h2;exact ih h3
theorem iS {X B:Type}{body:X->Option (ai X B)}{x:X}{b:B}:ab body x=some b↔qJ body x b:=by
 unfold ab;constructor
 ·intro h
  split at h
  ·rename_i hh;cases h;exact hh.choose_spec
  ·cases h
 ·intro h;have hh:∃ b,qJ body x b:=⟨b,h⟩;rw [dif_pos hh];exact congrArg some (hh.choose_spec.unique h)
theorem aj {X B:Type}{body:X->Option (ai X B)}{x y:X}(h:body x=some (.nx y)):ab body x=ab body y:=by
 cases hy:ab body y with
 | some b=>exact iS.2 (.nx h (iS.1 hy))
 | none =>
  cases hx:ab body x with
  | none=>rfl
  | some b =>
   have:=iS.1 hx
   cases this with
   | out h2=>rw [h] at h2;cases h2
   | nx h2 h3=>rw [h] at h2;cases h2;rw [iS.2 h3] at hy;cases hy
theorem ae {X B:Type}{body:X->Option (ai X B)}{x:X}{b:B}(h:body x=some (.out b)):ab body x=some b:=iS.2 (.out h)
end Go.Proofs.YtngabkipchpmpaaGreat.V
namespace Go.Proofs.YtngabkipchpmpaaGreat.V
open Go K
structure iH where
 m:Nat->Option Obj
 fF:Nat->Option Nat
 lv:Nat->Prop
 inj:∀ i j b,fF i=some b->fF j=some b->i=j
 Ol:∀ i b,fF i=some b->lv b
def iH.le (F F':iH):Prop:=(∀ b o,F.m b=some o->F'.m b=some o)/\(∀ i b,F.fF i=some b->F'.fF i=some b)/\∀ b,F.lv b->F'.lv b
theorem iH.le.refl (F:iH):F.le F:=⟨λ_ _ h=>h,λ_ _ h=>h,λ_ h=>h⟩
theorem iH.le.trans {F F' Wc:iH}(h:F.le F')(h':F'.le Wc):F.le Wc:=⟨λb o hb=>h'.1 b o (h.1 b o hb),λb o hb=>h'.2.1 b o (h.2.1 b o hb),λb hb=>h'.2.2 b (h.2.2 b hb)⟩
def rE (F:iH)(a:Addr):Option Value :=
 match F.m a.block with
 | some (.cells c _ _)=>if a.spot.isSome then none else c[a.off]?
 | _=>none
def jO (F:iH)(B:Nat):Nat->List Value->Prop
 | _,[]=>True
 | off,c::cs=>rE F ⟨B,off,none⟩=some c/\jO F B (off+1) cs
theorem rE.mono {F F':iH}(h:F.le F'){a:Addr}{v:Value}(hc:rE F a=some v):rE F' a=some v:=by
 unfold rE at *;cases hb:F.m a.block with
 | none=>rw [hb] at hc;cases hc
 | some o=>rw [h.1 _ _ hb];rw [hb] at hc;exact hc
theorem jO.mono {F F':iH}(h:F.le F'){B:Nat}:∀ {cs:List Value} {off:Nat},jO F B off cs->jO F' B off cs
 | [],_,_=>trivial
 | _::_,_,⟨h1,h2⟩=>⟨rE.mono h h1,jO.mono h h2⟩
def jP:List Value->Nat->List MapEntry
 | k::v::r,i=>{ key:=k,val:=v,born:=i }::jP r (i+1)
 | _,_=>[]
def GY (cs:List Value):Obj := .map (jP cs 0).toArray (cs.length / 2)
def UL:List Value->Obj
 | [.string s, .int _ n] => .stringIter s n.toNat
 | _ => .stringIter .empty 0
def vW (o:Option Obj):gJ->Prop
 | (_,cs, .c T)=>∃ fz,LP fz cs.length/\o=some (.cells cs.toArray T fz)
 | (_,cs, .map)=>o=some (GY cs)
 | (_,cs, .ug)=>o=some (UL cs)
theorem vW.some {o:Option Obj}{p:gJ}(h:vW o p):∃ x,o=some x:=by
 obtain⟨b,cs,T⟩:=p;cases T with
 | c T=>obtain⟨fz,_,h⟩:=h;exact⟨_,h⟩
 | map=>exact⟨_,h⟩
 | ug=>exact⟨_,h⟩
theorem vW.cells {o:Option Obj}{b:Nat}{cs:List Value}{T:TypeId}(h:vW o (b,cs,T)):∃ fz,LP fz cs.length/\o=Option.some (.cells cs.toArray T fz):=h
theorem vW.mk {o:Option Obj}{b:Nat}{cs:List Value}{T:TypeId}(h:o=Option.some (.cells cs.toArray T (0,0))):vW o (b,cs,T):=⟨(0,0),WK _,h⟩
structure Hp (h:Array Obj)(F:iH)(L:List gJ):Prop where
 tH:∀ b o,F.m b=some o->h[b]?=some o
 own:∀ p∈L,vW h[p.1]? p
 sep:∀ p∈L,F.m p.1=none
 nodup:(L.map (·.1)).Nodup
 live:∀ b,F.lv b->∃ cs T,h[b]?=some (.cells cs T (0,0))/\T≠uT
 gl:Gl F.m
section
variable {h h':Array Obj}{F F':iH}{L L' L1 L2 Lv:List gJ}
theorem vW.mono {p:gJ}(h:vW (F.m p.1) p)(hf:F.le F'):vW (F'.m p.1) p:=by obtain⟨x,hx⟩:=h.some;rw [hf.1 _ _ hx];rw [hx] at h;exact h
theorem vW.tH {p:gJ}(hi:vW (F.m p.1) p)(hm:Hp h F L):vW h[p.1]? p:=by obtain⟨x,hx⟩:=hi.some;rw [hm.tH _ _ hx];rw [hx] at hi;exact hi
theorem Hp.cell (hm:Hp h F L){a:Addr}{v:Value}(hc:rE F a=some v):K.cell h a=some v:=by
 unfold rE at hc;unfold K.cell;cases hb:F.m a.block with
 | none=>rw [hb] at hc;cases hc
 | some o=>rw [hm.tH _ _ hb];rw [hb] at hc;exact hc
theorem Hp.cells (hm:Hp h F L){B:Nat}:∀ {cs:List Value} {off:Nat},jO F B off cs->bm h B off cs
 | [],_,_=>trivial
 | _::_,_,⟨h1,h2⟩=>⟨hm.cell h1,hm.cells h2⟩
theorem Hp.lt (hm:Hp h F L){p:gJ}(hp:p∈L):p.1<h.size:=by obtain⟨x,hx⟩:=(hm.own p hp).some;exact (Array.getElem?_eq_some_iff.1 hx).1
theorem Hp.W0 (hm:Hp h F L){b:Nat}{o:Obj}(hb:F.m b=some o):b<h.size:=(Array.getElem?_eq_some_iff.1 (hm.tH b o hb)).1
theorem Hp.sub (hm:Hp h F L)(hs:L'.Sublist L):Hp h F L':=⟨hm.tH,λp hp=>hm.own p (hs.subset hp),λp hp=>hm.sep p (hs.subset hp),hm.nodup.sublist (hs.map _),hm.live,hm.gl⟩
theorem Hp.perm (hm:Hp h F L)(hp:L'.Perm L):Hp h F L':=⟨hm.tH,λp hq=>hm.own p (hp.mem_iff.1 hq),λp hq=>hm.sep p (hp.mem_iff.1 hq),((hp.map _).nodup_iff).2 hm.nodup,hm.live,hm.gl⟩
theorem Hp.weaken (hm:Hp h F' L)(hf:F.le F')(hg:Gl F.m):Hp h F L:=⟨λb o hb=>hm.tH b o (hf.1 b o hb),hm.own,(λp hp=>by
 cases hb:F.m p.1 with
 | none=>rfl
 | some o=>(have:=hm.sep p hp);rw [hf.1 _ _ hb] at this;cases this),hm.nodup,(λb hb=>hm.live b (hf.2.2 b hb)),hg⟩
theorem Hp.Kl (hm:Hp h F L)(o:Obj)(cs:List Value)(T:BT)(ho:vW (some o) (h.size,cs,T)):Hp (h.push o) F ((h.size,cs,T)::L):=by
 refine⟨λb o hb=>?_,λp hp=>?_,λp hp=>?_,?_,λb hb=>?_,hm.gl⟩
 ·have:=hm.W0 hb
  rw [Array.getElem?_push,if_neg (by omega)];exact hm.tH b o hb
 ·rcases List.mem_cons.1 hp with rfl | hp
  ·simpa using ho
  ·have:=hm.lt hp
   rw [Array.getElem?_push,if_neg (by omega)];exact hm.own p hp
 ·rcases List.mem_cons.1 hp with rfl | hp
  ·cases hb:F.m h.size with
   | none=>rfl
   | some o=>have:=hm.W0 hb;omega
  ·exact hm.sep p hp
 ·rw [List.map_cons,List.nodup_cons];refine⟨λlH=>?_,hm.nodup⟩;obtain⟨q,hq,he⟩:=List.mem_map.1 lH
  have:=hm.lt hq
  omega
 ·obtain⟨cs',T',h1,h3⟩:=hm.live b hb;have h2:=(Array.getElem?_eq_some_iff.1 h1).1;exact⟨cs',T',by rw [Array.getElem?_push,if_neg (by omega)];exact h1,h3⟩
theorem Hp.push (hm:Hp h F L)(cs:List Value)(T:TypeId):Hp (h.push (.cells cs.toArray T (0,0))) F ((h.size,cs,BT.c T)::L):=hm.Kl _ cs T (.mk rfl)
theorem Hp.W1 (hm:Hp h F L){j B:Nat}{cs cs':List Value}{T:BT}(hj:L[j]?=some (B,cs,T))(ho:∀ b,b≠B->h'[b]?=h[b]?)(hb:vW h'[B]? (B,cs',T))(hl:∀ c t,h[B]?=some (.cells c t (0,0))->∃ c,h'[B]?=some (.cells c t (0,0))):Hp h' F (L.set j (B,cs',T)):=by
 have GA:j<L.length:=(List.getElem?_eq_some_iff.1 hj).1;have tC:(L.set j (B,cs',T)).map (·.1)=L.map (·.1):=by
  rw [List.map_set];apply List.ext_getElem?;intro i
  by_cases e:j=i
  ·subst e;rw [List.getElem?_set_self (by simpa using GA),List.getElem?_map,hj];rfl
  ·rw [List.getElem?_set_ne e]
 refine⟨λb o We=>?_,λp hp=>?_,λp hp=>?_,by rw [tC];exact hm.nodup,λb hbi=>?_,hm.gl⟩
 ·have eH:b≠B:=λe=>by
   subst e
   have:=hm.sep _ (List.mem_of_getElem? hj)
   simp only at this;rw [this] at We;cases We
  rw [ho b eH];exact hm.tH b o We
 ·obtain⟨i,hi⟩:=List.mem_iff_getElem?.1 hp
  by_cases e:j=i
  ·subst e;rw [List.getElem?_set_self GA] at hi;obtain rfl:=Option.some.inj hi;exact hb
  ·rw [List.getElem?_set_ne e] at hi;have eH:p.1≠B:=λhe=>by
    have h1:(L.map (·.1))[i]?=some p.1:=by simp [hi]
    have h2:(L.map (·.1))[j]?=some B:=by simp [hj]
    rw [he] at h1;obtain⟨j5,Ur⟩:=List.getElem?_eq_some_iff.1 h1;obtain⟨No,Us⟩:=List.getElem?_eq_some_iff.1 h2;exact e ((List.getElem_inj (h₀:=j5) (h₁:=No) hm.nodup).1 (Ur.trans Us.symm)).symm
   rw [ho _ eH];exact hm.own p (List.mem_of_getElem? hi)
 ·have:p.1∈L.map (·.1):=by rw [<- tC];exact List.mem_map.2 ⟨p,hp,rfl⟩
  obtain⟨q,hq,he⟩:=List.mem_map.1 this;rw [<- he];exact hm.sep q hq
 ·obtain⟨c0,T0,h1,h3⟩:=hm.live b hbi
  by_cases e:b=B
  ·subst e;obtain⟨c,h4⟩:=hl _ _ h1;exact⟨c,T0,h4,h3⟩
  ·exact⟨c0,T0,by rw [ho b e];exact h1,h3⟩
theorem Hp.put (hm:Hp h F L){j B:Nat}{cs cs':List Value}{T:TypeId}{fz:Nat×Nat}(hj:L[j]?=some (B,cs,BT.c T))(ho:∀ b,b≠B->h'[b]?=h[b]?)(h0:h[B]?=some (.cells cs.toArray T fz))(hz:LP fz cs'.length)(hb:h'[B]?=some (.cells cs'.toArray T fz)):Hp h' F (L.set j (B,cs',BT.c T)) :=
 hm.W1 hj ho ⟨fz,hz,hb⟩ λc t h1=>by rw [h0] at h1;cases h1;exact⟨_,hb⟩
def iH.add (F:iH)(h:Array Obj)(L:List gJ):iH:=⟨λb=>match L.find? (λp=>p.1 == b) with
 | some _=>h[b]?
 | none=>F.m b,F.fF,F.lv,F.inj,F.Ol⟩
theorem Hp.freeze (hm:Hp h F (Lv++L)):Hp h (F.add h Lv) L/\F.le (F.add h Lv):=by
 have hn:=hm.nodup;rw [List.map_append,List.nodup_append] at hn;refine⟨⟨λb o hb=>?_,λp hp=>hm.own p (by simp [hp]),λp hp=>?_,hn.2.1,hm.live,hm.gl.mono λb o hb=>?_⟩,⟨λb o hb=>?_,λ_ _ h=>h,λ_ h=>h⟩⟩
 ·simp only [iH.add] at hb
  split at hb
  ·exact hb
  ·exact hm.tH b o hb
 ·simp only [iH.add];split
  ·rename_i q hq;have h1:=List.find?_some hq;have h2:=List.mem_of_find?_eq_some hq;simp at h1;exact absurd rfl (hn.2.2 q.1 (List.mem_map.2 ⟨q,h2,rfl⟩) q.1 (by rw [h1];exact List.mem_map.2 ⟨p,hp,rfl⟩))
  ·exact hm.sep p (by simp [hp])
 ·simp only [iH.add];split
  ·exact hm.tH b o hb
  ·exact hb
 ·simp only [iH.add];split
  ·exact hm.tH b o hb
  ·exact hb
theorem add_get (hm:Hp h F (Lv++L)){p:gJ}(hp:p∈Lv):vW ((F.add h Lv).m p.1) p:=by
 simp only [iH.add];cases hf:Lv.find? (λq=>q.1 == p.1) with
 | none =>
  have:=List.find?_eq_none.1 hf p hp
  simp at this
 | some q=>exact hm.own p (by simp [hp])
def iH.node (F:iH)(i B:Nat)(hB:∀ j,F.fF j≠some B):iH:=⟨F.m,λj=>if j=i then some B else F.fF j,λb=>b=B∨F.lv b,λa b c h1 h2=>by
 by_cases ha:a=i <;> by_cases hb:b=i
 ·rw [ha,hb]
 ·rw [if_pos ha] at h1;rw [if_neg hb] at h2;cases h1;exact absurd h2 (hB b)
 ·rw [if_neg ha] at h1;rw [if_pos hb] at h2;cases h2;exact absurd h1 (hB a)
 ·rw [if_neg ha] at h1;rw [if_neg hb] at h2;exact F.inj a b c h1 h2,λj b hj=>by
 by_cases e:j=i
 ·rw [if_pos e] at hj;cases hj;exact .inl rfl
 ·rw [if_neg e] at hj;exact .inr (F.Ol j b hj)⟩
theorem iH.Km {i B:Nat}{hB:∀ j,F.fF j≠some B}(hi:F.fF i=none):F.le (F.node i B hB):=⟨λ_ _ h=>h,λj b hj=>by
 show (if j=i then some B else F.fF j)=some b
 by_cases e:j=i
 ·subst e;rw [hi] at hj;cases hj
 ·rw [if_neg e];exact hj,λ_ h => .inr h⟩
theorem Hp.node {i B:Nat}{hB:∀ j,F.fF j≠some B}(hm:Hp h F L)(hb:∃ cs T,h[B]?=some (.cells cs T (0,0))/\T≠uT):Hp h (F.node i B hB) L:=⟨hm.tH,hm.own,hm.sep,hm.nodup,(λb hl=>by
 rcases hl with rfl | hl
 ·exact hb
 ·exact hm.live b hl),hm.gl⟩
theorem Hp.fresh (hm:Hp h F L):∀ j,F.fF j≠some h.size:=λj hj=>by
 obtain⟨cs,T,h1,_⟩:=hm.live _ (F.Ol j _ hj)
 have:=(Array.getElem?_eq_some_iff.1 h1).1
 omega
structure Ef (P:Program)(ρ:List Value)(o:Oper)(h:Array Obj)(Q:Value->Array Obj->Prop):Prop where
 out:∀ E w,At E h w->∃ n w' h' v,(execOp (ev ρ) o).run P w = .ok n w'/\At E h' w'/\(n = .value v∨(n = .skip/\v=undef))/\Q v h'
theorem Om {P:Program}{E:Env}{ops rest:List Oper}{K:List Value->Array Obj->Prop}{ρ:List Value}{o:Oper}{Q:Value->Array Obj->Prop}(hg:Region.wanted o (yielded ops.toArray (act ρ).tmps)=true)(hx:Ef P ρ o h Q)(hk:∀ v h',Q v h'->LW P E ops K rest (o7 ρ o.dst v) h'):LW P E ops K (o::rest) ρ h:=by
 refine⟨λw hw=>?_⟩;unfold wpList;rw [if_pos hg];refine .inl ?_;obtain⟨n,w',h',v,hr,hA,hn,hQ⟩:=hx.out E w hw;unfold Oper.wp;rw [ry,hr];rcases hn with rfl | ⟨rfl,rfl⟩
 ·rw [Oper.upon_value,pI];exact (hk _ _ hQ).out w' hA
 ·rw [Oper.upon_skip,pI];exact (hk _ _ hQ).out w' hA
theorem Ef.DI {P:Program}{ρ:List Value}{o:Oper}{v:Value}{Q:Value->Array Obj->Prop}(hx:Ex P ρ o h v h')(hQ:Q v h'):Ef P ρ o h Q :=
 ⟨λE w hw=>by obtain⟨n,w',h1,h2,h3⟩:=hx.out E w hw;exact⟨n,w',h',v,h1,h2,h3,hQ⟩⟩
theorem Ef.mono {P:Program}{ρ:List Value}{o:Oper}{Q Q':Value->Array Obj->Prop}(hx:Ef P ρ o h Q)(hQ:∀ v h',Q v h'->Q' v h'):Ef P ρ o h Q' :=
 ⟨λE w hw=>by obtain⟨n,w',h',v,h1,h2,h3,h4⟩:=hx.out E w hw;exact⟨n,w',h',v,h1,h2,h3,hQ _ _ h4⟩⟩
end
theorem Bz:∀ (f:Fl) (fs:List Fl) (x:CT f fs),(oC f fs x).length=1+fs.length
 | _,[],_=>rfl
 | _,g::fs,x=>by simp [oC,Bz g fs x.2];omega
theorem mQ:∀ (e:E) (x:e.T),(e.enc x).length=e.sz
 | .int,_=>rfl | .u8,_=>rfl | .str,_=>rfl | .bool,_=>rfl | .attr,_=>rfl | .node,_=>rfl | .QE,_=>rfl | .nE,_=>rfl | .np,_=>rfl
 | .rc f fs k,x=>by simp [E.enc,Bz,E.sz]
theorem EH:∀ (e:E),0<e.sz:=by intro e;cases e <;> first | decide | (simp only [E.sz];omega)
inductive Rd (F:iH):List D->List Value->Prop
 | nil:Rd F [] []
 | int {k n ds vs}:Rd F ds vs->Rd F (.int k n::ds) (.int k n::vs)
 | bool {b ds vs}:Rd F ds vs->Rd F (.bool b::ds) (.bool b::vs)
 | str {l ds vs}:Rd F ds vs->Rd F (.str l::ds) (bs l::vs)
 | Ar {ds vs}:Rd F ds vs->Rd F (.nil::ds) (.slice none 0 0::vs)
 | kA {ds vs}:Rd F ds vs->Rd F (.kA::ds) (.pointer none::vs)
 | aB {e:E} {xs:List e.T} {q:Option Addr} {cp:Nat} {ds vs} (cs:Nat->List Value) (pb:xs.length<=cp) (h1:∀ i x,xs[i]?=some x->q=some ⟨lb q,ka q,none⟩/\jO F (lb q) (ka q+i*e.sz) (cs i)) (h2:∀ i x,xs[i]?=some x->Rd F (e.enc x) (cs i)) (h:Rd F ds vs):Rd F (.aB e xs::ds) (.slice q xs.length cp::vs)
 | fp {CO:List D} {off B o:Nat} {cs:List Value} {ds vs} (h1:jO F B o cs) (h2:Rd F CO cs) (h:Rd F ds vs):Rd F (.fp CO off::ds) (.pointer (some ⟨B,o+off,none⟩)::vs)
 | I_ {ds vs}:Rd F ds vs->Rd F (.np none::ds) (.pointer none::vs)
 | Gr {i B ds vs} (hB:F.fF i=some B) (h:Rd F ds vs):Rd F (.np (some i)::ds) (.pointer (some ⟨B,0,none⟩)::vs)
 | any {v ds vs} (h1:v.oneCell'=true) (h:Rd F ds vs):Rd F (.any::ds) (v::vs)
 | mT {ds vs}:Rd F ds vs->Rd F (.mT::ds) (.map none::vs)
 | gm {n b ds vs} (h1:∃ T z,F.m n=some (.cells #[.map (some b)] T z)) (h:Rd F ds vs):Rd F (.gm n::ds) (.map (some b)::vs)
 | mA {ds vs}:Rd F ds vs->Rd F (.mA::ds) (.nilIface::vs)
 | vR {ds vs}:Rd F ds vs->Rd F (.vR::ds) (.nilFunc::vs)
 | err {b:Bool} {v ds vs} (h1:if b then ∃ T u,v = .iface T u else v = .nilIface) (h:Rd F ds vs):Rd F (.err b::ds) (v::vs)
 | zQ {T:TypeId} {l:List D} {cs:List Value} {ds vs} (h1:Rd F l cs) (h:Rd F ds vs):Rd F (.zQ T l::ds) (.iface T (.agg cs.toArray)::vs)
 | mq {f:FuncId} {l:List D} {cs:List Value} {ds vs} (h1:Rd F l cs) (h:Rd F ds vs):Rd F (.mq f l::ds) (.func (.func f) #[] cs.toArray::vs)
 | agg {l:List D} {cs:List Value} {ds vs} (h1:Rd F l cs) (h:Rd F ds vs):Rd F (.agg l::ds) (.agg cs.toArray::vs)
section
variable {F F':iH}{ds:List D}{vs:List Value}{d:D}{v:Value}
theorem Rd.mono (hr:Rd F ds vs)(hf:F.le F'):Rd F' ds vs:=by
 induction hr with
 | nil=>exact .nil
 | int _ ih=>exact .int ih
 | bool _ ih=>exact .bool ih
 | str _ ih=>exact .str ih
 | Ar _ ih=>exact .Ar ih
 | kA _ ih=>exact .kA ih
 | I_ _ ih=>exact .I_ ih
 | Gr hB _ ih=>exact .Gr (hf.2.1 _ _ hB) ih
 | any h1 _ ih=>exact .any h1 ih
 | mT _ ih=>exact .mT ih
 | gm h1 _ ih=>obtain⟨T,z,h1⟩:=h1;exact .gm ⟨T,z,hf.1 _ _ h1⟩ ih
 | mA _ ih=>exact .mA ih
 | vR _ ih=>exact .vR ih
 | err h1 _ ih=>exact .err h1 ih
 | zQ h1 h To ih=>exact .zQ To ih
 | mq h1 h To ih=>exact .mq To ih
 | aB cs pb h1 h2 h Ri ih=>exact .aB cs pb (λi x hx=>⟨(h1 i x hx).1,(h1 i x hx).2.mono hf⟩) Ri ih
 | fp h1 h2 h Ri ih=>exact .fp (h1.mono hf) Ri ih
 | agg h1 h To ih=>exact .agg To ih
theorem Rd.length (hr:Rd F ds vs):vs.length=ds.length:=by
 induction hr with
 | nil=>rfl
 | int _ ih=>simp [ih]
 | bool _ ih=>simp [ih]
 | str _ ih=>simp [ih]
 | Ar _ ih=>simp [ih]
 | kA _ ih=>simp [ih]
 | I_ _ ih=>simp [ih]
 | Gr hB _ ih=>simp [ih]
 | any h1 _ ih=>simp [ih]
 | mT _ ih=>simp [ih]
 | gm h1 _ ih=>simp [ih]
 | mA _ ih=>simp [ih]
 | vR _ ih=>simp [ih]
 | err h1 _ ih=>simp [ih]
 | zQ h1 h To ih=>simp [ih]
 | mq h1 h To ih=>simp [ih]
 | aB cs pb h1 h2 h Ri ih=>simp [ih]
 | fp h1 h2 h Ri ih=>simp [ih]
 | agg h1 h To ih=>simp [ih]
theorem Rd.cons (h1:Rd F [d] [v])(h2:Rd F ds vs):Rd F (d::ds) (v::vs):=by
 cases h1 with
 | int _=>exact .int h2
 | bool _=>exact .bool h2
 | str _=>exact .str h2
 | Ar _=>exact .Ar h2
 | kA _=>exact .kA h2
 | I_ _=>exact .I_ h2
 | Gr hB _=>exact .Gr hB h2
 | any h1 _=>exact .any h1 h2
 | mT _=>exact .mT h2
 | gm h1 _=>exact .gm h1 h2
 | mA _=>exact .mA h2
 | vR _=>exact .vR h2
 | err h1 _=>exact .err h1 h2
 | zQ a _=>exact .zQ a h2
 | mq a _=>exact .mq a h2
 | aB cs pb a b _=>exact .aB cs pb a b h2
 | fp a b _=>exact .fp a b h2
 | agg a _=>exact .agg a h2
theorem Rd.head (h:Rd F (d::ds) (v::vs)):Rd F [d] [v]:=by
 cases h with
 | int _=>exact .int .nil
 | bool _=>exact .bool .nil
 | str _=>exact .str .nil
 | Ar _=>exact .Ar .nil
 | kA _=>exact .kA .nil
 | I_ _=>exact .I_ .nil
 | Gr hB _=>exact .Gr hB .nil
 | any h1 _=>exact .any h1 .nil
 | mT _=>exact .mT .nil
 | gm h1 _=>exact .gm h1 .nil
 | mA _=>exact .mA .nil
 | vR _=>exact .vR .nil
 | err h1 _=>exact .err h1 .nil
 | zQ a _=>exact .zQ a .nil
 | mq a _=>exact .mq a .nil
 | aB cs pb a b _=>exact .aB cs pb a b .nil
 | fp a b _=>exact .fp a b .nil
 | agg a _=>exact .agg a .nil
theorem Rd.uu {ds:List D}{off:Nat}(h:Rd F [.fp ds off] [v]):∃ B o cs,v = .pointer (some ⟨B,o+off,none⟩)/\jO F B o cs/\Rd F ds cs:=by
 cases h with
 | fp h1 h2 _=>exact⟨_,_,_,rfl,h1,h2⟩
theorem Rd.tail (h:Rd F (d::ds) (v::vs)):Rd F ds vs:=by cases h <;> assumption
theorem Rd.az (h:Rd F (d::ds) vs):∃ v BA,vs=v::BA/\Rd F [d] [v]/\Rd F ds BA:=by
 match vs,h with
 | [],h=>have:=h.length;simp at this
 | v::BA,h=>exact⟨v,BA,rfl,h.head,h.tail⟩
theorem Rd.get:∀ {ds:List D} {vs:List Value} {i:Nat} {d:D},Rd F ds vs->ds[i]?=some d->∃ v,vs[i]?=some v/\Rd F [d] [v]
 | [],_,i,d,_,h=>by simp at h
 | d0::ds,vs,i,d,hr,h=>by
  obtain⟨v,BA,rfl,h1,h2⟩:=hr.az
  match i with
  | 0=>simp at h;subst h;exact⟨v,rfl,h1⟩
  | i+1 =>
   obtain⟨u,hu,hr⟩:=Rd.get h2 (by simpa using h);exact⟨u,by simpa using hu,hr⟩
theorem Rd.take:∀ {ds:List D} {vs:List Value} (n:Nat),Rd F ds vs->Rd F (ds.take n) (vs.take n)
 | _,_,0,_ => .nil
 | [],vs,n+1,h=>by cases h;exact .nil
 | d::ds,vs,n+1,h=>by obtain⟨v,BA,rfl,h1,h2⟩:=h.az;exact h1.cons (h2.take n)
theorem Rd.drop:∀ {ds:List D} {vs:List Value} (n:Nat),Rd F ds vs->Rd F (ds.drop n) (vs.drop n)
 | _,_,0,h=>h
 | [],vs,n+1,h=>by cases h;exact .nil
 | d::ds,vs,n+1,h=>by obtain⟨v,BA,rfl,h1,h2⟩:=h.az;exact h2.drop n
theorem Rd.append:∀ {ds CO:List D} {vs BA:List Value},Rd F ds vs->Rd F CO BA->Rd F (ds++CO) (vs++BA)
 | [],_,vs,_,h,h'=>by cases h;exact h'
 | d::ds,_,vs,_,h,h'=>by obtain⟨v,YW,rfl,h1,h2⟩:=h.az;exact h1.cons (h2.append h')
theorem Rd.set:∀ {ds:List D} {vs:List Value} {i:Nat} {d:D} {v:Value},Rd F ds vs->Rd F [d] [v]->Rd F (ds.set i d) (vs.set i v)
 | [],vs,i,d,v,h,_=>by cases h;exact .nil
 | d0::ds,vs,i,d,v,h,hd=>by
  obtain⟨v0,BA,rfl,h1,h2⟩:=h.az
  match i with
  | 0=>exact hd.cons h2
  | i+1=>exact h1.cons (h2.set hd)
theorem Rd.one (hr:Rd F [d] [v])(hp:d.plain=true):v.oneCell'=true:=by
 cases hr with
 | @err b v _ _ h1 _ =>
  cases b with
  | true=>obtain⟨T,u,rfl⟩:=h1;rfl
  | false=>cases h1;rfl
 | _=>first | rfl | assumption | (simp [D.plain] at hp)
theorem Rd.Rj:∀ {ds:List D} {vs:List Value},Rd F ds vs->ds.all D.plain=true->∀ v∈vs,v.oneCell'=true
 | [],vs,h,_,v,hv=>by cases h;cases hv
 | d::ds,vs,h,hp,v,hv=>by
  obtain⟨v0,BA,rfl,h1,h2⟩:=h.az;simp only [List.all_cons,Bool.and_eq_true] at hp;rcases List.mem_cons.1 hv with rfl | hv
  ·exact h1.one hp.1
  ·exact Rd.Rj h2 hp.2 v hv
theorem xX:∀ (f:Fl) (x:f.T),(f.enc x).plain=true:=by intro f x;cases f <;> rfl
theorem xY:∀ (f:Fl) (fs:List Fl) (x:CT f fs),(oC f fs x).all D.plain=true
 | f,[],x=>by simp [oC,xX]
 | f,g::fs,x=>by
  have:=xY g fs x.2
  simp only [oC,List.all_cons,xX,this,Bool.and_true]
theorem y_:∀ (e:E) (x:e.T),(e.enc x).all D.plain=true
 | .int,_=>rfl | .u8,_=>rfl | .str,_=>rfl | .bool,_=>rfl | .attr,_=>rfl | .node,_=>rfl | .QE,_=>rfl | .nE,_=>rfl | .np,_=>rfl
 | .rc f fs k,x=>by simp only [E.enc,List.all_append,xY,Bool.true_and];simp [D.plain]
theorem Rd.at {e:E}{xs:List e.T}(hr:Rd F [.aB e xs] [v]):∃ q cp,v = .slice q xs.length cp/\xs.length<=cp/\∀ i x,xs[i]?=some x->∃ cs,q=some ⟨lb q,ka q,none⟩/\jO F (lb q) (ka q+i*e.sz) cs/\Rd F (e.enc x) cs:=by
 cases hr with
 | aB cs pb h1 h2 _=>exact⟨_,_,rfl,pb,λi x hx=>⟨cs i,(h1 i x hx).1,(h1 i x hx).2,h2 i x hx⟩⟩
theorem Rd.GZ {e:E}{xs:List e.T}{q:Option Addr}{cp:Nat}(pb:xs.length<=cp)(h:∀ i x,xs[i]?=some x->∃ cs,q=some ⟨lb q,ka q,none⟩/\jO F (lb q) (ka q+i*e.sz) cs/\Rd F (e.enc x) cs):Rd F [.aB e xs] [.slice q xs.length cp]:=by
 classical
 refine .aB (λi=>if hx:∃ x,xs[i]?=some x then (h i hx.choose hx.choose_spec).choose else []) pb (λi x hx=>?_) (λi x hx=>?_) .nil
 ·have hh:∃ x,xs[i]?=some x:=⟨x,hx⟩;simp only [dif_pos hh]
  have:=(h i hh.choose hh.choose_spec).choose_spec
  exact⟨this.1,this.2.1⟩
 ·have hh:∃ x,xs[i]?=some x:=⟨x,hx⟩;simp only [dif_pos hh]
  have:=(h i hh.choose hh.choose_spec).choose_spec
  have he:hh.choose=x:=Option.some.inj (hh.choose_spec.symm.trans hx);rw [<- he];exact this.2.2
theorem Rd.EI (e:E):Rd F [.nil] [v]->Rd F [.aB e []] [v]:=by
 intro h;cases h with
 | Ar _=>exact .aB (λ_=>[]) (Nat.le_refl _) (λi x hx=>by simp at hx) (λi x hx=>by simp at hx) .nil
theorem DJ {CU:List Attr}(h:uj d=some CU)(hr:Rd F [d] [v]):Rd F [.aB .attr CU] [v]:=by
 unfold uj at h
 split at h
 ·cases h;exact hr
 ·cases h;exact Rd.EI _ hr
 ·cases h
theorem jc:∀ {e e':E} {xs:List e.T} {ys:List e'.T},lq e e' xs=some ys->∃ h:e=e',h ▸ xs=ys:=by
 intro e e' xs ys h;unfold lq at h
 split at h
 ·rename_i he;cases h;exact⟨he,rfl⟩
 ·cases h
theorem nG {o:Option Nat}(h:qH d=some o)(hr:Rd F [d] [v]):Rd F [.np o] [v]:=by
 unfold qH at h
 split at h
 ·cases h;exact hr
 ·cases h;cases hr with
  | kA _=>exact .I_ .nil
 ·cases h
theorem rF {e:E}{xs:List e.T}(h:Aq e d=some xs)(hr:Rd F [d] [v]):Rd F [.aB e xs] [v]:=by
 unfold Aq at h
 split at h
 ·obtain⟨rfl,rfl⟩:=jc h;exact hr
 ·cases h;exact Rd.EI _ hr
 ·cases h
theorem Rd.BB (hr:Rd F [d] [v])(hp:d.plain=true):Rd F [.any] [v] := .any (hr.one hp) .nil
theorem Rd.Ba:∀ {ds:List D} {vs:List Value},Rd F ds vs->ds.all D.plain=true->Rd F (List.replicate ds.length .any) vs
 | [],vs,h,_=>by cases h;exact .nil
 | d::ds,vs,h,hp=>by obtain⟨v,BA,rfl,h1,h2⟩:=h.az;simp only [List.all_cons,Bool.and_eq_true] at hp;exact (h1.BB hp.1).cons (Rd.Ba h2 hp.2)
theorem UM {x:Unit}(h:cond d.plain (some ()) none=some x)(hr:Rd F [d] [v]):Rd F [.any] [v]:=by
 cases hp:d.plain with
 | false=>rw [hp] at h;cases h
 | true=>exact hr.BB hp
theorem On:∀ {f:Fl} {x:f.T},f.dec d=some x->Rd F [d] [v]->Rd F [f.enc x] [v]:=by
 intro f x h hr;unfold Fl.dec at h
 split at h
 ·rename_i k k' n;cases hk:decide (k'=k) with
  | false=>rw [hk] at h;cases h
  | true =>
   rw [hk] at h;cases h
   have:k'=k:=by simpa using hk
   subst this;exact hr
 ·cases h;exact hr
 ·cases h;exact hr
 ·exact nG h hr
 ·cases h;exact hr
 ·cases h;exact hr
 ·exact rF h hr
 ·exact rF h hr
 ·exact rF h hr
 ·exact rF h hr
 ·exact rF h hr
 ·exact rF h hr
 ·rename_i d a b;cases hp:(a.plain && b.plain) with
  | false=>rw [hp] at h;cases h
  | true =>
   rw [hp] at h;simp only [cond_true] at h;rw [Bool.and_eq_true] at hp;cases hr with
   | fp h1 h2 h3 =>
    obtain⟨v0,vs,rfl,g0,h2⟩:=h2.az;obtain⟨v1,vs,rfl,g1,h2⟩:=h2.az;exact .fp h1 ((rF h g0).cons ((g1.BB hp.1).cons (h2.Ba (by simp [hp.2])))) h3
 ·rename_i a b;cases hp:(a.plain && b.plain) with
  | false=>rw [hp] at h;cases h
  | true =>
   rw [Bool.and_eq_true] at hp;cases hr with
   | fp h1 h2 h3 =>
    obtain⟨v0,vs,rfl,g0,h2⟩:=h2.az;obtain⟨v1,vs,rfl,g1,h2⟩:=h2.az;exact .fp h1 (g0.cons ((g1.BB hp.1).cons (h2.Ba (by simp [hp.2])))) h3
 ·cases h;exact hr
 ·cases h;exact hr
 ·exact UM h hr
 ·rename_i f f' d;cases hp:decide (f'=f) with
  | false=>rw [hp] at h;cases h
  | true =>
   rw [hp] at h;simp only [cond_true] at h
   have:f'=f:=by simpa using hp
   subst this;cases hr with
   | mq h1 h2 =>
    obtain⟨v0,vs,rfl,g0,h3⟩:=h1.az;obtain⟨v1,vs,rfl,g1,h4⟩:=h3.az;cases g1 with
    | fp a b c =>
     obtain⟨v2,vs2,rfl,g2,b⟩:=b.az;cases b;cases h4;exact .mq (g0.cons (.fp a (rF h g2) c)) h2
 ·cases h
theorem Oo:∀ {f:Fl} {fs:List Fl} {k:Nat} {ds:List D} {vs:List Value} {x:CT f fs},rR f fs k ds=some x->Rd F ds vs->Rd F (oC f fs x++List.replicate k .any) vs
 | f,[],k,d::ds,vs,x,h,hr=>by
  simp only [rR] at h;cases hp:(ds.length == k && ds.all D.plain) with
  | false=>rw [hp] at h;cases h
  | true =>
   rw [hp] at h;simp only [cond_true] at h;rw [Bool.and_eq_true,beq_iff_eq] at hp;obtain⟨v,BA,rfl,h1,h2⟩:=hr.az;rw [<- hp.1];exact (On h h1).cons (h2.Ba hp.2)
 | f,g::fs,k,d::ds,vs,x,h,hr=>by
  simp only [rR] at h;cases h1:f.dec d with
  | none=>rw [h1] at h;cases h
  | some a =>
   rw [h1] at h;simp only at h;cases h2:rR g fs k ds with
   | none=>rw [h2] at h;cases h
   | some b =>
    rw [h2] at h;cases h;obtain⟨v,BA,rfl,g1,g2⟩:=hr.az;exact (On h1 g1).cons (Oo h2 g2)
 | _,[],_,[],_,_,h,_=>by cases h
 | _,_::_,_,[],_,_,h,_=>by cases h
theorem Oq {n:Int}{c:UInt8}(h:zR n=some c):(c.toNat:Int)=n:=by
 unfold zR at h
 split at h
 ·rename_i hn;cases h;rw [UInt8.toNat_ofNat'];omega
 ·cases h
theorem kB:∀ {e:E} {ds:List D} {vs:List Value} {x:e.T},e.dec ds=some x->Rd F ds vs->Rd F (e.enc x) vs:=by
 intro e ds vs x h hr;unfold E.dec at h
 split at h
 ·cases h;exact hr
 ·have:=Oq h
  simp only [E.enc,this];exact hr
 ·cases h;exact hr
 ·cases h;exact hr
 ·cases h;exact hr
 ·rename_i k tg tx d z;cases hd:uj d with
  | none=>rw [hd] at h;cases h
  | some CU =>
   rw [hd] at h;cases h;obtain⟨v0,vs,rfl,h0,hr⟩:=hr.az;obtain⟨v1,vs,rfl,h1,hr⟩:=hr.az;obtain⟨v2,vs,rfl,h2,hr⟩:=hr.az;obtain⟨v3,vs,rfl,h3,hr⟩:=hr.az;exact h0.cons (h1.cons (h2.cons ((DJ hd h3).cons hr)))
 ·cases h;exact hr
 ·cases h;exact hr
 ·obtain⟨v,BA,rfl,h1,h2⟩:=hr.az;cases h2;exact nG h h1
 ·exact Oo h hr
 ·cases h
theorem HN.kB {CU:List cr}{n:HN}:∀ {ds:List D} {vs:List Value},HN.dec CU ds=some n->Rd F ds vs->Rd F n.enc vs/\n.attrs=CU:=by
 intro ds vs h hr;unfold HN.dec at h
 split at h
 ·rename_i a b c d e t m da nn;cases ha:qH a with
  | none=>rw [ha] at h;cases h
  | some a' =>
   cases hb:qH b with
   | none=>rw [ha,hb] at h;cases h
   | some b' =>
    cases hc:qH c with
    | none=>rw [ha,hb,hc] at h;cases h
    | some c' =>
     cases hd:qH d with
     | none=>rw [ha,hb,hc,hd] at h;cases h
     | some d' =>
      cases he:qH e with
      | none=>rw [ha,hb,hc,hd,he] at h;cases h
      | some e' =>
       rw [ha,hb,hc,hd,he] at h;cases h;obtain⟨v0,vs,rfl,h0,hr⟩:=hr.az;obtain⟨v1,vs,rfl,h1,hr⟩:=hr.az;obtain⟨v2,vs,rfl,h2,hr⟩:=hr.az;obtain⟨v3,vs,rfl,h3,hr⟩:=hr.az;obtain⟨v4,vs,rfl,h4,hr⟩:=hr.az;exact⟨(nG ha h0).cons ((nG hb h1).cons ((nG hc h2).cons ((nG hd h3).cons ((nG he h4).cons hr)))),rfl⟩
 ·cases h
end
theorem KN.kB {F:iH}{l:List (Option Nat)}{n:KN}:∀ {ds:List D} {vs:List Value},KN.dec l ds=some n->Rd F ds vs->Rd F n.enc vs/\n.kids=l:=by
 intro ds vs h hr;unfold KN.dec at h
 split at h
 ·rename_i a k tg tx d z p;cases hd:uj d with
  | none=>rw [hd] at h;cases h
  | some CU =>
   cases hp:qH p with
   | none=>rw [hd,hp] at h;cases h
   | some o =>
    rw [hd,hp] at h;cases h;obtain⟨v0,vs,rfl,h0,hr⟩:=hr.az;obtain⟨v1,vs,rfl,h1,hr⟩:=hr.az;obtain⟨v2,vs,rfl,h2,hr⟩:=hr.az;obtain⟨v3,vs,rfl,h3,hr⟩:=hr.az;obtain⟨v4,vs,rfl,h4,hr⟩:=hr.az;obtain⟨v5,vs,rfl,h5,hr⟩:=hr.az;obtain⟨v6,vs,rfl,h6,hr⟩:=hr.az;exact⟨h0.cons (h1.cons (h2.cons (h3.cons ((DJ hd h4).cons (h5.cons ((nG hp h6).cons hr)))))),rfl⟩
 ·cases h
theorem Cl.kB {F:iH}{c:Cl}{l:List c.e.T}{n:c.R}{ds:List D}{vs:List Value}(h:c.dec l ds=some n)(hr:Rd F ds vs):Rd F (c.enc n) vs/\c.xs n=l:=by
 cases c with
 | h=>exact HN.kB h hr
 | k=>exact KN.kB h hr
theorem Cl.mQ {c:Cl}(n:c.R):(c.enc n).length=c.n:=by cases c <;> rfl
theorem Cl.Ot {c:Cl}{l:List c.e.T}{n:c.R}{ds:List D}(h:c.dec l ds=some n):c.fz n=false:=by
 cases c with
 | h=>rfl
 | k =>
  have h:KN.dec l ds=some n:=h;unfold KN.dec at h
  split at h
  ·split at h
   ·cases h
   ·split at h
    ·cases h
    ·cases h;rfl
  ·cases h
theorem Cl.Kn {c:Cl}(n:c.R)(xs:List c.e.T):c.fz (c.wx n xs)=false:=by cases c <;> rfl
theorem Cl.UN {c:Cl}(n:c.R)(b:Bool):c.enc (c.wz n b)=c.enc n:=by cases c <;> rfl
theorem Cl.W2 {c:Cl}(n:c.R)(b:Bool):c.xs (c.wz n b)=c.xs n:=by cases c <;> rfl
theorem Cl.W3 {c:Cl}(n n':c.R):c.fz (c.wz n' (c.fz n))=c.fz n:=by cases c <;> rfl
theorem Cl.EJ {c:Cl}(n:c.R)(xs:List c.e.T):c.enc (c.wx n xs)=c.enc n:=by cases c <;> rfl
theorem Cl.Ko {c:Cl}(n:c.R)(xs:List c.e.T):c.xs (c.wx n xs)=xs:=by cases c <;> rfl
theorem Cl.cast_eq {c c':Cl}{hs:List c.R}{xm:List c'.R}(h:c.cast c' hs=some xm):∃ e:c=c',e ▸ hs=xm:=by
 unfold Cl.cast at h
 split at h
 ·rename_i e;cases h;exact⟨e,rfl⟩
 ·cases h
inductive F2 {α β:Type}(R:α->β->Prop):List α->List β->Prop
 | nil:F2 R [] []
 | cons {a:α} {b:β} {l:List α} {m:List β} (h:R a b) (t:F2 R l m):F2 R (a::l) (b::m)
abbrev Gh:=Nat->Value×List gJ
def L5 (x:Value)(o:Option (Nat×Nat))(v:Value):Prop :=
 match o with
 | none=>v = .pointer none
 | some q=>∃ (hd:List Value) (B n cp:Nat),x = .tuple hd.toArray/\hd[q.1]?=some (.slice (some ⟨B,0,none⟩) n cp)/\v = .pointer (some ⟨B,q.2*3,none⟩)
def EK (f B:Nat)(cs:List Value)(v:Value):Prop :=
 (f<1000000/\v = .func (.func f) #[] (Value.pointer (some ⟨B,0,none⟩)::cs).toArray)∨(∃ T,f=I4 T/\v = .iface T (.pointer (some ⟨B,0,none⟩))) ∨
 ∃ T c,f=ZM T c/\c<16/\v = .func (.method (WT c)) #[.iface T (.pointer (some ⟨B,0,none⟩))] #[]
def jM (F:iH)(ι:Gh)(d:D)(v:Value):Prop :=
 match d with
 | .u=>True
 | .fA=>v=undef
 | .own t=>v=(ι t).1
 | .op t o=>∃ B,(ι t).1 = .pointer (some ⟨B,0,none⟩)/\v = .pointer (some ⟨B,o,none⟩)
 | .oe t z i o=>∃ B n cp,(ι t).1 = .slice (some ⟨B,0,none⟩) n cp/\v = .pointer (some ⟨B,i*z+o,none⟩)
 | .nf i o=>∃ B,F.fF i=some B/\v = .pointer (some ⟨B,o,none⟩)
 | .na i=>∃ hd:List Value,(ι NT).1 = .tuple hd.toArray/\hd[i]?=some v
 | .Ap z i j o=>∃ (hd:List Value) (B n cp:Nat),(ι NT).1 = .tuple hd.toArray/\hd[i]?=some (.slice (some ⟨B,0,none⟩) n cp)/\v = .pointer (some ⟨B,j*z+o,none⟩)
 | .DD z i a b=>∃ (hd:List Value) (q:Option Addr) (n cp:Nat),(ι NT).1 = .tuple hd.toArray/\hd[i]?=some (.slice q n cp)/\a<=b/\b<=n/\v = .slice (if cp=a then q else q.map (·.add (a*z))) (b - a) (cp - a)
 | .vS ds t=>∃ cs:List Value,v = .agg (cs++[(ι t).1]).toArray/\Rd F ds cs
 | .xi t ds=>∃ cs:List Value,v = .agg ((ι t).1::cs).toArray/\Rd F ds cs
 | .mU f t ds=>∃ B cs,(ι t).1 = .pointer (some ⟨B,0,none⟩)/\EK f B cs v/\Rd F ds cs
 | .CN t b=>∃ B,(ι t).1 = .pointer (some ⟨B,0,none⟩)/\v=if b then .pointer (some ⟨B,0,none⟩) else .pointer none
 | .vo o=>L5 (ι NT).1 o v
 | d=>Rd F [d] [v]
def kQ (F:iH)(ι:Gh)(d:D)(v:Value):Prop :=
 match d with
 | .A9 ds=>∃ vs:List Value,v = .tuple vs.toArray/\F2 (jM F ι) ds vs
 | d=>jM F ι d v
def L6 (F:iH)(c:Cl)(A:TypeId)(n:c.R)(hd:Value)(Lv:List gJ):Prop :=
 ∃ q m cp rows nC,hd = .slice q m cp/\yO c.e.sz A q m cp nC rows/\F2 (λx r=>Rd F (c.e.enc x) r) (c.xs n) rows/\((c.fz n=false/\Lv=nC)∨(c.fz n=true/\Lv=[]/\∀ p∈nC,vW (F.m p.1) p))
theorem L6.own {F:iH}{c:Cl}{A:TypeId}{n:c.R}{hd:Value}{Lv:List gJ}(h:L6 F c A n hd Lv)(hz:c.fz n=false):∃ q m cp rows,hd = .slice q m cp/\yO c.e.sz A q m cp Lv rows/\F2 (λx r=>Rd F (c.e.enc x) r) (c.xs n) rows:=by
 obtain⟨q,m,cp,rows,nC,a,b,d,e⟩:=h;rcases e with⟨_,rfl⟩ | ⟨e,_⟩
 ·exact⟨q,m,cp,rows,a,b,d⟩
 ·rw [hz] at e;cases e
theorem L6.mk {F:iH}{c:Cl}{A:TypeId}{n:c.R}{hd:Value}{Lv:List gJ}{q:Option Addr}{m cp:Nat}{rows:List (List Value)}(a:hd = .slice q m cp)(b:yO c.e.sz A q m cp Lv rows)(d:F2 (λx r=>Rd F (c.e.enc x) r) (c.xs n) rows)(hz:c.fz n=false):L6 F c A n hd Lv :=
 ⟨q,m,cp,rows,Lv,a,b,d, .inl ⟨hz,rfl⟩⟩
theorem L6.same {F:iH}{c:Cl}{A:TypeId}{n n':c.R}{hd:Value}{Lv:List gJ}(h:L6 F c A n hd Lv)(hx:c.xs n'=c.xs n)(hz:c.fz n'=c.fz n):L6 F c A n' hd Lv:=by obtain⟨q,m,cp,rows,nC,a,b,d,e⟩:=h;exact⟨q,m,cp,rows,nC,a,b,by rw [hx];exact d,by rw [hz];exact e⟩
theorem vr {α:Type}{b:Bool}{x:Option α}{r:α}(h:cond b none x=some r):b=false/\x=some r:=by
 cases b with
 | true=>cases h
 | false=>exact⟨rfl,h⟩
inductive NR (F:iH){c:Cl}(T A:TypeId)(hole:Option Nat):Nat->List c.R->List Value->List gJ->Prop
 | nil {i}:NR F T A hole i [] [] []
 | cons {i h hs hd j6 B cs Lv L} (hB:F.fF i=some B) (hc:Rd F (c.enc h) cs) (h1:hd.oneCell'=true) (ha:hole≠some i->L6 F c A h hd Lv) (hh:hole=some i->Lv=[]) (t:NR F T A hole (i+1) hs j6 L):NR F T A hole i (h::hs) (hd::j6) ((B,cs++[hd],BT.c T)::(Lv++L))
def QG:List (Option Nat×Bool)->List D
 | []=>[]
 | p::l => .np p.1 :: .bool p.2::QG l
def kS (F:iH)(ι:Gh)(t:Nat):OB->Prop
 | .nodes _ T A hs hole=>t=NT/\∃ j6:List Value,(ι t).1 = .tuple j6.toArray/\NR F T A hole 0 hs j6 (ι t).2/\∀ j,hs.length<=j->F.fF j=none
 | .oD c hs=>(ι t).2=[]/\∀ i h,hs[i]?=some h->∃ B cs,F.fF i=some B/\jO F B 0 cs/\Rd F (c.enc h++[.aB c.e (c.xs h)]) cs
 | .rows e T xs=>∃ q n cp rows,(ι t).1 = .slice q n cp/\yO e.sz T q n cp (ι t).2 rows/\F2 (λx r=>Rd F (e.enc x) r) xs rows
 | .cells T ds=>∃ B cs,(ι t).1 = .pointer (some ⟨B,0,none⟩)/\(ι t).2=[(B,cs,BT.c T)]/\F2 (jM F ι) ds cs
 | .mp l=>∃ B cs,(ι t).1 = .map (some B)/\(ι t).2=[(B,cs,BT.map)]/\Rd F (QG l) cs
 | .ug l pos=>∃ B,(ι t).1 = .pointer (some ⟨B,0,none⟩)/\(ι t).2=[(B,[bs l,Value.int .i64 (pos:Int)],BT.ug)]
structure Rel (F:iH)(ι:Gh)(s:St)(ρ:List Value):Prop where
 len:ρ.length=s.n
 sl:∀ i,kQ F ι (s.sl i) (ρ.getD i undef)
 ow:∀ p∈s.ow,kS F ι p.1 p.2
 nd:(s.ow.map (·.1)).Nodup
def lv (ι:Gh)(ow:List (Nat×OB)):List gJ:=ow.flatMap λp=>(ι p.1).2
section
variable {F F':iH}{ι ι':Gh}{s s':St}{ρ:List Value}{d:D}{v:Value}{t:Nat}
theorem jM.aU (h:Rd F [d] [v]):jM F ι d v:=by cases d <;> first | exact h | trivial | cases h
theorem kQ.aU (h:Rd F [d] [v]):kQ F ι d v:=by
 cases d with
 | A9 ds=>cases h
 | _=>exact jM.aU (ι:=ι) h
theorem kQ.jd (h:jM F ι d v):kQ F ι d v:=by
 cases d with
 | A9 ds=>cases h
 | _=>exact h
theorem jM.mn (h:jM F ι d v)(hp:d.plain=true):Rd F [d] [v]:=by cases d <;> first | exact h | (simp [D.plain] at hp)
theorem kQ.EL (h:kQ F ι d v)(hp:∀ ds,d ≠ .A9 ds):jM F ι d v:=by cases d <;> first | exact h | exact absurd rfl (hp _)
theorem kQ.mn (h:kQ F ι d v)(hp:d.plain=true):Rd F [d] [v]:=(h.EL (λds e=>by subst e;simp [D.plain] at hp)).mn hp
theorem jM.mono (h:jM F ι d v)(hf:F.le F'):jM F' ι d v:=by cases d <;> first | exact Rd.mono h hf | exact h | (obtain⟨B,h1,h2⟩:=h;exact⟨B,hf.2.1 _ _ h1,h2⟩) | (obtain⟨cs,h1,h2⟩:=h;exact⟨cs,h1,h2.mono hf⟩) | (obtain⟨B,cs,h1,h2,h3⟩:=h;exact⟨B,cs,h1,h2,h3.mono hf⟩)
theorem cT {α β:Type}{R R':α->β->Prop}(hi:∀ a b,R a b->R' a b):∀ {l:List α} {m:List β},F2 R l m->F2 R' l m
 | _,_, .nil => .nil
 | _,_, .cons h t => .cons (hi _ _ h) (cT hi t)
theorem kQ.mono (h:kQ F ι d v)(hf:F.le F'):kQ F' ι d v:=by
 cases d with
 | A9 ds=>obtain⟨vs,h1,h2⟩:=h;exact⟨vs,h1,cT (λ_ _ h=>h.mono hf) h2⟩
 | _=>exact .jd ((kQ.EL h (λ_ e=>by cases e)).mono hf)
theorem L6.mono {c:Cl}{A:TypeId}{n:c.R}{hd:Value}{Lv:List gJ}(hf:F.le F')(h:L6 F c A n hd Lv):L6 F' c A n hd Lv:=by obtain⟨q,m,cp,rows,nC,a,b,d,e⟩:=h;refine⟨q,m,cp,rows,nC,a,b,cT (λ_ _ h=>h.mono hf) d,e.imp id λ⟨e1,e2,e3⟩=>⟨e1,e2,λp hp=>(e3 p hp).mono hf⟩⟩
theorem NR.mono {c:Cl}{T A:TypeId}{hole:Option Nat}(hf:F.le F'):∀ {i:Nat} {hs:List c.R} {j6:List Value} {L:List gJ},NR F T A hole i hs j6 L->NR F' T A hole i hs j6 L
 | _,_,_,_, .nil => .nil
 | _,_,_,_, .cons hB hc h1 ha hh t => .cons (hf.2.1 _ _ hB) (hc.mono hf) h1 (λhn=>(ha hn).mono hf) hh (NR.mono hf t)
def OB.YX:OB->Bool
 | .nodes _ _ _ _ _=>true
 | _=>false
theorem kS.mono {b:OB}(h:kS F ι t b)(hf:F.le F')(hn:b.YX=true->F'.fF=F.fF):kS F' ι t b:=by
 cases b with
 | nodes c T A hs hole =>
  obtain⟨h0,j6,h1,h2,h3⟩:=h;exact⟨h0,j6,h1,h2.mono hf,by rw [hn rfl];exact h3⟩
 | oD c hs =>
  exact⟨h.1,λi x hx=>by obtain⟨B,cs,a,b,c⟩:=h.2 i x hx;exact⟨B,cs,hf.2.1 _ _ a,b.mono hf,c.mono hf⟩⟩
 | rows e T xs =>
  obtain⟨q,n,cp,rows,h1,h2,h3⟩:=h;exact⟨q,n,cp,rows,h1,h2,cT (λ_ _ h=>h.mono hf) h3⟩
 | cells T ds =>
  obtain⟨B,cs,h1,h2,h3⟩:=h;exact⟨B,cs,h1,h2,cT (λ_ _ h=>h.mono hf) h3⟩
 | mp l =>
  obtain⟨B,cs,h1,h2,h3⟩:=h;exact⟨B,cs,h1,h2,h3.mono hf⟩
 | ug l pos=>exact h
theorem Rel.mono (h:Rel F ι s ρ)(hf:F.le F')(hn:F'.fF=F.fF):Rel F' ι s ρ:=⟨h.len,λi=>(h.sl i).mono hf,λp hp=>(h.ow p hp).mono hf λ_=>hn,h.nd⟩
theorem kS.YX {b:OB}(h:kS F ι t b)(hb:b.YX=true):t=NT:=by
 cases b with
 | nodes c T A hs hole=>exact h.1
 | _=>cases hb
theorem Rel.Ou (h:Rel F ι s ρ)(hf:F.le F')(hn:∀ p∈s.ow,p.1≠NT):Rel F' ι s ρ:=⟨h.len,λi=>(h.sl i).mono hf,λp hp=>(h.ow p hp).mono hf λhb=>absurd ((h.ow p hp).YX hb) (hn p hp),h.nd⟩
theorem bz {α β:Type}{R:α->β->Prop}:∀ {l:List α} {m:List β},F2 R l m->m.length=l.length
 | _,_, .nil=>rfl
 | _,_, .cons _ t=>by simp [bz t]
theorem gq {α β:Type}{R:α->β->Prop}:∀ {l:List α} {m:List β} {i:Nat} {a:α},F2 R l m->l[i]?=some a->∃ b,m[i]?=some b/\R a b
 | _,_,_,_, .nil,h=>by simp at h
 | _,_,0,a, .cons h t,ha=>by simp at ha;subst ha;exact⟨_,rfl,h⟩
 | _,_,i+1,a, .cons h t,ha=>by obtain⟨b,hb,hr⟩:=gq (i:=i) t (by simpa using ha);exact⟨b,by simpa using hb,hr⟩
theorem gR {b:OB}(h:s.look t=some b):(t,b)∈s.ow:=by
 unfold St.look at h;cases hf:s.ow.find? (λp=>p.1 == t) with
 | none=>rw [hf] at h;cases h
 | some p =>
  rw [hf] at h;have h1:=List.find?_some hf;simp at h1;cases h;rw [<- h1];exact List.mem_of_find?_eq_some hf
theorem Rel.look {b:OB}(hr:Rel F ι s ρ)(h:s.look t=some b):kS F ι t b:=hr.ow _ (gR h)
theorem rS {b:OB}(h:s.look t=some b){p:gJ}(hp:p∈(ι t).2):p∈lv ι s.ow:=List.mem_flatMap.2 ⟨_,gR h,hp⟩
theorem Rel.ev (hr:Rel F ι s ρ)(t:Nat):kQ F ι (s.sl t) (ev ρ (.tmp t)):=hr.sl t
theorem G0:∀ (v:Value),jM F ι (tG v) v
 | .int k n => .int .nil
 | .bool b => .bool .nil
 | .string s=>by
  have:Value.string s=bs s.data.toList:=by simp [bs]
  rw [this];have h2:tG (bs s.data.toList) = .str s.data.toList:=by simp [tG,bs]
  rw [h2];exact Rd.str .nil
 | .slice none 0 0 => .Ar .nil
 | .pointer none => .kA .nil
 | .map none => .mT .nil
 | .nilIface=>Rd.mA .nil
 | .nilFunc=>Rd.vR .nil
 | .slice (some _) _ _=>trivial
 | .slice none (_+1) _=>trivial
 | .slice none 0 (_+1)=>trivial
 | .pointer (some _)=>trivial
 | v=>by
  unfold tG
  split <;> first | trivial | exact Rd.int .nil | exact Rd.bool .nil | exact Rd.Ar .nil | exact Rd.kA .nil | exact Rd.mT .nil | exact Rd.mA .nil | exact Rd.vR .nil | skip
  rename_i s
  have:Value.string s=bs s.data.toList:=by simp [bs]
  rw [this];exact Rd.str .nil
theorem eR (hr:Rel F ι s ρ):∀ x:Operand,kQ F ι (g s x) (ev ρ x)
 | .tmp t=>hr.sl t
 | .const v => .jd (G0 v)
 | .global _=>trivial
 | .func _ => .jd (Rd.mq .nil .nil)
theorem Rel.set (hr:Rel F ι s ρ)(ht:t<s.n)(hd:kQ F ι d v):Rel F ι (s.set t d) (ρ.set t v) :=
 ⟨by simp [St.set,hr.len],λi=>by
  simp only [St.set]
  by_cases e:i=t
  ·subst e;simp [List.getD_eq_getElem?_getD,List.getElem?_set_self (show i<ρ.length by rw [hr.len];exact ht)];exact hd
  ·have:(i == t)=false:=by simp [e]
   rw [this];have h1:=hr.sl i;simp only [List.getD_eq_getElem?_getD] at h1 ⊢;rw [List.getElem?_set_ne (λh=>e h.symm)];exact h1,hr.ow,hr.nd⟩
theorem Rel.put {dst:Option Tmp}(hr:Rel F ι s ρ)(hp:s.put dst d=some s')(hd:dst≠none->kQ F ι d v):Rel F ι s' (o7 ρ dst v)/\s'.ow=s.ow/\s'.np=s.np/\s'.n=s.n/\s'.nw=s.nw:=by
 cases dst with
 | none=>cases hp;exact⟨hr,rfl,rfl,rfl,rfl⟩
 | some t =>
  simp only [St.put] at hp;cases hb:Nat.blt t s.n with
  | false=>rw [hb] at hp;cases hp
  | true =>
   rw [hb] at hp;cases hp;exact⟨hr.set (by simpa [Nat.blt_eq] using hb) (hd (by simp)),rfl,rfl,rfl,rfl⟩
theorem jM.au (h:jM F ι d v)(he:∀ t',t'≠t->ι' t'=ι t'):jM F ι' (d.bX t) v:=by
 cases d with
 | own t' =>
  simp only [D.bX]
  by_cases e:t'=t
  ·subst e;simp;trivial
  ·have:(t' == t)=false:=by simp [e]
   rw [this];show v=_;rw [he _ e];exact h
 | op t' o =>
  simp only [D.bX]
  by_cases e:t'=t
  ·subst e;simp;trivial
  ·have:(t' == t)=false:=by simp [e]
   rw [this];obtain⟨B,h1,h2⟩:=h;exact⟨B,by rw [he _ e];exact h1,h2⟩
 | oe t' z i o =>
  simp only [D.bX]
  by_cases e:t'=t
  ·subst e;simp;trivial
  ·have:(t' == t)=false:=by simp [e]
   rw [this];obtain⟨B,n,cp,h1,h2⟩:=h;exact⟨B,n,cp,by rw [he _ e];exact h1,h2⟩
 | na i =>
  simp only [D.bX]
  by_cases e:NT=t
  ·subst e;simp;trivial
  ·have:(NT == t)=false:=by simp [e]
   rw [this];obtain⟨hd,h1,h2⟩:=h;exact⟨hd,by rw [he _ e];exact h1,h2⟩
 | Ap z i j o =>
  simp only [D.bX]
  by_cases e:NT=t
  ·subst e;simp;trivial
  ·have:(NT == t)=false:=by simp [e]
   rw [this];obtain⟨hd,B,n,cp,h1,h2⟩:=h;exact⟨hd,B,n,cp,by rw [he _ e];exact h1,h2⟩
 | DD z i a b =>
  simp only [D.bX]
  by_cases e:NT=t
  ·subst e;simp;trivial
  ·have:(NT == t)=false:=by simp [e]
   rw [this];obtain⟨hd,q,n,cp,h1,h2⟩:=h;exact⟨hd,q,n,cp,by rw [he _ e];exact h1,h2⟩
 | vS ds t' =>
  simp only [D.bX]
  by_cases e:t'=t
  ·subst e;simp;trivial
  ·have:(t' == t)=false:=by simp [e]
   rw [this];obtain⟨cs,h1,h2⟩:=h;exact⟨cs,by rw [he _ e];exact h1,h2⟩
 | xi t' ds =>
  simp only [D.bX]
  by_cases e:t'=t
  ·subst e;simp;trivial
  ·have:(t' == t)=false:=by simp [e]
   rw [this];obtain⟨cs,h1,h2⟩:=h;exact⟨cs,by rw [he _ e];exact h1,h2⟩
 | mU f t' ds =>
  simp only [D.bX]
  by_cases e:t'=t
  ·subst e;simp;trivial
  ·have:(t' == t)=false:=by simp [e]
   rw [this];obtain⟨B,cs,h1,h2,h3⟩:=h;exact⟨B,cs,by rw [he _ e];exact h1,h2,h3⟩
 | vo o =>
  simp only [D.bX]
  by_cases e:NT=t
  ·subst e;simp;trivial
  ·have:(NT == t)=false:=by simp [e]
   rw [this];show L5 _ o v;rw [he _ e];exact h
 | CN t' b =>
  simp only [D.bX]
  by_cases e:t'=t
  ·subst e;simp;trivial
  ·have:(t' == t)=false:=by simp [e]
   rw [this];obtain⟨B,h1,h2⟩:=h;exact⟨B,by rw [he _ e];exact h1,h2⟩
 | _=>exact h
theorem jM.tH {x:D}(h:jM F ι d v)(hx:Rd F [x] [(ι t).1]):jM F ι (d.xj t x) v:=by
 cases d with
 | own t' =>
  simp only [D.xj]
  by_cases e:t'=t
  ·subst e;have h':v=(ι t').1:=h;simp;rw [h'];exact .aU hx
  ·have:(t' == t)=false:=by simp [e]
   rw [this];exact h
 | op t' o =>
  simp only [D.xj]
  by_cases e:t'=t
  ·subst e;simp only [beq_self_eq_true,cond_true];split
   ·rename_i ds off;obtain⟨B,h1,h2⟩:=h;obtain⟨B',o',cs,e',g1,g2⟩:=Rd.uu hx;rw [h1] at e';have e1:B=B'/\0=o'+off:=by simpa using e'
    obtain⟨rfl,e2⟩:=e1;have h0:o'=0/\off=0:=by omega
    obtain⟨rfl,rfl⟩:=h0
    have:=Rd.fp (off:=o) g1 g2 .nil
    rw [Nat.zero_add] at this;rw [h2];exact this
   ·trivial
  ·have:(t' == t)=false:=by simp [e]
   rw [this];exact h
 | na i =>
  simp only [D.xj]
  by_cases e:NT=t
  ·subst e;simp;trivial
  ·have:(NT == t)=false:=by simp [e]
   rw [this];exact h
 | Ap z i j o =>
  simp only [D.xj]
  by_cases e:NT=t
  ·subst e;simp;trivial
  ·have:(NT == t)=false:=by simp [e]
   rw [this];exact h
 | DD z i a b =>
  simp only [D.xj]
  by_cases e:NT=t
  ·subst e;simp;trivial
  ·have:(NT == t)=false:=by simp [e]
   rw [this];exact h
 | vS ds t' =>
  simp only [D.xj]
  by_cases e:t'=t
  ·subst e;simp;trivial
  ·have:(t' == t)=false:=by simp [e]
   rw [this];exact h
 | xi t' ds =>
  simp only [D.xj]
  by_cases e:t'=t
  ·subst e;simp;trivial
  ·have:(t' == t)=false:=by simp [e]
   rw [this];exact h
 | mU f t' ds =>
  simp only [D.xj]
  by_cases e:t'=t
  ·subst e;simp;trivial
  ·have:(t' == t)=false:=by simp [e]
   rw [this];exact h
 | vo o =>
  simp only [D.xj]
  by_cases e:NT=t
  ·subst e;simp;trivial
  ·have:(NT == t)=false:=by simp [e]
   rw [this];exact h
 | CN t' b =>
  simp only [D.xj]
  by_cases e:t'=t
  ·subst e;simp;trivial
  ·have:(t' == t)=false:=by simp [e]
   rw [this];exact h
 | oe t' z i o =>
  simp only [D.xj]
  by_cases e:t'=t
  ·subst e;simp;trivial
  ·have:(t' == t)=false:=by simp [e]
   rw [this];exact h
 | _=>exact h
end
section
variable {F F':iH}{ι ι':Gh}{s s':St}{ρ:List Value}{d:D}{v:Value}{t:Nat}{L0:List gJ}{h:Array Obj}
theorem CX:∀ d:D,(d.bX t).bX t=d.bX t:=by
 intro d;cases d with
 | own t'=>cases hb:(t' == t) <;> simp [hb,D.bX]
 | op t' o=>cases hb:(t' == t) <;> simp [hb,D.bX]
 | oe t' z i o=>cases hb:(t' == t) <;> simp [hb,D.bX]
 | na i=>cases hb:(NT == t) <;> simp [hb,D.bX]
 | Ap z i j o=>cases hb:(NT == t) <;> simp [hb,D.bX]
 | DD z i a b=>cases hb:(NT == t) <;> simp [hb,D.bX]
 | vS ds t'=>cases hb:(t' == t) <;> simp [hb,D.bX]
 | xi t' ds=>cases hb:(t' == t) <;> simp [hb,D.bX]
 | mU f t' ds=>cases hb:(t' == t) <;> simp [hb,D.bX]
 | CN t' b=>cases hb:(t' == t) <;> simp [hb,D.bX]
 | vo o=>cases hb:(NT == t) <;> simp [hb,D.bX]
 | _=>rfl
theorem jM.other (h:jM F ι d v)(hp:d.bX t=d)(he:∀ t',t'≠t->ι' t'=ι t'):jM F ι' d v:=by
 have:=h.au (t:=t) he
 rwa [hp] at this
theorem F2.G3 {α β γ:Type}{R:α->β->Prop}{R':γ->β->Prop}{f:α->γ}(hi:∀ a b,R a b->R' (f a) b):∀ {l:List α} {m:List β},F2 R l m->F2 R' (l.map f) m
 | _,_, .nil => .nil
 | _,_, .cons h t => .cons (hi _ _ h) (F2.G3 hi t)
theorem kQ.au (h:kQ F ι d v)(he:∀ t',t'≠t->ι' t'=ι t'):kQ F ι' (d.au t) v:=by
 cases d with
 | A9 ds=>obtain⟨vs,h1,h2⟩:=h;exact⟨vs,h1,h2.G3 λ_ _ h=>h.au he⟩
 | _=>exact .jd ((kQ.EL h (λ_ e=>by cases e)).au he)
theorem kQ.tH {x:D}(h:kQ F ι d v)(hx:Rd F [x] [(ι t).1]):kQ F ι (d.tH t x) v:=by
 cases d with
 | A9 ds=>obtain⟨vs,h1,h2⟩:=h;exact⟨vs,h1,h2.G3 λ_ _ h=>h.tH hx⟩
 | _=>exact .jd ((kQ.EL h (λ_ e=>by cases e)).tH hx)
theorem xZ {b:OB}(hn:(s.ow.map (·.1)).Nodup)(hl:s.look t=some b):∃ A B,s.ow=A++(t,b)::B/\(∀ p∈A,p.1≠t)/\∀ p∈B,p.1≠t:=by
 obtain⟨A,B,h⟩:=List.append_of_mem (gR hl);rw [h,List.map_append,List.map_cons,List.nodup_append,List.nodup_cons] at hn;refine⟨A,B,h,λp hp e=>?_,λp hp e=>?_⟩
 ·exact hn.2.2 p.1 (List.mem_map.2 ⟨p,hp,rfl⟩) t (by simp) e
 ·exact hn.2.1.1 (e ▸ List.mem_map.2 ⟨p,hp,rfl⟩)
theorem ng {A:List (Nat×OB)}(h:∀ p∈A,p.1≠t):A.filter (λp=>!(p.1 == t))=A:=List.filter_eq_self.2 λp hp=>by simp [h p hp]
theorem uv {A B:List (Nat×OB)}(h:A.map (·.1)=B.map (·.1)):lv ι A=lv ι B:=by
 have:∀ A:List (Nat×OB),lv ι A=(A.map (·.1)).flatMap λt=>(ι t).2:=λA=>by simp [lv,List.flatMap_map]
 rw [this,this,h]
theorem qK {A:List (Nat×OB)}(h:∀ p∈A,ι' p.1=ι p.1):lv ι' A=lv ι A:=by
 unfold lv
 induction A with
 | nil=>rfl
 | cons p A ih=>simp only [List.flatMap_cons];rw [h p (by simp),ih λq hq=>h q (by simp [hq])]
theorem eX (A B:List (Nat×OB)):lv ι (A++B)=lv ι A++lv ι B:=by simp [lv]
theorem vu (p:Nat×OB)(B:List (Nat×OB)):lv ι (p::B)=(ι p.1).2++lv ι B:=by simp [lv]
theorem mV (s:St)(t:Nat):(s.au t).ow.map (·.1)=(s.ow.filter λp=>!(p.1 == t)).map (·.1):=by simp [St.au,List.map_map,Function.comp_def]
theorem sr {p:Nat×OB}(hp:p∈(s.au t).ow):p.1≠t:=by
 have:p.1∈(s.au t).ow.map (·.1):=List.mem_map.2 ⟨p,hp,rfl⟩
 rw [mV] at this;obtain⟨q,hq,he⟩:=List.mem_map.1 this;rw [<- he];simpa using (List.mem_filter.1 hq).2
theorem jM.jx {k:Bool}(h:jM F ι d v)(hk:k=true->(ι t).1.oneCell'=true)(he:∀ t',t'≠t->ι' t'=ι t'):jM F ι' (d.jx k t) v:=by
 by_cases hd:d = .own t
 ·subst hd;cases k with
  | false=>simp only [D.jx,beq_self_eq_true,cond_true,cond_false];trivial
  | true =>
   simp only [D.jx,beq_self_eq_true,cond_true];have hv:v=(ι t).1:=h;subst hv;exact .aU (.any (hk rfl) .nil)
 ·have e:d.jx k t=d.bX t:=by
   cases d with
   | own t' =>
    have:(t' == t)=false:=by simp;exact λe=>hd (by rw [e])
    simp only [D.jx,D.bX,this,cond_false]
   | _=>rfl
  rw [e];exact h.au he
theorem CY {k:Bool}:∀ d:D,(d.jx k t).jx false t=d.jx k t:=by
 intro d;cases d with
 | own t'=>cases hb:(t' == t) <;> cases k <;> simp [hb,D.jx,D.bX]
 | op t' o=>cases hb:(t' == t) <;> simp [hb,D.jx,D.bX]
 | oe t' z i o=>cases hb:(t' == t) <;> simp [hb,D.jx,D.bX]
 | na i=>cases hb:(NT == t) <;> simp [hb,D.jx,D.bX]
 | Ap z i j o=>cases hb:(NT == t) <;> simp [hb,D.jx,D.bX]
 | DD z i a b=>cases hb:(NT == t) <;> simp [hb,D.jx,D.bX]
 | vS ds t'=>cases hb:(t' == t) <;> simp [hb,D.jx,D.bX]
 | xi t' ds=>cases hb:(t' == t) <;> simp [hb,D.jx,D.bX]
 | mU f t' ds=>cases hb:(t' == t) <;> simp [hb,D.jx,D.bX]
 | CN t' b=>cases hb:(t' == t) <;> simp [hb,D.jx,D.bX]
 | vo o=>cases hb:(NT == t) <;> simp [hb,D.jx,D.bX]
 | _=>rfl
theorem L7 {s:St}(h:∀ p∈s.ow,p.1≠t):s.look t=none:=by unfold St.look;rw [Option.map_eq_none_iff,List.find?_eq_none];intro p hp;simpa using h p hp
theorem Rl {s:St}{b:OB}(h:s.look t=some b):(t,b)∈s.ow:=by
 unfold St.look at h;obtain⟨p,hp,rfl⟩:=Option.map_eq_some_iff.1 h;have h1:=List.mem_of_find?_eq_some hp;have h2:=List.find?_some hp
 have:p.1=t:=by simpa using h2
 rw [<- this];exact h1
theorem kS.au {b:OB}{k:Bool}{t':Nat}(eH:t'≠t)(h:kS F ι t' b)(hk:k=true->(ι t).1.oneCell'=true)(he:∀ t',t'≠t->ι' t'=ι t'):kS F ι' t' (b.au k t):=by
 cases b with
 | rows e T xs =>
  obtain⟨q,n,cp,rows,h1,h2,h3⟩:=h;exact⟨q,n,cp,rows,by rw [he _ eH];exact h1,by rw [he _ eH];exact h2,h3⟩
 | cells T ds =>
  obtain⟨B,cs,h1,h2,h3⟩:=h;exact⟨B,cs,by rw [he _ eH];exact h1,by rw [he _ eH];exact h2,h3.G3 λa b p_=>p_.jx hk he⟩
 | nodes c T A hs hole =>
  obtain⟨h0,j6,h1,h2,h3⟩:=h;exact⟨h0,j6,by rw [he _ eH];exact h1,by rw [he _ eH];exact h2,h3⟩
 | oD c hs=>exact⟨by rw [he _ eH];exact h.1,h.2⟩
 | mp l =>
  obtain⟨B,cs,h1,h2,h3⟩:=h;exact⟨B,cs,by rw [he _ eH];exact h1,by rw [he _ eH];exact h2,h3⟩
 | ug l pos =>
  obtain⟨B,h1,h2⟩:=h;exact⟨B,by rw [he _ eH];exact h1,by rw [he _ eH];exact h2⟩
theorem Rel.EM (hr:Rel F ι s ρ)(he:∀ t',t'≠t->ι' t'=ι t'):Rel F ι' (s.au t) ρ:=by
 refine⟨hr.len,λi=>(hr.sl i).au he,λp hp=>?_,?_⟩
 ·have eH:=sr hp;simp only [St.au,List.mem_map,List.mem_filter] at hp;obtain⟨q,⟨hq,_⟩,rfl⟩:=hp;refine (hr.ow q hq).au eH (λhg=>?_) he;unfold St.gone at hg;cases hl:s.look t with
  | none=>rw [hl] at hg;cases hg
  | some b =>
   rw [hl] at hg;cases b with
   | rows e T xs =>
    obtain⟨q0,n,cp,rows,h1,_⟩:=hr.ow _ (Rl hl);rw [h1];rfl
   | _=>cases hg
 ·rw [mV];exact hr.nd.sublist ((List.filter_sublist).map _)
theorem Rel.au (hr:Rel F ι s ρ):Rel F ι (s.au t) ρ:=hr.EM λ_ _=>rfl
theorem Ja (s:St)(t:Nat):(lv ι (s.ow.filter λp=>!(p.1 == t))).Sublist (lv ι s.ow):=by
 unfold lv
 induction s.ow with
 | nil=>exact .slnil
 | cons p A ih =>
  rw [List.filter_cons];split
  ·simp only [List.flatMap_cons];exact (List.Sublist.refl _).append ih
  ·simp only [List.flatMap_cons];exact ih.trans (List.sublist_append_right _ _)
theorem qw (s:St)(t:Nat):(lv ι (s.au t).ow).Sublist (lv ι s.ow):=by rw [uv (mV s t)];exact Ja s t
theorem Ov (he:∀ t',t'≠t->ι' t'=ι t'):lv ι' (s.au t).ow=lv ι (s.au t).ow:=qK λ_ hp=>he _ (sr hp)
theorem Hp.au (hm:Hp h F (lv ι s.ow++L0)):Hp h F (lv ι (s.au t).ow++L0):=hm.sub ((qw s t).append (List.Sublist.refl _))
def Gh.dq (ι:Gh)(t:Nat)(x:Value×List gJ):Gh:=λt'=>if t'=t then x else ι t'
theorem Gh.bJ {x:Value×List gJ}{t':Nat}(h:t'≠t):ι.dq t x t'=ι t':=by simp [Gh.dq,h]
theorem Gh.ao {x:Value×List gJ}:ι.dq t x t=x:=by simp [Gh.dq]
theorem Rel.make {b:OB}{x:Value×List gJ}(hr:Rel F ι (s.au t) ρ)(hb:kS F (ι.dq t x) t b):Rel F (ι.dq t x) ((s.au t).make t b) ρ/\lv (ι.dq t x) ((s.au t).make t b).ow=x.2++lv ι (s.au t).ow:=by
 have h2:Rel F (ι.dq t x) ((s.au t).au t) ρ:=hr.EM λt' h=>Gh.bJ h
 have hs:(s.au t).au t=s.au t:=by
  simp only [St.au,St.mk.injEq,true_and];refine⟨funext λi=>?_,?_⟩
  ·cases s.sl i with
   | A9 ds=>simp [D.au,CX]
   | own t'=>cases hb:(t' == t) <;> simp [hb,D.au,D.bX]
   | op t' o=>cases hb:(t' == t) <;> simp [hb,D.au,D.bX]
   | oe t' z i o=>cases hb:(t' == t) <;> simp [hb,D.au,D.bX]
   | na i=>cases hb:(NT == t) <;> simp [hb,D.au,D.bX]
   | Ap z i j o=>cases hb:(NT == t) <;> simp [hb,D.au,D.bX]
   | DD z i a b=>cases hb:(NT == t) <;> simp [hb,D.au,D.bX]
   | vS ds t'=>cases hb:(t' == t) <;> simp [hb,D.au,D.bX]
   | xi t' ds=>cases hb:(t' == t) <;> simp [hb,D.au,D.bX]
   | mU f t' ds=>cases hb:(t' == t) <;> simp [hb,D.au,D.bX]
   | CN t' b=>cases hb:(t' == t) <;> simp [hb,D.au,D.bX]
   | vo o=>cases hb:(NT == t) <;> simp [hb,D.au,D.bX]
   | _=>rfl
  ·rw [List.filter_map,List.filter_filter];simp only [List.map_map,Function.comp_def];have YY:(s.au t).gone t=false:=by unfold St.gone;rw [L7 λp hp=>sr hp]
   have YZ:St.gone ⟨s.n,s.np,s.nw,λi=>(s.sl i).au t,(s.ow.filter λp=>!(p.1 == t)).map λp=>(p.1,p.2.au (s.gone t) t)⟩ t=false:=YY
   have:∀ b:OB,(b.au (s.gone t) t).au false t=b.au (s.gone t) t:=λb=>by
    cases b with
    | rows e T xs=>rfl
    | cells T ds=>simp [OB.au,CY]
    | nodes c T A hs hole=>rfl
    | oD c hs=>rfl
    | mp l=>rfl
    | ug l pos=>rfl
   simp [this];intro a b _ _;exact (congrArg (λk=>OB.au k t (OB.au (s.gone t) t b)) YZ).trans (this b)
 rw [hs] at h2;refine⟨⟨h2.len,h2.sl,λp hp=>?_,?_⟩,?_⟩
 ·rcases List.mem_cons.1 hp with rfl | hp
  ·exact hb
  ·exact h2.ow p hp
 ·simp only [St.make,List.map_cons,List.nodup_cons];exact⟨λlH=>by obtain⟨p,hp,he⟩:=List.mem_map.1 lH;exact sr hp he,h2.nd⟩
 ·simp only [St.make,vu,Gh.ao];rw [Ov λt' h=>Gh.bJ h]
theorem Rel.dq {b b':OB}{x:Value×List gJ}(hr:Rel F ι s ρ)(hl:s.look t=some b)(hx:x.1=(ι t).1)(hb:kS F (ι.dq t x) t b'):Rel F (ι.dq t x) (s.dq t b') ρ/\∃ l1 l2,lv ι s.ow=l1++((ι t).2++l2)/\lv (ι.dq t x) (s.dq t b').ow=l1++(x.2++l2)/\lv ι (s.au t).ow=l1++l2:=by
 have hW:∀ d v,jM F ι d v->jM F (ι.dq t x) d v:=λd v h=>by
  have h1:∀ t',(ι.dq t x t').1=(ι t').1:=λt'=>by
   by_cases e:t'=t
   ·subst e;rw [Gh.ao,hx]
   ·rw [Gh.bJ e]
  cases d with
  | own t'=>show v=_;rw [h1];exact h
  | op t' o=>obtain⟨B,a,c⟩:=h;exact⟨B,by rw [h1];exact a,c⟩
  | oe t' z i o=>obtain⟨B,n,cp,a,c⟩:=h;exact⟨B,n,cp,by rw [h1];exact a,c⟩
  | na i=>obtain⟨hd,a,c⟩:=h;exact⟨hd,by rw [h1];exact a,c⟩
  | Ap z i j o=>obtain⟨hd,B,n,cp,a,c⟩:=h;exact⟨hd,B,n,cp,by rw [h1];exact a,c⟩
  | DD z i x y=>obtain⟨hd,B,n,cp,a,c⟩:=h;exact⟨hd,B,n,cp,by rw [h1];exact a,c⟩
  | vS ds t'=>obtain⟨cs,a,c⟩:=h;exact⟨cs,by rw [h1];exact a,c⟩
  | xi t' ds=>obtain⟨cs,a,c⟩:=h;exact⟨cs,by rw [h1];exact a,c⟩
  | mU f t' ds=>obtain⟨B,cs,a,c⟩:=h;exact⟨B,cs,by rw [h1];exact a,c⟩
  | CN t' b=>obtain⟨B,a,c⟩:=h;exact⟨B,by rw [h1];exact a,c⟩
  | vo o=>show L5 _ o v;rw [h1];exact h
  | _=>exact h
 have hV:∀ d v,kQ F ι d v->kQ F (ι.dq t x) d v:=λd v h=>by
  cases d with
  | A9 ds=>obtain⟨vs,a,c⟩:=h;exact⟨vs,a,cT hW c⟩
  | _=>exact .jd (hW _ _ (kQ.EL h (λ_ e=>by cases e)))
 have hO:∀ t' b,t'≠t->kS F ι t' b->kS F (ι.dq t x) t' b:=λt' b eH h=>by
  cases b with
  | rows e T xs=>obtain⟨q,n,cp,rows,a,c,f⟩:=h;exact⟨q,n,cp,rows,by rw [Gh.bJ eH];exact a,by rw [Gh.bJ eH];exact c,f⟩
  | cells T ds=>obtain⟨B,cs,a,c,f⟩:=h;exact⟨B,cs,by rw [Gh.bJ eH];exact a,by rw [Gh.bJ eH];exact c,cT hW f⟩
  | nodes cl T A hs hole=>obtain⟨h0,j6,a,c,f⟩:=h;exact⟨h0,j6,by rw [Gh.bJ eH];exact a,by rw [Gh.bJ eH];exact c,f⟩
  | oD c hs=>exact⟨by rw [Gh.bJ eH];exact h.1,h.2⟩
  | mp l=>obtain⟨B,cs,a,c,f⟩:=h;exact⟨B,cs,by rw [Gh.bJ eH];exact a,by rw [Gh.bJ eH];exact c,f⟩
  | ug l pos=>obtain⟨B,a,c⟩:=h;exact⟨B,by rw [Gh.bJ eH];exact a,by rw [Gh.bJ eH];exact c⟩
 obtain⟨A,B,hs,hA,hB⟩:=xZ hr.nd hl;have hm:∀ A:List (Nat×OB),(∀ p∈A,p.1≠t)->A.map (λp=>cond (p.1 == t) (t,b') p)=A:=λA hA=>by
  refine (List.map_congr_left λp hp=>?_).trans (List.map_id _)
  have:(p.1 == t)=false:=by simp [hA p hp]
  rw [this];rfl
 have hu:(s.dq t b').ow=A++(t,b')::B:=by simp only [St.dq,hs,List.map_append,List.map_cons,hm A hA,hm B hB];simp
 refine⟨⟨hr.len,λi=>hV _ _ (hr.sl i),λp hp=>?_,?_⟩,lv ι A,lv ι B,?_,?_,?_⟩
 ·rw [hu] at hp;rcases List.mem_append.1 hp with hp | hp
  ·exact hO _ _ (hA p hp) (hr.ow p (by rw [hs];simp [hp]))
  ·rcases List.mem_cons.1 hp with rfl | hp
   ·exact hb
   ·exact hO _ _ (hB p hp) (hr.ow p (by rw [hs];simp [hp]))
 ·have:=hr.nd
  rw [hs] at this;rw [hu];simpa using this
 ·rw [hs,eX,vu]
 ·rw [hu,eX,vu,Gh.ao,qK λp hp=>Gh.bJ (hA p hp),qK λp hp=>Gh.bJ (hB p hp)]
 ·rw [uv (mV s t),hs,List.filter_append,List.filter_cons,ng hA,ng hB];simp [eX]
theorem qL {F:iH}{B:Nat}{e:TypeId}{fz:Nat×Nat}:∀ (cs pre post:List Value) (off:Nat),F.m B=some (.cells (pre++cs++post).toArray e fz)->off=pre.length->jO F B off cs
 | [],_,_,_,_,_=>trivial
 | c::cs,pre,post,off,hb,ho=>by subst ho;refine⟨?_,qL cs (pre++[c]) post (pre.length+1) (by simpa using hb) (by simp)⟩;unfold rE;rw [hb];simp
theorem pe (s:St)(t:Nat)(d:D):(s.freeze t d).ow.map (·.1)=(s.ow.filter λp=>!(p.1 == t)).map (·.1):=by simp [St.freeze,List.map_map,Function.comp_def]
theorem EN {e:E}{T:TypeId}{xs:List e.T}(ho:kS F ι t (.rows e T xs))(hf:F.le F')(hF:∀ p∈(ι t).2,vW (F'.m p.1) p):Rd F' [.aB e xs] [(ι t).1]:=by
 obtain⟨q,n,cp,rows,h1,h2,h3⟩:=ho;have hn:xs.length=n:=by rw [h2.len,<- bz h3]
 rw [h1,<- hn];refine Rd.GZ (by rw [hn];exact h2.le) λi x hx=>?_
 obtain⟨r,hr,tI⟩:=gq h3 hx;obtain⟨pre,post,e1,e2⟩:=qG h2.row hr;rcases h2.sh with⟨he,_,hv⟩ | ⟨B,n',cap,spare,he,hL,_,_,_⟩
 ·have hz:n=0:=by cases he;rfl
  have:=(List.getElem?_eq_some_iff.1 hx).1
  omega
 ·cases he;refine⟨r,rfl,?_,tI.mono hf⟩;obtain⟨fz,_,this⟩:=(hF (B,rows.flatten++spare,BT.c T) (by rw [hL];simp)).cells;simp only at this;rw [e1] at this;exact qL r pre (post++spare) _ (by simpa [lb] using this) (by simp [ka,e2])
theorem kS.tH {b:OB}{t':Nat}{x:D}(h:kS F ι t' b)(hx:Rd F [x] [(ι t).1]):kS F ι t' (OB.tH t x b):=by
 cases b with
 | cells T ds =>
  obtain⟨B,cs,a,c,f⟩:=h;exact⟨B,cs,a,c,f.G3 λ_ _ h=>h.tH hx⟩
 | rows e T xs=>exact h
 | nodes c T A hs hole=>exact h
 | oD c hs=>exact h
 | mp l=>exact h
 | ug l pos=>exact h
theorem Rel.Kp {b:OB}{x:D}(hr:Rel F ι s ρ)(hm:Hp h F (lv ι s.ow++L0))(hl:s.look t=some b)(hx:∀ F',F.le F'->(∀ p∈(ι t).2,vW (F'.m p.1) p)->Rd F' [x] [(ι t).1]):∃ F',F.le F'/\F'.fF=F.fF/\Hp h F' (lv ι (s.freeze t x).ow++L0)/\Rel F' ι (s.freeze t x) ρ/\Rd F' [x] [(ι t).1]:=by
 obtain⟨A,B,hs,hA,hB⟩:=xZ hr.nd hl;have hf:s.ow.filter (λp=>!(p.1 == t))=A++B:=by rw [hs,List.filter_append,List.filter_cons,ng hA,ng hB];simp
 have pK:Hp h F ((ι t).2++(lv ι (A++B)++L0)):=by refine hm.perm ?_;rw [hs,eX,eX,vu];simp only [List.append_assoc];refine (List.perm_append_comm_assoc _ _ _)
 have hn:=pK.nodup;rw [List.map_append,List.nodup_append] at hn;obtain⟨vn,hle⟩:=pK.freeze;have tI:=hx (F.add h (ι t).2) hle λp hp=>add_get pK hp
 refine⟨F.add h (ι t).2,hle,rfl,?_,⟨hr.len,λi=>((hr.sl i).mono hle).tH tI,λp hp=>?_,?_⟩,tI⟩
 ·rw [uv (pe s t _),hf];exact vn
 ·simp only [St.freeze,List.mem_map,List.mem_filter] at hp;obtain⟨q,⟨hq,_⟩,rfl⟩:=hp;exact ((hr.ow q hq).mono hle λ_=>rfl).tH tI
 ·rw [pe];exact hr.nd.sublist ((List.filter_sublist).map _)
theorem G4 {T:TypeId}{ds:List D}(ho:kS F ι t (.cells T ds))(hp:ds.all D.plain=true)(hf:F.le F')(hF:∀ p∈(ι t).2,vW (F'.m p.1) p):Rd F' [.fp ds 0] [(ι t).1]:=by
 obtain⟨B,cs,h1,h2,h3⟩:=ho;rw [h1];have h4:Rd F ds cs:=by
  clear h1 h2 hF
  induction h3 with
  | nil=>exact .nil
  | cons h t ih =>
   simp only [List.all_cons,Bool.and_eq_true] at hp;exact (h.mn hp.1).cons (ih hp.2)
 obtain⟨fz,_,h5⟩:=(hF (B,cs,BT.c T) (by rw [h2];simp)).cells;have h5:F'.m B=some (.cells ([]++cs++[]).toArray T fz):=by simpa using h5
 exact .fp (o:=0) (off:=0) (qL cs [] [] 0 h5 rfl) (h4.mono hf) .nil
theorem Rel.freeze {e:E}{T:TypeId}{xs:List e.T}(hr:Rel F ι s ρ)(hm:Hp h F (lv ι s.ow++L0))(hl:s.look t=some (.rows e T xs)):∃ F',F.le F'/\F'.fF=F.fF/\Hp h F' (lv ι (s.freeze t (.aB e xs)).ow++L0)/\Rel F' ι (s.freeze t (.aB e xs)) ρ/\Rd F' [.aB e xs] [(ι t).1] :=
 hr.Kp hm hl λF' hf hF=>EN (hr.look hl) hf hF
theorem Rel.Kr {T:TypeId}{ds:List D}(hr:Rel F ι s ρ)(hm:Hp h F (lv ι s.ow++L0))(hl:s.look t=some (.cells T ds))(hp:ds.all D.plain=true):∃ F',F.le F'/\F'.fF=F.fF/\Hp h F' (lv ι (s.freeze t (.fp ds 0)).ow++L0)/\Rel F' ι (s.freeze t (.fp ds 0)) ρ/\Rd F' [.fp ds 0] [(ι t).1] :=
 hr.Kp hm hl λF' hf hF=>G4 (hr.look hl) hp hf hF
end
end Go.Proofs.YtngabkipchpmpaaGreat.V
