/-
  Plain facts and an evaluator for what a law needs.
-/
import Derived.Deep.Quiet
import Derived.Tactics
import Derived.KernelRfl
import Derived.WalkKit
import Derived.Scope
import Derived.ProofKit
import Derived.OrdersHeld
import Derived.ChangeArms
import Derived.Laws.StructEq
import Derived.WideShapes
import Derived.LaidEql
set_option linter.unusedVariables false
set_option linter.unusedSimpArgs false
namespace Go.Proofs.YtkmigbicabfodaaGreat.K
open Go
structure Env where
 os:Os
 out:Array (Nat×ByteArray)
 tape:Nat→Question→Nat
def At (E:Env) (h:Array Obj) (w:World):Prop:=w.heap=h∧w.os=E.os∧w.output=E.out∧w.tape=E.tape
def act (ρ:List Value):Act:={ tmps:=ρ.toArray,defers:=[] }
def ev (ρ:List Value):Operand→Value
 | .tmp t=>ρ.getD t undef
 | .const v=>v
 | .global g => .pointer (some ⟨g,0,none⟩)
 | .func f => .func (.func f) #[] #[]
theorem eval_mk (ρ:List Value):(act ρ).eval=ev ρ:=by
 funext x
 cases x <;> simp [Act.eval,ev,act]
def base (f:FuncId):Frame:={ (default:Frame) with fn:=f,kind := .normal }
structure TW (P:Program) (f:FuncId) (E:Env) (R:Value→Array Obj→Prop) (k:List Item) (ρ:List Value) (h:Array Obj):Prop where
 out:∀ w,At E h w→∀ cs,∃ v w' fr,(∃ h',At E h' w'∧R v h')∧Steps P (lone ((base f).at (act ρ) k) cs w) (lone fr cs w')∧fr.fn=f∧fr.leaving P w' (.returned v)
structure Ret (P:Program) (f:FuncId) (args:List Value) (h:Array Obj) (R:Value→Array Obj→Prop):Prop where
 out:∀ E w,At E h w→Calls P f args.toArray w fun e w'=>∃ v,e = .returned v∧∃ h',At E h' w'∧R v h'
section
variable {P:Program} {f:FuncId} {E:Env} {R:Value→Array Obj→Prop} {k k':List Item} {ρ ρ':List Value} {h h':Array Obj}
theorem TW.step (hs:∀ cs w,At E h w→step P (lone ((base f).at (act ρ) k) cs w) = .next (lone ((base f).at (act ρ) k') cs w)) (ht:TW P f E R k' ρ h):TW P f E R k ρ h:=by
 refine ⟨fun w hw cs=>?_⟩
 obtain ⟨v,w',fr,hR,hst,hf,hl⟩:=ht.out w hw cs
 exact ⟨v,w',fr,hR, .head (hs cs w hw) hst,hf,hl⟩
theorem TW.of_wp {c:Code} (hw:∀ w,At E h w→c.wp P (fun e a w'=>e = .normal∧∃ ρ' h',a=act ρ'∧At E h' w'∧TW P f E R k ρ' h') (act ρ) w):TW P f E R (.code c::k) ρ h:=by
 refine ⟨fun w hA cs=>?_⟩
 obtain ⟨e,a',w',⟨rfl,ρ',h',rfl,hA',hT⟩,harr⟩:=hw w hA (base f) k cs
 obtain ⟨v,w2,fr,hR,hst,hf,hl⟩:=hT.out w' hA' cs
 exact ⟨v,w2,fr,hR,Steps.trans harr hst,hf,hl⟩
theorem tw_skip (ht:TW P f E R k ρ h):TW P f E R (.code .skip::k) ρ h:=ht.step fun _ _ _=>step_skip
theorem tw_inBlock {id:Nat} (ht:TW P f E R k ρ h):TW P f E R (.inBlock id::k) ρ h:=ht.step fun _ _ _=>step_inBlock
theorem tw_seq {a b:Code} (ht:TW P f E R (.code a :: .code b::k) ρ h):TW P f E R (.code (.seq a b)::k) ρ h:=ht.step fun _ _ _=>step_seq
theorem tw_block {id:Nat} {c:Code} (ht:TW P f E R (.code c :: .inBlock id::k) ρ h):TW P f E R (.code (.block id c)::k) ρ h:=ht.step fun _ _ _=>step_block
theorem tw_scope {c:Code} (ht:TW P f E R (.code c :: .inScope c::k) ρ h):TW P f E R (.code (.scope c)::k) ρ h:=ht.step fun _ _ _=>step_scope
theorem tw_inScope {c:Code} (ht:TW P f E R k ρ h):TW P f E R (.inScope c::k) ρ h:=ht.step fun _ _ _=>step_inScope
theorem tw_goto {l:Nat} (he:gotoIn l k=some k') (ht:TW P f E R k' ρ h):TW P f E R (.code (.goto l)::k) ρ h:=ht.step fun _ _ _=>step_goto he
theorem tw_label {l:Nat} (ht:TW P f E R k ρ h):TW P f E R (.code (.label l)::k) ρ h:=ht.step fun _ _ _=>step_label
theorem tw_exit {id:Nat} (he:exitTo id k=some k') (ht:TW P f E R k' ρ h):TW P f E R (.code (.exit id)::k) ρ h:=ht.step fun _ _ _=>step_exit he
theorem tw_loop0 {c:Code} (ht:TW P f E R (.code c :: .inLoop c::k) ρ h):TW P f E R (.code (.loop c)::k) ρ h:=ht.step fun _ _ _=>step_loop
theorem tw_inLoop {c:Code} (ht:TW P f E R (.code c :: .inLoop c::k) ρ h):TW P f E R (.inLoop c::k) ρ h:=ht.step fun _ _ _=>step_inLoop
theorem tw_cond {x:Operand} {a b:Code} {t:Bool} (hx:ev ρ x = .bool t) (ht:TW P f E R (.code (if t then a else b)::k) ρ h):TW P f E R (.code (.cond x a b)::k) ρ h :=
 ht.step fun _ _ _=>step_cond (by rw [eval_mk]; exact hx)
theorem tw_cond_t {x:Operand} {a b:Code} (hx:ev ρ x = .bool true) (ht:TW P f E R (.code a::k) ρ h):TW P f E R (.code (.cond x a b)::k) ρ h:=tw_cond hx ht
theorem tw_cond_f {x:Operand} {a b:Code} (hx:ev ρ x = .bool false) (ht:TW P f E R (.code b::k) ρ h):TW P f E R (.code (.cond x a b)::k) ρ h:=tw_cond hx ht
theorem tw_ret_any {fn:Func} {v:Value} (hf:P.funcs[f]?=some fn) (hr:∀ w,At E h w→(results fn ρ.toArray).run P w = .ok v w) (hR:R v h):TW P f E R (.code .ret::k) ρ h:=by
 refine ⟨fun w hw cs=>?_⟩
 exact ⟨v,w,{ (base f).at (act ρ) (.code .ret::k) with mode := .returning },⟨h,hw,hR⟩, .one step_ret,rfl,rfl,rfl,rfl,fn,hf,hr w hw⟩
theorem tw_end_any {fn:Func} {v:Value} (hf:P.funcs[f]?=some fn) (hr:∀ w,At E h w→(results fn ρ.toArray).run P w = .ok v w) (hR:R v h):TW P f E R [] ρ h:=by
 refine ⟨fun w hw cs=>?_⟩
 exact ⟨v,w,{ (base f).at (act ρ) [] with mode := .returning },⟨h,hw,hR⟩, .one step_end,rfl,rfl,rfl,rfl,fn,hf,hr w hw⟩
theorem ret_of_tw {fn:Func} {c:Code} {args:List Value} (hf:P.funcs[f]?=some fn) (hb:fn.body=some c) (hρ:args++List.replicate (fn.ntmps - args.length) undef=ρ)
  (ht:∀ E,TW P f E R [.code c] ρ h):Ret P f args h R:=by
 refine ⟨fun E w hw cs=>?_⟩
 obtain ⟨v,w',fr,hR,hst,hf',hl⟩:=(ht E).out w hw cs
 have henter:Frame.enter P f args.toArray .normal=(base f).at (act ρ) [.code c]:=by
  simp [Frame.enter,Frame.at,hf,hb,base,act,← hρ]
 refine ⟨.returned v,w',fr,⟨v,rfl,hR⟩,?_,hf',hl⟩
 rw [henter]
 exact hst
theorem Ret.mono {args:List Value} {R R':Value→Array Obj→Prop} (hr:Ret P f args h R) (hm:∀ v h',R v h'→R' v h'):Ret P f args h R' :=
 ⟨fun E w hw=>(hr.out E w hw).mono fun _ _ ⟨v,he,h',hA,hR⟩=>⟨v,he,h',hA,hm _ _ hR⟩⟩
end
structure LW (P:Program) (E:Env) (ops:List Oper) (K:List Value→Array Obj→Prop) (l:List Oper) (ρ:List Value) (h:Array Obj):Prop where
 out:∀ w,At E h w→wpList P ops.toArray (fun e a w'=>e = .normal∧∃ ρ' h',a=act ρ'∧At E h' w'∧K ρ' h') l (act ρ) w
def setD (ρ:List Value) (d:Option Tmp) (v:Value):List Value :=
 match d with
 | some t=>ρ.set t v
 | none=>ρ
theorem put_mk (ρ:List Value) (d:Option Tmp) (v:Value):(act ρ).put d v=act (setD ρ d v):=by
 cases d <;> simp [Act.put,act,setD]
section
variable {P:Program} {f:FuncId} {E:Env} {R:Value→Array Obj→Prop} {k:List Item} {ρ ρ':List Value} {h h':Array Obj} {ops:List Oper} {K:List Value→Array Obj→Prop} {o:Oper} {rest:List Oper} {v:Value}
theorem tw_region {id:Nat} (hl:∀ K:List Value→Array Obj→Prop,(∀ ρ h,TW P f E R k ρ h→K ρ h)→LW P E ops K ops ρ h):TW P f E R (.code (.region id ops.toArray false)::k) ρ h :=
 TW.of_wp fun w hw=>wp_region_lit ((hl _ (fun _ _ h=>h)).out w hw)
theorem lw_nil (hk:K ρ h):LW P E ops K [] ρ h:=⟨fun _ hw=>wpList_nil ⟨rfl,ρ,h,rfl,hw,hk⟩⟩
structure Ex (P:Program) (ρ:List Value) (o:Oper) (h:Array Obj) (v:Value) (h':Array Obj):Prop where
 out:∀ E w,At E h w→∃ n w',(execOp (ev ρ) o).run P w = .ok n w'∧At E h' w'∧(n = .value v∨(n = .skip∧v=undef))
theorem lw_wanted (hg:Region.wanted o (yielded ops.toArray (act ρ).tmps)=true) (hx:Ex P ρ o h v h') (hs:setD ρ o.dst v=ρ') (hk:LW P E ops K rest ρ' h'):LW P E ops K (o::rest) ρ h:=by
 refine ⟨fun w hw=>?_⟩
 unfold wpList
 rw [if_pos hg]
 refine .inl ?_
 obtain ⟨n,w',hr,hA,hn⟩:=hx.out E w hw
 unfold Oper.wp
 rw [eval_mk,hr]
 rcases hn with rfl | ⟨rfl,rfl⟩
 ·rw [Oper.upon_value,put_mk,hs]; exact hk.out w' hA
 ·rw [Oper.upon_skip,put_mk,hs]; exact hk.out w' hA
theorem lw_skip (hg:Region.wanted o (yielded ops.toArray (act ρ).tmps)=false) (hs:setD ρ o.dst undef=ρ') (hk:LW P E ops K rest ρ' h):LW P E ops K (o::rest) ρ h:=by
 refine ⟨fun w hw=>?_⟩
 unfold wpList
 rw [if_neg (by rw [hg]; exact Bool.false_ne_true),put_mk,hs]
 exact hk.out w hw
theorem lw_call {g:FuncId} {args:List Value} {S:Value→Array Obj→Prop} (hg:Region.wanted o (yielded ops.toArray (act ρ).tmps)=true) (hx:∀ w,At E h w→(execOp (ev ρ) o).run P w = .ok (.enter g args.toArray) w)
  (hc:Ret P g args h S) (hk:∀ v h',S v h'→LW P E ops K rest (setD ρ o.dst v) h'):LW P E ops K (o::rest) ρ h:=by
 refine ⟨fun w hw=>?_⟩
 unfold wpList
 rw [if_pos hg]
 refine .inl ?_
 unfold Oper.wp
 rw [eval_mk,hx w hw,Oper.upon_enter]
 refine (hc.out E w hw).mono fun e w' ⟨v,he,h',hA,hS⟩=>?_
 subst he
 show wpList _ _ _ _ _ _
 rw [put_mk]
 exact (hk v h' hS).out w' hA
end
structure Wan (ops:List Oper) (ρ:List Value) (o:Oper):Prop where
 out:Region.wanted o (yielded ops.toArray (act ρ).tmps)=true
section
variable {P:Program} {f:FuncId} {E:Env} {R:Value→Array Obj→Prop} {k:List Item} {ρ ρ' ρ'':List Value} {h h':Array Obj} {ops:List Oper} {K:List Value→Array Obj→Prop} {o:Oper} {rest:List Oper} {v:Value} {j t:Nat} {b:Bool}
theorem wan_none (hg:o.guard=none):Wan ops ρ o:=⟨by simp [Region.wanted,hg]⟩
theorem yielded_mk (hd:(ops[j]?).bind (·.dst)=some t) (hv:ev ρ (.tmp t) = .bool b):yielded ops.toArray (act ρ).tmps j=some b:=by
 simp only [ev,List.getD_eq_getElem?_getD] at hv
 cases ht:ρ[t]? with
 | none=>rw [ht] at hv; simp [undef] at hv
 | some u =>
  rw [ht] at hv
  simp only [Option.getD_some] at hv
  subst hv
  simp [yielded,hd,act,ht]
theorem yielded_undef (hd:(ops[j]?).bind (·.dst)=some t) (hv:ev ρ (.tmp t)=undef):yielded ops.toArray (act ρ).tmps j=none:=by
 simp only [ev,List.getD_eq_getElem?_getD] at hv
 cases ht:ρ[t]? with
 | none=>simp [yielded,hd,act,ht]
 | some u =>
  rw [ht] at hv
  simp only [Option.getD_some] at hv
  subst hv
  simp [yielded,hd,act,ht,undef]
theorem wan_some (hg:o.guard=some (j,b)) (hd:(ops[j]?).bind (·.dst)=some t) (hv:ev ρ (.tmp t) = .bool b):Wan ops ρ o:=⟨by
 simp [Region.wanted,hg,yielded_mk hd hv]⟩
theorem lw_skip_b (hg:o.guard=some (j,b)) (hd:(ops[j]?).bind (·.dst)=some t) (hv:ev ρ (.tmp t) = .bool (!b)) (hs:setD ρ o.dst undef=ρ') (hk:LW P E ops K rest ρ' h):LW P E ops K (o::rest) ρ h :=
 lw_skip (by cases b <;> simp [Region.wanted,hg,yielded_mk hd hv]) hs hk
theorem lw_skip_u (hg:o.guard=some (j,b)) (hd:(ops[j]?).bind (·.dst)=some t) (hv:ev ρ (.tmp t)=undef) (hs:setD ρ o.dst undef=ρ') (hk:LW P E ops K rest ρ' h):LW P E ops K (o::rest) ρ h :=
 lw_skip (by simp [Region.wanted,hg,yielded_undef hd hv]) hs hk
end
section
variable {P:Program} {f:FuncId} {E:Env} {R:Value→Array Obj→Prop} {k:List Item} {ρ ρ' ρ'':List Value} {h:Array Obj} {t:Nat}
end
class Cal (P:Program) (g:FuncId):Prop where
 out:∀ (args:Array Value) (w:World),(callFunc g args).run P w = .ok (.enter g args) w
section
variable {P:Program} {E:Env} {ρ ρ':List Value} {h h':Array Obj} {ops:List Oper} {K:List Value→Array Obj→Prop} {rest:List Oper} {v:Value} {g:FuncId} {xs:List Operand} {ta:Array TypeId} {d:Option Tmp} {ty:TypeId} {p:String} {af:Array Edge} {gd:Option (Nat×Bool)}
theorem run_cal [Cal P g] (w:World):(execOp (ev ρ) ⟨d, .call ⟨.value (.func g),xs.toArray,ta⟩,ty,p,af,gd⟩).run P w = .ok (.enter g (xs.map (ev ρ)).toArray) w:=by
 simp [execOp,resolve,ev,Deferred.ofValue,invoke,Cal.out]
theorem lw_cal [Cal P g] {S:Value→Array Obj→Prop} (hw:Wan ops ρ ⟨d, .call ⟨.value (.func g),xs.toArray,ta⟩,ty,p,af,gd⟩) (hc:Ret P g (xs.map (ev ρ)) h S)
  (hk:∀ v h',S v h'→LW P E ops K rest (setD ρ d v) h'):LW P E ops K (⟨d, .call ⟨.value (.func g),xs.toArray,ta⟩,ty,p,af,gd⟩::rest) ρ h :=
 lw_call hw.out (fun w _=>run_cal w) hc hk
end
end Go.Proofs.YtkmigbicabfodaaGreat.K
namespace Go.Proofs.YtkmigbicabfodaaGreat.K
open Go
class Und (P:Program) (t:TypeId) (D:outParam TypeDesc):Prop where
 out:P.underlying t=some D
class Siz (P:Program) (t:TypeId) (n:outParam Nat):Prop where
 out:∀ w,(sizeOf t).run P w = .ok n w
class Zer (P:Program) (t:TypeId) (z:outParam Value):Prop where
 out:∀ w,(zeroValue t).run P w = .ok z w
class Agg (P:Program) (t:TypeId) (b:outParam Bool):Prop where
 out:∀ w,(isAgg t).run P w = .ok b w
class Inf (P:Program) (t:TypeId) (i:outParam TypeInfo):Prop where
 out:∀ w,(typeInfo t).run P w = .ok i w
class Fld (P:Program) (t:TypeId) (i:Nat) (ft:outParam TypeId) (fo:outParam Nat):Prop where
 out:∃ fs f,P.underlying t=some (.struct fs)∧fs[i]?=some f∧f.type=ft∧f.offset=fo
theorem und {P:Program} (t:TypeId) {D:TypeDesc} [i:Und P t D] (w:World):(underlying t).run P w = .ok D w:=run_underlying i.out w
theorem siz {P:Program} (t:TypeId) {D:Nat} [i:Siz P t D] (w:World):(sizeOf t).run P w = .ok D w:=i.out w
theorem zer {P:Program} (t:TypeId) {D:Value} [i:Zer P t D] (w:World):(zeroValue t).run P w = .ok D w:=i.out w
theorem agg {P:Program} (t:TypeId) {D:Bool} [i:Agg P t D] (w:World):(isAgg t).run P w = .ok D w:=i.out w
theorem inf {P:Program} (t:TypeId) {D:TypeInfo} [i:Inf P t D] (w:World):(typeInfo t).run P w = .ok D w:=i.out w
abbrev bs (l:List UInt8):Value := .string ⟨l.toArray⟩
structure Pu (P:Program) (ρ:List Value) (o:Oper) (h:Array Obj) (v:Value):Prop where
 out:∀ w,w.heap=h→(execOp (ev ρ) o).run P w = .ok (.value v) w
theorem Pu.ex {P:Program} {ρ:List Value} {o:Oper} {h:Array Obj} {v:Value} (hp:Pu P ρ o h v):Ex P ρ o h v h :=
 ⟨fun _ w hw=>⟨_,w,hp.out w hw.1,hw, .inl rfl⟩⟩
def cell (h:Array Obj) (a:Addr):Option Value :=
 match h[a.block]? with
 | some (.cells c _ _)=>if a.spot.isSome then none else c[a.off]?
 | _=>none
theorem cell_eq (w:World) (a:Addr):w.cell? a=cell w.heap a:=rfl
section
variable {P:Program} {E:Env} {ops:List Oper} {K:List Value→Array Obj→Prop} {rest:List Oper} {ρ ρ':List Value} {o:Oper} {h h':Array Obj} {v:Value} {d:Option Tmp} {T ty U:TypeId} {p:String} {af:Array Edge} {g:Option (Nat×Bool)} {x y c:Operand}
theorem lw_pu (hg:Wan ops ρ o) (hx:Pu P ρ o h v) (hs:setD ρ o.dst v=ρ') (hk:LW P E ops K rest ρ' h):LW P E ops K (o::rest) ρ h:=lw_wanted hg.out hx.ex hs hk
theorem pu_move (hx:ev ρ x=v):Pu P ρ ⟨d, .move x,ty,p,af,g⟩ h v:=⟨fun w _=>by simp [execOp,hx]⟩
theorem pu_assign (hx:ev ρ x=v):Pu P ρ ⟨d, .assign x,ty,p,af,g⟩ h v:=⟨fun w _=>by simp [execOp,hx]⟩
theorem pu_pick_t (hc:ev ρ c = .bool true) (hx:ev ρ x=v):Pu P ρ ⟨d, .pick c x y,ty,p,af,g⟩ h v:=⟨fun w _=>by simp [execOp,hc,hx,asBool]⟩
theorem pu_pick_f (hc:ev ρ c = .bool false) (hy:ev ρ y=v):Pu P ρ ⟨d, .pick c x y,ty,p,af,g⟩ h v:=⟨fun w _=>by simp [execOp,hc,hy,asBool]⟩
variable {k:IntKind} {a b:Int}
theorem beq_dec {α:Type} [BEq α] [LawfulBEq α] [DecidableEq α] (a b:α):(a == b)=decide (a=b):=by
 by_cases h:a=b <;> simp [h]
theorem guard_int (op:BinOp) (v2:Value) (w:World):(eqGuard op T x y (.int k a) v2).run P w = .ok () w:=by
 unfold eqGuard
 split <;> simp
theorem guard_bool (op:BinOp) (t:Bool) (v2:Value) (w:World):(eqGuard op T x y (.bool t) v2).run P w = .ok () w:=by
 unfold eqGuard
 split <;> simp
theorem guard_str (op:BinOp) (s:ByteArray) (v2:Value) (w:World):(eqGuard op T x y (.string s) v2).run P w = .ok () w:=by
 unfold eqGuard
 split <;> simp
theorem guard_ptr (op:BinOp) (q:Option Addr) (v2:Value) (w:World):(eqGuard op T x y (.pointer q) v2).run P w = .ok () w:=by
 unfold eqGuard
 split <;> simp
theorem pu_add (hx:ev ρ x = .int k a) (hy:ev ρ y = .int k b):Pu P ρ ⟨d, .binOp .add T x y U,ty,p,af,g⟩ h (.int k (k.wrap (a+b))):=⟨fun w _=>by
 simp [execOp,guard_int,hx,hy,binOp,Op.intArith]⟩
theorem pu_sub (hx:ev ρ x = .int k a) (hy:ev ρ y = .int k b):Pu P ρ ⟨d, .binOp .sub T x y U,ty,p,af,g⟩ h (.int k (k.wrap (a - b))):=⟨fun w _=>by
 simp [execOp,guard_int,hx,hy,binOp,Op.intArith]⟩
theorem pu_mul (hx:ev ρ x = .int k a) (hy:ev ρ y = .int k b):Pu P ρ ⟨d, .binOp .mul T x y U,ty,p,af,g⟩ h (.int k (k.wrap (a*b))):=⟨fun w _=>by
 simp [execOp,guard_int,hx,hy,binOp,Op.intArith]⟩
theorem wrap_in (a:Int) (h1 : -9223372036854775808≤a) (h2:a≤9223372036854775807):IntKind.wrap .i64 a=a:=by
 simp only [IntKind.wrap,IntKind.signed,IntKind.bits]
 simp
 omega
theorem pu_eql (hx:ev ρ x = .int k a) (hy:ev ρ y = .int k b):Pu P ρ ⟨d, .binOp .eql T x y U,ty,p,af,g⟩ h (.bool (decide (a=b))):=⟨fun w _=>by
 simp [execOp,guard_int,hx,hy,binOp,Op.intCmp,beq_dec]⟩
theorem pu_neq (hx:ev ρ x = .int k a) (hy:ev ρ y = .int k b):Pu P ρ ⟨d, .binOp .neq T x y U,ty,p,af,g⟩ h (.bool (decide (a≠b))):=⟨fun w _=>by
 simp only [execOp,Sem.run_bind,guard_int,hx,hy,binOp,Op.intCmp,Result.andThen_ok]
 simp [bne,beq_dec]⟩
theorem pu_lss (hx:ev ρ x = .int k a) (hy:ev ρ y = .int k b):Pu P ρ ⟨d, .binOp .lss T x y U,ty,p,af,g⟩ h (.bool (decide (a<b))):=⟨fun w _=>by
 simp [execOp,guard_int,hx,hy,binOp,Op.intCmp]⟩
theorem pu_leq (hx:ev ρ x = .int k a) (hy:ev ρ y = .int k b):Pu P ρ ⟨d, .binOp .leq T x y U,ty,p,af,g⟩ h (.bool (decide (a≤b))):=⟨fun w _=>by
 simp [execOp,guard_int,hx,hy,binOp,Op.intCmp]⟩
theorem pu_gtr (hx:ev ρ x = .int k a) (hy:ev ρ y = .int k b):Pu P ρ ⟨d, .binOp .gtr T x y U,ty,p,af,g⟩ h (.bool (decide (b<a))):=⟨fun w _=>by
 simp [execOp,guard_int,hx,hy,binOp,Op.intCmp]⟩
theorem pu_geq (hx:ev ρ x = .int k a) (hy:ev ρ y = .int k b):Pu P ρ ⟨d, .binOp .geq T x y U,ty,p,af,g⟩ h (.bool (decide (b≤a))):=⟨fun w _=>by
 simp [execOp,guard_int,hx,hy,binOp,Op.intCmp]⟩
theorem pu_and (hx:ev ρ x = .int k a) (hy:ev ρ y = .int k b):Pu P ρ ⟨d, .binOp .and T x y U,ty,p,af,g⟩ h (.int k (k.wrap (((a % 2 ^ k.bits).toNat &&& (b % 2 ^ k.bits).toNat:Nat):Int))):=⟨fun w _=>by
 simp [execOp,guard_int,hx,hy,binOp,Op.intBits]⟩
theorem pu_or (hx:ev ρ x = .int k a) (hy:ev ρ y = .int k b):Pu P ρ ⟨d, .binOp .or T x y U,ty,p,af,g⟩ h (.int k (k.wrap (((a % 2 ^ k.bits).toNat ||| (b % 2 ^ k.bits).toNat:Nat):Int))):=⟨fun w _=>by
 simp [execOp,guard_int,hx,hy,binOp,Op.intBits]⟩
theorem pu_not {t:Bool} (hx:ev ρ x = .bool t):Pu P ρ ⟨d, .unOp .not T x,ty,p,af,g⟩ h (.bool (!t)):=⟨fun w _=>by
 simp [execOp,hx,Op.unary]⟩
theorem run_eq_bool [i:Und P T .bool] (s t:Bool) (w:World):(Op.equal T (.bool s) (.bool t)).run P w = .ok (s == t) w:=by
 unfold Op.equal Op.maxDepth
 exact run_equalIn_bool' w 9999 T s t i.out
theorem pu_eqb {s t:Bool} [Und P T .bool] (hx:ev ρ x = .bool s) (hy:ev ρ y = .bool t):Pu P ρ ⟨d, .binOp .eql T x y U,ty,p,af,g⟩ h (.bool (decide (s=t))):=⟨fun w _=>by
 simp [execOp,guard_bool,hx,hy,binOp,run_eq_bool,beq_dec]⟩
theorem pu_neqb {s t:Bool} [Und P T .bool] (hx:ev ρ x = .bool s) (hy:ev ρ y = .bool t):Pu P ρ ⟨d, .binOp .neq T x y U,ty,p,af,g⟩ h (.bool (decide (s≠t))):=⟨fun w _=>by
 simp [execOp,guard_bool,hx,hy,binOp,run_eq_bool,beq_dec]⟩
variable {l m:List UInt8}
theorem pu_eqs (hx:ev ρ x=bs l) (hy:ev ρ y=bs m):Pu P ρ ⟨d, .binOp .eql T x y U,ty,p,af,g⟩ h (.bool (decide (l=m))):=⟨fun w _=>by
 simp [execOp,guard_str,hx,hy,binOp_string_eql,beq_dec]⟩
theorem pu_neqs (hx:ev ρ x=bs l) (hy:ev ρ y=bs m):Pu P ρ ⟨d, .binOp .neq T x y U,ty,p,af,g⟩ h (.bool (decide (l≠m))):=⟨fun w _=>by
 simp [execOp,guard_str,hx,hy,binOp_string_neq,beq_dec]⟩
theorem size_mk (l:List UInt8):(ByteArray.mk l.toArray).size=l.length:=by simp [ByteArray.size]
theorem append_mk (l m:List UInt8):ByteArray.mk l.toArray++ByteArray.mk m.toArray=ByteArray.mk (l++m).toArray:=by
 apply ByteArray.ext
 simp
theorem pu_adds (hx:ev ρ x=bs l) (hy:ev ρ y=bs m) (hl:l.length+m.length≤9223372036854775807):Pu P ρ ⟨d, .binOp .add T x y U,ty,p,af,g⟩ h (bs (l++m)):=⟨fun w _=>by
 simp only [execOp,Sem.run_bind,guard_str,hx,hy,binOp,Op.stringOp,size_mk,append_mk,Result.andThen_ok]
 have:¬ (IntKind.max .i64<((l.length+m.length:Nat):Int)):=by simp [IntKind.max,IntKind.signed,IntKind.bits]; omega
 simp only [gt_iff_lt,this,if_false]
 simp⟩
theorem pu_index {n:Nat} [Und P T .string] (hx:ev ρ x=bs l) (hy:ev ρ y = .int k (n:Int)) (hn:n<l.length):Pu P ρ ⟨d, .index T x y,ty,p,af,g⟩ h (.int .u8 (((l.getD n 0).toNat:Nat):Int)):=⟨fun w _=>by
 have e:(ByteArray.mk l.toArray)[n]?=some (l.getD n 0):=by
  rw [getElem?_pos (ByteArray.mk l.toArray) n (by rw [size_mk]; exact hn)]
  simp [ByteArray.getElem_eq_getElem_data,hn]
 simp [execOp,hx,hy,Instr.index,asIntOf,und T w,e]⟩
theorem pu_lens [Und P T .string] {ta:Array TypeId} {ta':TypeId} (hx:ev ρ x=bs l) (hT:ta=#[T]):Pu P ρ ⟨d, .call ⟨.builtin .len,#[x],ta⟩,ta',p,af,g⟩ h (.int .i64 (l.length:Int)):=⟨fun w _=>by
 subst hT
 simp [execOp,resolve,hx,invoke,builtin,Builtin.len_,und T w,goInt,size_mk]⟩
theorem pu_lensl {e:TypeId} {q:Option Addr} {n cp:Nat} [Und P T (.slice e)] {ta:Array TypeId} {ta':TypeId} (hx:ev ρ x = .slice q n cp) (hT:ta=#[T]):Pu P ρ ⟨d, .call ⟨.builtin .len,#[x],ta⟩,ta',p,af,g⟩ h (.int .i64 (n:Int)):=⟨fun w _=>by
 subst hT
 simp [execOp,resolve,hx,invoke,builtin,Builtin.len_,und T w,goInt]⟩
theorem pu_min {ta:Array TypeId} {ta':TypeId} (hx:ev ρ x = .int k a) (hy:ev ρ y = .int k b):Pu P ρ ⟨d, .call ⟨.builtin .min,#[x,y],ta⟩,ta',p,af,g⟩ h (.int k (if b<a then b else a)):=⟨fun w _=>by
 simp [execOp,resolve,hx,hy,invoke,builtin,Builtin.min_,Builtin.min2]⟩
theorem pu_max {ta:Array TypeId} {ta':TypeId} (hx:ev ρ x = .int k a) (hy:ev ρ y = .int k b):Pu P ρ ⟨d, .call ⟨.builtin .max,#[x,y],ta⟩,ta',p,af,g⟩ h (.int k (if a<b then b else a)):=⟨fun w _=>by
 simp [execOp,resolve,hx,hy,invoke,builtin,Builtin.max_,Builtin.max2]⟩
theorem pu_extract {vs:Array Value} {i:Nat} (hx:ev ρ x = .tuple vs) (hi:vs[i]?=some v):Pu P ρ ⟨d, .extract x i,ty,p,af,g⟩ h v:=⟨fun w _=>by
 simp [execOp,hx,Instr.extract,hi]⟩
variable {B off:Nat}
theorem add_at (B off n:Nat):(⟨B,off,none⟩:Addr).add n=⟨B,off+n,none⟩:=by
 unfold Addr.add
 by_cases hn:n=0 <;> simp [hn]
theorem pu_nilCheck_p {q:Addr} (hx:ev ρ x = .pointer (some q)):Pu P ρ ⟨d, .nilCheck x,ty,p,af,g⟩ h (.pointer (some q)):=⟨fun w _=>by
 simp [execOp,hx]⟩
theorem pu_indexAddr {e:TypeId} {n len cp sz:Nat} [Und P T (.slice e)] [Siz P e sz] (hx:ev ρ x = .slice (some ⟨B,off,none⟩) len cp) (hy:ev ρ y = .int k (n:Int)) (hn:n<len):Pu P ρ ⟨d, .indexAddr T x y,ty,p,af,g⟩ h (.pointer (some ⟨B,off+n*sz,none⟩)):=⟨fun w _=>by
 simp [execOp,hx,hy,Instr.indexAt,asIntOf,und T w,siz e w,hn,add_at]⟩
theorem pu_fieldAddr {i sz ft fo:Nat} [F:Fld P T i ft fo] (hx:ev ρ x = .pointer (some ⟨B,off,none⟩)) (hz:∀ w,(sizeOf ft).run P w = .ok (sz+1) w):Pu P ρ ⟨d, .fieldAddr T x i,ty,p,af,g⟩ h (.pointer (some ⟨B,off+fo,none⟩)):=⟨fun w _=>by
 obtain ⟨fs,f,hu,hf,rfl,rfl⟩:=F.out
 simp [execOp,hx,Instr.fieldAt,run_underlying hu,hf,Instr.sureAddr,fieldPlace,hz,add_at]⟩
theorem pu_load [Agg P T false] {q:Addr} (hx:ev ρ x = .pointer (some q)) (hc:cell h q=some v):Pu P ρ ⟨d, .load T x,ty,p,af,g⟩ h v:=⟨fun w hw=>by
 subst hw
 simp [execOp,hx,Instr.loadAt,Instr.sureAddr,loadVar,agg T w,cell_eq,hc]⟩
def cellsFrom (h:Array Obj) (B:Nat):Nat→List Value→Prop
 | _,[]=>True
 | off,c::cs=>cell h ⟨B,off,none⟩=some c∧cellsFrom h B (off+1) cs
theorem run_loadCellsFrom (w:World) (B off:Nat):∀ (cs:List Value) (i:Nat) (acc:Array Value),cellsFrom w.heap B (off+i) cs→(loadCellsFrom ⟨B,off,none⟩ i cs.length acc).run P w = .ok (acc++cs.toArray) w
 | [],i,acc,_=>by simp [loadCellsFrom]
 | c::cs,i,acc,hc=>by
  simp only [List.length_cons,loadCellsFrom,Sem.run_bind,add_at,run_load,cell_eq,hc.1,Result.andThen_ok]
  rw [run_loadCellsFrom w B off cs (i+1) (acc.push c) hc.2]
  simp
theorem pu_loadAgg [Agg P T true] {n:Nat} {cs:List Value} [Siz P T n] (hx:ev ρ x = .pointer (some ⟨B,off,none⟩)) (hn:cs.length=n) (hc:cellsFrom h B off cs):Pu P ρ ⟨d, .load T x,ty,p,af,g⟩ h (.agg cs.toArray):=⟨fun w hw=>by
 subst hw
 subst hn
 have:=run_loadCellsFrom (P:=P) w B off cs 0 #[] (by simpa using hc)
 simp [execOp,hx,Instr.loadAt,Instr.sureAddr,loadVar,agg T w,siz T w,loadCells,this]⟩
end
end Go.Proofs.YtkmigbicabfodaaGreat.K
namespace Go.Proofs.YtkmigbicabfodaaGreat.K
open Go
section
variable {P:Program} {E:Env} {ops:List Oper} {K:List Value→Array Obj→Prop} {rest:List Oper} {ρ ρ':List Value} {o:Oper} {h h':Array Obj} {v:Value} {d:Option Tmp} {T ty U:TypeId} {p:String} {af:Array Edge} {g:Option (Nat×Bool)} {x y z:Operand} {l:List UInt8} {k k':IntKind} {m n:Nat}
theorem extract_mk (l:List UInt8) (m n:Nat):(ByteArray.mk l.toArray).extract m n=ByteArray.mk ((l.take n).drop m).toArray:=by
 apply ByteArray.ext
 rw [ByteArray.data_extract]
 simp [List.extract_eq_take_drop,List.drop_take]
def Sin (E:Env) (S:Array Obj→Prop) (w:World):Prop:=∃ h,At E h w∧S h
structure QW (P:Program) (E:Env) (S:Array Obj→Prop) (ops:List Oper) (K:List Value→Prop) (l:List Oper) (ρ:List Value):Prop where
 out:wpQuiet P ops.toArray (Sin E S) (fun a=>∃ ρ',a=act ρ'∧K ρ') l (act ρ)
variable {f:FuncId} {R:Value→Array Obj→Prop} {kk:List Item} {Kq:List Value→Prop} {S:Array Obj→Prop}
theorem tw_quiet (S:Array Obj→Prop) {id:Nat} (hm:P.follows .mixedOrders=true) (hB:Region.lexB .any ops.toArray=true) (hS:S h) (hl:∀ K:List Value→Prop,(∀ ρ,(∀ h,S h→TW P f E R kk ρ h)→K ρ)→QW P E S ops K ops ρ):TW P f E R (.code (.region id ops.toArray true)::kk) ρ h :=
 TW.of_wp fun w hw=>by
  refine wp_region_quiet (C:=Sin E S) hm hB ⟨h,⟨hw.1,hw.2.1,hw.2.2.1,hw.2.2.2⟩,hS⟩ ?_
  have h1:=(hl (fun ρ=>∀ h,S h→TW P f E R kk ρ h) (fun _ h=>h)).out
  have h2:∀ (l:List Oper) (a:Act),wpQuiet P ops.toArray (Sin E S) (fun a=>∃ ρ',a=act ρ'∧∀ h,S h→TW P f E R kk ρ' h) l a→wpQuiet P ops.toArray (Sin E S) (fun a'=>∀ w',Sin E S w'→(fun e a w'=>e=Exit.normal∧∃ ρ' h',a=act ρ'∧At E h' w'∧TW P f E R kk ρ' h') Exit.normal a' w') l a:=by
   intro l
   induction l with
   | nil=>exact fun a ⟨ρ',ha,hT⟩ w' ⟨h',hA',hS'⟩=>⟨rfl,ρ',h',ha,hA',hT h' hS'⟩
   | cons o l ih =>
    intro a hh
    unfold wpQuiet at hh ⊢
    split
    ·rename_i hq
     rw [if_pos hq] at hh
     obtain ⟨v,h1,h2⟩:=hh
     exact ⟨v,h1,ih _ h2⟩
    ·rename_i hq
     rw [if_neg hq] at hh
     exact ih _ hh
  exact h2 _ _ h1
theorem qw_nil (hk:Kq ρ):QW P E S ops Kq [] ρ:=⟨⟨ρ,rfl,hk⟩⟩
theorem qw_pu (hg:Wan ops ρ o) (hx:∀ h,S h→Pu P ρ o h v) (hs:setD ρ o.dst v=ρ') (hk:QW P E S ops Kq rest ρ'):QW P E S ops Kq (o::rest) ρ:=by
 refine ⟨?_⟩
 unfold wpQuiet
 rw [if_pos hg.out]
 refine ⟨v,fun w ⟨h,hw,hS⟩=>?_,?_⟩
 ·unfold Oper.quietAt
  rw [eval_mk,(hx h hS).out w hw.1]
  exact ⟨rfl,rfl⟩
 ·rw [put_mk,hs]; exact hk.out
theorem qw_skip (hg:Region.wanted o (yielded ops.toArray (act ρ).tmps)=false) (hs:setD ρ o.dst undef=ρ') (hk:QW P E S ops Kq rest ρ'):QW P E S ops Kq (o::rest) ρ:=by
 refine ⟨?_⟩
 unfold wpQuiet
 rw [if_neg (by rw [hg]; exact Bool.false_ne_true),put_mk,hs]
 exact hk.out
theorem qw_skip_b {j t:Nat} {b:Bool} (hg:o.guard=some (j,b)) (hd:(ops[j]?).bind (·.dst)=some t) (hv:ev ρ (.tmp t) = .bool (!b)) (hs:setD ρ o.dst undef=ρ') (hk:QW P E S ops Kq rest ρ'):QW P E S ops Kq (o::rest) ρ :=
 qw_skip (by cases b <;> simp [Region.wanted,hg,yielded_mk hd hv]) hs hk
theorem qw_skip_u {j t:Nat} {b:Bool} (hg:o.guard=some (j,b)) (hd:(ops[j]?).bind (·.dst)=some t) (hv:ev ρ (.tmp t)=undef) (hs:setD ρ o.dst undef=ρ') (hk:QW P E S ops Kq rest ρ'):QW P E S ops Kq (o::rest) ρ :=
 qw_skip (by simp [Region.wanted,hg,yielded_undef hd hv]) hs hk
theorem qw_calp {g:FuncId} {xs:List Operand} {ta:Array TypeId} {gd:Option (Nat×Bool)} [Cal P g] (hw:Wan ops ρ ⟨d, .call ⟨.value (.func g),xs.toArray,ta⟩,ty,p,af,gd⟩) (hc:∀ h,S h→Ret P g (xs.map (ev ρ)) h fun v' h'=>v'=v∧S h')
  (hs:setD ρ d v=ρ') (hk:QW P E S ops Kq rest ρ'):QW P E S ops Kq (⟨d, .call ⟨.value (.func g),xs.toArray,ta⟩,ty,p,af,gd⟩::rest) ρ:=by
 refine ⟨?_⟩
 unfold wpQuiet
 rw [if_pos hw.out]
 refine ⟨v,fun w ⟨h,hA,hS⟩=>?_,?_⟩
 ·unfold Oper.quietAt
  rw [eval_mk,run_cal w]
  refine ⟨rfl,((hc h hS).out E w hA).mono fun e w' ⟨v',he,h',hA',hv',hh⟩=>?_⟩
  subst hv'
  exact ⟨he,h',hA',hh⟩
 ·show wpQuiet _ _ _ _ _ _
  rw [put_mk,hs]; exact hk.out
theorem lw_ex (hg:Wan ops ρ o) (hx:Ex P ρ o h v h') (hs:setD ρ o.dst v=ρ') (hk:LW P E ops K rest ρ' h'):LW P E ops K (o::rest) ρ h:=lw_wanted hg.out hx hs hk
theorem At.push {w:World} {ob:Obj} (hw:At E h w):At E (h.push ob) { w with heap:=w.heap.push ob }:=⟨by rw [← hw.1],hw.2.1,hw.2.2.1,hw.2.2.2⟩
theorem ex_box {u:Value} (hx:ev ρ x=u):Ex P ρ ⟨d, .box T x,ty,p,af,g⟩ h (.pointer (some ⟨h.size,0,none⟩)) (h.push (.cells u.cells T (0,0))):=⟨fun E w hw=>by
 refine ⟨_,_,by simp only [execOp,hx,Instr.box,newVar,newRow,Sem.run_bind,run_newObj,Result.andThen_ok,Sem.run_pure]; rfl,hw.push, .inl ?_⟩
 rw [hw.1]⟩
theorem ex_alloc {u:Value} [Zer P T u]:Ex P ρ ⟨d, .alloc T,ty,p,af,g⟩ h (.pointer (some ⟨h.size,0,none⟩)) (h.push (.cells u.cells T (0,0))):=⟨fun E w hw=>by
 refine ⟨_,_,by simp only [execOp,Instr.alloc,newVar,newRow,zer T w,Sem.run_bind,run_newObj,Result.andThen_ok,Sem.run_pure]; rfl,hw.push, .inl ?_⟩
 rw [hw.1]⟩
def hset (h:Array Obj) (B off:Nat) (v:Value):Array Obj :=
 h.modify B fun | .cells c e fz => .cells (c.setIfInBounds off v) e fz | ob=>ob
end
def fzok (fz:Nat×Nat) (n:Nat):Prop:=∀ i,i<n→¬ (fz.1≤i∧i<fz.2)
theorem fzok0 (n:Nat):fzok (0,0) n:=fun i _ h=>by simp at h
inductive BT | c (T:TypeId) | map | sit
instance:Coe TypeId BT:=⟨BT.c⟩
@[simp] def BT.ty:BT→TypeId
 | .c T=>T
 | _=>0
abbrev Blk:=Nat×List Value×BT
structure Mem (h0 h:Array Obj) (M L:List Blk):Prop where
 size:h0.size≤h.size
 old:∀ b,b<h0.size→(∀ p∈M,p.1≠b)→h[b]?=h0[b]?
 at_:∀ p∈M++L,h[p.1]?=some (.cells p.2.1.toArray p.2.2.ty (0,0))
 new:∀ p∈L,h0.size≤p.1
 nodup:((M++L).map (·.1)).Nodup
def Ext (h0 h:Array Obj):Prop:=h0.size≤h.size∧∀ b,b<h0.size→h[b]?=h0[b]?
theorem Ext.refl (h:Array Obj):Ext h h:=⟨Nat.le_refl _,fun _ _=>rfl⟩
theorem Ext.trans {a b c:Array Obj} (h1:Ext a b) (h2:Ext b c):Ext a c:=⟨Nat.le_trans h1.1 h2.1,fun i hi=>(h2.2 i (Nat.lt_of_lt_of_le hi h1.1)).trans (h1.2 i hi)⟩
theorem Mem.refl (h:Array Obj):Mem h h [] []:=⟨Nat.le_refl _,fun _ _ _=>rfl,by simp,by simp,by simp⟩
theorem Mem.ext {h0 h:Array Obj} {L:List Blk} (hm:Mem h0 h [] L):Ext h0 h:=⟨hm.size,fun b hb=>hm.old b hb (by simp)⟩
theorem Mem.lt {h0 h:Array Obj} {M L:List Blk} (hm:Mem h0 h M L) {p:Blk} (hp:p∈M++L):p.1<h.size:=by
 have:=hm.at_ p hp
 exact (Array.getElem?_eq_some_iff.1 this).1
theorem Mem.call {h0 h h':Array Obj} {M L:List Blk} (hm:Mem h0 h M L) (he:Ext h h'):Mem h0 h' M L :=
 ⟨Nat.le_trans hm.size he.1,fun b hb hM=>(he.2 b (Nat.lt_of_lt_of_le hb hm.size)).trans (hm.old b hb hM),fun p hp=>(he.2 _ (hm.lt hp)).trans (hm.at_ p hp),hm.new,hm.nodup⟩
theorem Mem.push {h0 h:Array Obj} {M L:List Blk} (hm:Mem h0 h M L) (cs:List Value) (T:TypeId):Mem h0 (h.push (.cells cs.toArray T (0,0))) M ((h.size,cs,BT.c T)::L):=by
 refine ⟨by simp; have:=hm.size; omega,fun b hb hM=>?_,fun p hp=>?_,fun p hp=>?_,?_⟩
 ·rw [Array.getElem?_push,if_neg (by have:=hm.size; omega)]
  exact hm.old b hb hM
 ·simp only [List.mem_append,List.mem_cons] at hp
  rcases hp with hp | rfl | hp
  ·have h1:=hm.lt (p:=p) (by simp [hp])
   rw [Array.getElem?_push,if_neg (by omega)]
   exact hm.at_ p (by simp [hp])
  ·simp
  ·have h1:=hm.lt (p:=p) (by simp [hp])
   rw [Array.getElem?_push,if_neg (by omega)]
   exact hm.at_ p (by simp [hp])
 ·simp only [List.mem_cons] at hp
  rcases hp with rfl | hp
  ·exact hm.size
  ·exact hm.new p hp
 ·have h1:∀ q∈M++L,q.1≠h.size:=fun q hq=>by have:=hm.lt hq; omega
  have h2:=hm.nodup
  simp only [List.map_append,List.map_cons] at h2 ⊢
  rw [List.nodup_append] at h2 ⊢
  refine ⟨h2.1,?_,?_⟩
  ·rw [List.nodup_cons]
   refine ⟨fun hin=>?_,h2.2.1⟩
   obtain ⟨q,hq,he⟩:=List.mem_map.1 hin
   exact h1 q (by simp [hq]) he
  ·intro a ha b hb hab
   simp only [List.mem_cons] at hb
   rcases hb with rfl | hb
   ·obtain ⟨q,hq,he⟩:=List.mem_map.1 ha
    exact h1 q (by simp [hq]) (by omega)
   ·exact h2.2.2 a ha b hb hab
theorem Mem.own {h0 h:Array Obj} {M L:List Blk} (hm:Mem h0 h M L) {B off j:Nat} {cs:List Value} {T:TypeId} {v:Value} (hj:L[j]?=some (B,cs,BT.c T)) (hc:cs[off]?=some v):cell h ⟨B,off,none⟩=some v:=by
 have h1:=hm.at_ (B,cs,BT.c T) (by simp [List.mem_of_getElem? hj])
 simp only at h1
 simp [K.cell,h1,hc]
theorem nodup_keys {L:List Blk} (hn:(L.map (·.1)).Nodup) {j:Nat} {B:Nat} {cs:List Value} {T:BT} (hj:L[j]?=some (B,cs,T)) {i:Nat} {q:Blk} (hi:L[i]?=some q) (hij:i≠j):q.1≠B:=by
 intro he
 have h1:(L.map (·.1))[i]?=some q.1:=by simp [hi]
 have h2:(L.map (·.1))[j]?=some B:=by simp [hj]
 rw [he] at h1
 obtain ⟨hi',hi''⟩:=List.getElem?_eq_some_iff.1 h1
 obtain ⟨hj',hj''⟩:=List.getElem?_eq_some_iff.1 h2
 exact hij ((List.getElem_inj (h₀:=hi') (h₁:=hj') hn).1 (hi''.trans hj''.symm))
theorem Mem.put {h0 h h':Array Obj} {M L M' L':List Blk} (hm:Mem h0 h M L) {j B:Nat} {cs cs':List Value} {T:TypeId} (hj:(M++L)[j]?=some (B,cs,BT.c T)) (hz:h'.size=h.size) (ho:∀ b,b≠B→h'[b]?=h[b]?) (hb:h'[B]?=some (.cells cs'.toArray T (0,0)))
  (hML:(M++L).set j (B,cs',BT.c T)=M'++L') (hlen:M'.length=M.length):Mem h0 h' M' L':=by
 have hjl:j<(M++L).length:=(List.getElem?_eq_some_iff.1 hj).1
 have hkeys:(M'++L').map (·.1)=(M++L).map (·.1):=by
  rw [← hML,List.map_set]
  apply List.ext_getElem?
  intro i
  by_cases e:j=i
  ·subst e
   rw [List.getElem?_set_self (by simpa using hjl),List.getElem?_map,hj]
   rfl
  ·rw [List.getElem?_set_ne e]
 have hM:M'.map (·.1)=M.map (·.1):=by
  have:=congrArg (List.take M.length) hkeys
  simpa [hlen,List.take_append_of_le_length] using this
 have hL:L'.map (·.1)=L.map (·.1):=by
  have:=congrArg (List.drop M.length) hkeys
  simpa [hlen] using this
 refine ⟨by rw [hz]; exact hm.size,fun b hb' hMb=>?_,fun p hp=>?_,fun p hp=>?_,by rw [hkeys]; exact hm.nodup⟩
 ·have hMb':∀ p∈M,p.1≠b:=fun p hp he=>by
   have:b∈M'.map (·.1):=by rw [hM]; exact List.mem_map.2 ⟨p,hp,he⟩
   obtain ⟨q,hq,hqe⟩:=List.mem_map.1 this
   exact hMb q hq hqe
  by_cases hbB:b=B
  ·subst hbB
   have hmem:(b,cs,BT.c T)∈M++L:=List.mem_of_getElem? hj
   rcases List.mem_append.1 hmem with h1 | h1
   ·exact absurd rfl (hMb' _ h1)
   ·have:=hm.new _ h1
    simp only at this
    omega
  ·rw [ho b hbB]; exact hm.old b hb' hMb'
 ·obtain ⟨i,hi⟩:=List.mem_iff_getElem?.1 hp
  rw [← hML] at hi
  by_cases e:j=i
  ·subst e
   rw [List.getElem?_set_self hjl] at hi
   obtain rfl:=Option.some.inj hi
   exact hb
  ·rw [List.getElem?_set_ne e] at hi
   have hne:=nodup_keys hm.nodup hj hi (fun h=>e h.symm)
   rw [ho _ hne]
   exact hm.at_ p (List.mem_of_getElem? hi)
 ·have:p.1∈L.map (·.1):=by rw [← hL]; exact List.mem_map.2 ⟨p,hp,rfl⟩
  obtain ⟨q,hq,he⟩:=List.mem_map.1 this
  rw [← he]
  exact hm.new q hq
section
variable {P:Program} {E:Env} {ops:List Oper} {K:List Value→Array Obj→Prop} {rest:List Oper} {ρ ρ':List Value} {o:Oper} {h0 h h':Array Obj} {M L M' L':List Blk} {v u:Value} {d:Option Tmp} {T ty U:TypeId} {p:String} {af:Array Edge} {g:Option (Nat×Bool)} {x y z:Operand} {cs:List Value}
variable {f:FuncId} {R:Value→Array Obj→Prop} {kk:List Item} {Kq:List Value→Prop}
theorem Mem.after {h':Array Obj} {j B:Nat} {cs':List Value} (hm:Mem h0 h M L) (hj:L[j]?=some (B,cs,BT.c T)) (hc:Mem h h' [(B,cs',BT.c T)] []) (hL:L.set j (B,cs',BT.c T)=L'):Mem h0 h' M L':=by
 have hjl:j<L.length:=(List.getElem?_eq_some_iff.1 hj).1
 subst hL
 have hoth:∀ b,b<h.size→b≠B→h'[b]?=h[b]?:=fun b hb hne=>hc.old b hb (by simpa using fun e=>hne e.symm)
 have hBnew:h0.size≤B:=hm.new (B,cs,BT.c T) (List.mem_of_getElem? hj)
 have hkeys:(L.set j (B,cs',BT.c T)).map (·.1)=L.map (·.1):=by
  rw [List.map_set]
  apply List.ext_getElem?
  intro i
  by_cases e:j=i
  ·subst e
   rw [List.getElem?_set_self (by simpa using hjl),List.getElem?_map,hj]
   rfl
  ·rw [List.getElem?_set_ne e]
 refine ⟨Nat.le_trans hm.size hc.size,fun b hb hM=>?_,fun p hp=>?_,fun p hp=>?_,?_⟩
 ·have:=hm.size
  rw [hoth b (by omega) (by omega)]
  exact hm.old b hb hM
 ·rcases List.mem_append.1 hp with hp | hp
  ·have hlt:=hm.lt (p:=p) (by simp [hp])
   have hne:p.1≠B:=by
    have hn:=hm.nodup
    rw [List.map_append,List.nodup_append] at hn
    exact hn.2.2 p.1 (List.mem_map.2 ⟨p,hp,rfl⟩) B (List.mem_map.2 ⟨_,List.mem_of_getElem? hj,rfl⟩)
   rw [hoth _ hlt hne]
   exact hm.at_ p (by simp [hp])
  ·obtain ⟨i,hi⟩:=List.mem_iff_getElem?.1 hp
   by_cases e:j=i
   ·subst e
    rw [List.getElem?_set_self hjl] at hi
    obtain rfl:=Option.some.inj hi
    exact hc.at_ (B,cs',BT.c T) (by simp)
   ·rw [List.getElem?_set_ne e] at hi
    have hn:=hm.nodup
    rw [List.map_append,List.nodup_append] at hn
    have hne:=nodup_keys hn.2.1 hj hi (fun h=>e h.symm)
    have hin:p∈L:=List.mem_of_getElem? hi
    rw [hoth _ (hm.lt (p:=p) (by simp [hin])) hne]
    exact hm.at_ p (by simp [hin])
 ·have:p.1∈L.map (·.1):=by rw [← hkeys]; exact List.mem_map.2 ⟨p,hp,rfl⟩
  obtain ⟨q,hq,he⟩:=List.mem_map.1 this
  rw [← he]
  exact hm.new q hq
 ·rw [List.map_append,hkeys,← List.map_append]
  exact hm.nodup
theorem Mem.one {B:Nat} (hb:h[B]?=some (.cells cs.toArray T (0,0))):Mem h h [(B,cs,BT.c T)] []:=⟨Nat.le_refl _,fun _ _ _=>rfl,by simpa using hb,by simp,by simp⟩
theorem Mem.drop (hm:Mem h0 h M L):Mem h0 h M [] :=
 ⟨hm.size,hm.old,fun p hp=>hm.at_ p (by simp at hp; simp [hp]),by simp,by have:=hm.nodup; rw [List.map_append,List.nodup_append] at this; simpa using this.1⟩
end
section
variable {P:Program} {ρ:List Value} {h:Array Obj} {d:Option Tmp} {T ty:TypeId} {p:String} {af:Array Edge} {g:Option (Nat×Bool)} {cs:List Value}
end
end Go.Proofs.YtkmigbicabfodaaGreat.K
set_option linter.unusedVariables false
set_option linter.unusedSimpArgs false
namespace Go.Proofs.YtkmigbicabfodaaGreat.K
open Go Go.ChangeShapes Go.WideShapes Go.ChangeAt Go.RowKit
theorem trodAll_stays {H:Type} {enc:TypeId×Value→H} {P:Program} (hl:laidOutB P=true) {W W':World} {sp:Nat→Bool}:∀ (ts:List TypeId) (vs:List Value) (ds:List (DataW H)) (ps:List MemPlace),
  ts.all (fun t=>P.readableRec t && decide (t<P.types.size))=true→DataW.TrodAll enc P W 0 (fun _=>true) true ts vs ds ps→(∀ p∈ps,W.sameAt W' p)→(∀ p∈ps,sp p.block=true)→DataW.TrodAll enc P W' 0 sp true ts vs ds ps
 | [],[],[],_,_,h,_,_=>h
 | t::ts,v::vs,d::ds,ps,hr,⟨p,q,h1,h2,he⟩,hs,hb=>by
  subst he
  simp only [List.all_cons,Bool.and_eq_true,decide_eq_true_eq] at hr
  exact ⟨p,q,WideElems.Trod_stays hl hr.1.1 hr.1.2 h1 (fun x hx=>hs x (by simp [hx])) (fun x hx=>hb x (by simp [hx])),trodAll_stays hl ts vs ds q hr.2 h2 (fun x hx=>hs x (by simp [hx])) (fun x hx=>hb x (by simp [hx])),rfl⟩
 | [],_::_,_,_,_,h,_,_=>h.elim
 | [],[],_::_,_,_,h,_,_=>h.elim
 | _::_,[],_,_,_,h,_,_=>h.elim
 | _::_,_::_,[],_,_,h,_,_=>h.elim
theorem below_of {E:Env} {W w':World} {h':Array Obj} (hE:E=⟨W.os,W.output,W.tape⟩) (hA:At E h' w') (he:Ext W.heap h'):Below W.heap.size W w':=by
 subst hE
 exact ⟨hA.2.1,hA.2.2.2,hA.2.2.1,by rw [hA.1]; exact he.1,fun k hk=>by rw [hA.1]; exact he.2 k hk⟩
theorem law_post {H:Type} {enc:TypeId×Value→H} {P:Program} {k:FuncId} {f:Func} {s:ChangeSpec} {tb:TypeId} {W:World} {args:Array Value} {ds gs:List (DataW H)} {before:List MemPlace}
  (hl:laidOutB P=true) (hread:f.params.toList.all (fun t=>P.readableRec t && decide (t<P.types.size))=true) (hrt:f.resultTypes=#[tb]) (hub:P.underlying tb=some .bool) (hvars:s.vars=[]) (hW:DataW.Whole enc P f.params.toList s.vars false W args.toList ds gs before)
  (hfn:(s.fn H (ds++gs)).results=[.lit (.bool true)]∧(s.fn H (ds++gs)).args=ds∧(s.fn H (ds++gs)).vars=[])
  (hret:Ret P k args.toList W.heap fun v h=>v = .bool true∧Ext W.heap h) :
  Calls P k args W fun e W'=>∃ v,e = .returned v∧s.post enc P f false true false false W args v W':=by
 have h1:=hret.out ⟨W.os,W.output,W.tape⟩ W ⟨rfl,rfl,rfl,rfl⟩
 simp only [Array.toArray_toList] at h1
 refine h1.mono fun e W' ⟨v,he,h',hA,hv,hx⟩=>?_
 subst hv
 refine ⟨_,he,?_⟩
 have hb:=below_of rfl hA hx
 have hW':=hW
 obtain ⟨p,q,hA0,hV,rfl,hfz,hnd⟩:=hW
 rw [hvars] at hV
 have hq:q=[]∧gs=[]:=by
  cases gs with
  | nil=>exact ⟨hV,rfl⟩
  | cons g gs=>exact hV.elim
 obtain ⟨rfl,rfl⟩:=hq
 have hlt:∀ x∈p,x.block<W.heap.size:=fun x hx=>hW'.lt x (by simp [hx])
 refine ⟨ds,[],p++[],[],p,[],hW',?_,?_,?_,World.keptBut_mono (fun _ h=>h.elim) (hb.frame (fun _=>False)),fun h=>by cases h⟩
 ·rw [hrt,hfn.1]
  exact trodAll_mk1 (shut_bool hub true)
 ·rw [hfn.2.1]
  exact trodAll_stays hl _ _ _ _ hread hA0 (fun x hx=>hb.same (hlt x hx)) (fun x hx=>by simpa using hlt x hx)
 ·rw [hvars,hfn.2.2]
  rfl
end Go.Proofs.YtkmigbicabfodaaGreat.K
namespace Go.Proofs.YtkmigbicabfodaaGreat.K
open Go
structure AW (P:Program) (E:Env) (S:Array Obj→Prop) (ops:List Oper) (K:List Value→Array Obj→Prop) (fuel:Nat) (listed:Array Bool) (ρ:List Value) (h:Array Obj):Prop where
 out:∀ w,At E h w→wpAnyH P .any ops.toArray (fun e a w'=>e = .normal∧∃ ρ' h',a=act ρ'∧At E h' w'∧K ρ' h') (Sin E S) fuel listed (act ρ) w
theorem wp_mono2 {P:Program} {o:Oper} {a:Act} {w:World} {K K':Act→World→Prop} {Q Q':Exit→Act→World→Prop} (h:∀ a w,K a w→K' a w) (hq:∀ e a w,e ≠ .normal→Q e a w→Q' e a w) (hl:LetsOut Q→LetsOut Q') (hh:o.wp P a w K Q):o.wp P a w K' Q':=by
 unfold Oper.wp at *
 generalize (execOp a.eval o).run P w=r at *
 cases r with
 | ok n w' =>
  cases n <;> simp only [Oper.upon] at hh ⊢ <;>
   first
    | exact h _ _ hh
    | exact Calls.mono hh (fun e w'' he=>by cases e <;> first | exact h _ _ he | exact hq _ _ _ (by simp) he | exact hl he)
    | exact Rows.mono hh (fun _ _ he=>h _ _ he)
 | halt x w'=>cases x <;> simp only [Oper.upon] at hh ⊢ <;> first | exact hh | exact hq _ _ _ (by simp) hh
section
variable {P:Program} {f:FuncId} {E:Env} {R:Value→Array Obj→Prop} {kk:List Item} {S:Array Obj→Prop} {ops:List Oper} {K:List Value→Array Obj→Prop} {ρ ρ':List Value} {o:Oper} {h0 h h':Array Obj} {v:Value} {fuel n:Nat} {listed:Array Bool} {i:Nat} {M L:List Blk}
theorem tw_held (S:Array Obj→Prop) {id:Nat} (hm:P.follows .mixedOrders=true) (hn:ops.length=n) (hl:∀ K:List Value→Array Obj→Prop,(∀ ρ h,TW P f E R kk ρ h→K ρ h)→AW P E S ops K n (Array.replicate n false) ρ h):TW P f E R (.code (.region id ops.toArray true)::kk) ρ h :=
 TW.of_wp fun w hw=>by
  subst hn
  exact wp_region_held (S:=Sin E S) hm (by simpa using (hl _ (fun _ _ h=>h)).out { w with drawn:=w.drawn+1 } ⟨hw.1,hw.2.1,hw.2.2.1,hw.2.2.2⟩)
theorem aw_done (hr:Region.ready .any ops.toArray listed=[]) (hk:K ρ h):AW P E S ops K fuel listed ρ h :=
 ⟨fun _ hw=>wpAnyH_done hr ⟨rfl,ρ,h,rfl,hw,hk⟩ fuel⟩
theorem aw_take (i:Nat) (hi:ops[i]?=some o) (hs:Region.noSelect ops.toArray=true) (hf:Region.free .any ops.toArray listed i=true) (hr:(Region.ready .any ops.toArray listed).contains i=true)
  (hS:S h) (hw:Wan ops ρ o) (hx:∀ h,S h→Pu P ρ o h v) (hset:setD ρ o.dst v=ρ') (hk:AW P E S ops K fuel (listed.setIfInBounds i true) ρ' h):AW P E S ops K (fuel+1) listed ρ h:=by
 refine ⟨fun w hA=>wpAnyH_take (i:=i) (oi:=o) (v:=v) (by simpa using hi) hs hf hr (fun c a w hq=>by cases hq.1) (.inl ⟨hw.out,fun w' ⟨h',hA',hS'⟩=>?_⟩) ⟨h,hA,hS⟩ ?_⟩
 ·rw [eval_mk]; exact (hx h' hS').out w' hA'.1
 ·rw [put_mk,hset]; exact hk.out w hA
theorem aw_skip_gen (i:Nat) (hi:ops[i]?=some o) (hs:Region.noSelect ops.toArray=true) (hf:Region.free .any ops.toArray listed i=true) (hr:(Region.ready .any ops.toArray listed).contains i=true)
  (hS:S h) (hw:Region.wanted o (yielded ops.toArray (act ρ).tmps)=false) (hset:setD ρ o.dst undef=ρ') (hk:AW P E S ops K fuel (listed.setIfInBounds i true) ρ' h):AW P E S ops K (fuel+1) listed ρ h:=by
 refine ⟨fun w hA=>wpAnyH_take (i:=i) (oi:=o) (v:=undef) (by simpa using hi) hs hf hr (fun c a w hq=>by cases hq.1) (.inr ⟨hw,rfl⟩) ⟨h,hA,hS⟩ ?_⟩
 rw [put_mk,hset]; exact hk.out w hA
theorem aw_each {l:List Nat} (hr:Region.ready .any ops.toArray listed=l) (hne:l≠[]) (hl:∀ j∈l,∃ o,ops[j]?=some o∧LW P E ops (fun ρ' h'=>S h'∧AW P E S ops K fuel (listed.setIfInBounds j true) ρ' h') [o] ρ h):AW P E S ops K (fuel+1) listed ρ h:=by
 refine ⟨fun w hA=>wpAnyH_all hr hne fun j hj=>?_⟩
 obtain ⟨o,hi,hl⟩:=hl j hj
 have h1:=hl.out w hA
 unfold wpOp
 have hi':ops.toArray[j]?=some o:=by simpa using hi
 simp only [hi']
 unfold wpList at h1
 split
 ·rename_i hq
  rw [if_pos hq] at h1
  rcases h1 with h1 | h1
  ·refine .inl (wp_mono2 (fun a w' hh=>?_) (fun e a w' hne hh=>absurd hh.1 hne) (fun ⟨_,_,hh⟩=>by cases hh.1) h1)
   obtain ⟨_,ρ',h',rfl,hA',hS',hk⟩:=hh
   exact ⟨⟨h',hA',hS'⟩,hk.out w' hA'⟩
  ·obtain ⟨_,a,w',hq,_⟩:=h1
   cases hq
 ·rename_i hq
  rw [if_neg hq] at h1
  obtain ⟨_,ρ',h',he,hA',hS',hk⟩:=h1
  rw [he]
  exact ⟨⟨h',hA',hS'⟩,hk.out w hA'⟩
theorem aw_step (i:Nat) (hi:ops[i]?=some o) (hr:Region.ready .any ops.toArray listed=[i]) (hl:LW P E ops (fun ρ' h'=>S h'∧AW P E S ops K fuel (listed.setIfInBounds i true) ρ' h') [o] ρ h):AW P E S ops K (fuel+1) listed ρ h :=
 aw_each hr (by simp) fun j hj=>by
  obtain rfl:j=i:=by simpa using hj
  exact ⟨o,hi,hl⟩
theorem aw_two {o':Oper} (i i':Nat) (hi:ops[i]?=some o) (hi':ops[i']?=some o') (hr:Region.ready .any ops.toArray listed=[i,i']) (hl:LW P E ops (fun ρ' h'=>S h'∧AW P E S ops K fuel (listed.setIfInBounds i true) ρ' h') [o] ρ h)
  (hl':LW P E ops (fun ρ' h'=>S h'∧AW P E S ops K fuel (listed.setIfInBounds i' true) ρ' h') [o'] ρ h):AW P E S ops K (fuel+1) listed ρ h :=
 aw_each hr (by simp) fun j hj=>by
  have hj':j=i∨j=i':=by simpa using hj
  rcases hj' with rfl | rfl
  ·exact ⟨o,hi,hl⟩
  ·exact ⟨o',hi',hl'⟩
theorem aw_skip_b {j t:Nat} {b:Bool} (i:Nat) (hi:ops[i]?=some o) (hs:Region.noSelect ops.toArray=true) (hf:Region.free .any ops.toArray listed i=true) (hr:(Region.ready .any ops.toArray listed).contains i=true)
  (hS:S h) (hg:o.guard=some (j,b)) (hd:(ops[j]?).bind (·.dst)=some t) (hv:ev ρ (.tmp t) = .bool (!b)) (hset:setD ρ o.dst undef=ρ') (hk:AW P E S ops K fuel (listed.setIfInBounds i true) ρ' h):AW P E S ops K (fuel+1) listed ρ h :=
 aw_skip_gen i hi hs hf hr hS (by cases b <;> simp [Region.wanted,hg,yielded_mk hd hv]) hset hk
theorem aw_skip_u {j t:Nat} {b:Bool} (i:Nat) (hi:ops[i]?=some o) (hs:Region.noSelect ops.toArray=true) (hf:Region.free .any ops.toArray listed i=true) (hr:(Region.ready .any ops.toArray listed).contains i=true)
  (hS:S h) (hg:o.guard=some (j,b)) (hd:(ops[j]?).bind (·.dst)=some t) (hv:ev ρ (.tmp t)=undef) (hset:setD ρ o.dst undef=ρ') (hk:AW P E S ops K fuel (listed.setIfInBounds i true) ρ' h):AW P E S ops K (fuel+1) listed ρ h :=
 aw_skip_gen i hi hs hf hr hS (by simp [Region.wanted,hg,yielded_undef hd hv]) hset hk
end
structure Hld (h0:Array Obj) (M Ls:List Blk) (h:Array Obj):Prop where
 size:h0.size≤h.size
 old:∀ b,b<h0.size→(∀ p∈M,p.1≠b)→h[b]?=h0[b]?
 at_:∀ p∈Ls,h[p.1]?=some (.cells p.2.1.toArray p.2.2.ty (0,0))
theorem Mem.hld {h0 h:Array Obj} {M M' L Ls:List Blk} (hm:Mem h0 h M' L) (hk:M'.map (·.1)=M.map (·.1)) (hs:Ls.Sublist (M'++L)):Hld h0 M Ls h :=
 ⟨hm.size,fun b hb hM=>hm.old b hb (fun p hp he=>by
  have:p.1∈M.map (·.1):=by rw [← hk]; exact List.mem_map.2 ⟨p,hp,rfl⟩
  obtain ⟨q,hq,hqe⟩:=List.mem_map.1 this
  exact hM q hq (hqe.trans he)),fun p hp=>hm.at_ p (hs.subset hp)⟩
theorem Hld.own {h0 h:Array Obj} {M Ls:List Blk} (hm:Hld h0 M Ls h) {B off j:Nat} {cs:List Value} {T:TypeId} {v:Value} (hj:Ls[j]?=some (B,cs,BT.c T)) (hc:cs[off]?=some v):cell h ⟨B,off,none⟩=some v:=by
 have h1:=hm.at_ (B,cs,BT.c T) (List.mem_of_getElem? hj)
 simp only at h1
 simp [K.cell,h1,hc]
theorem Hld.ext {h0 h:Array Obj} {Ls:List Blk} (hm:Hld h0 [] Ls h):Ext h0 h:=⟨hm.size,fun b hb=>hm.old b hb (by simp)⟩
end Go.Proofs.YtkmigbicabfodaaGreat.K
namespace Go.Proofs.YtkmigbicabfodaaGreat.K
open Go
theorem cells_of_row {h:Array Obj} {B:Nat} {e:TypeId} {fz:Nat×Nat}:∀ (cs pre post:List Value) (off:Nat),h[B]?=some (.cells (pre++cs++post).toArray e fz)→off=pre.length→cellsFrom h B off cs
 | [],_,_,_,_,_=>trivial
 | c::cs,pre,post,off,hb,ho=>by
  subst ho
  refine ⟨?_,cells_of_row cs (pre++[c]) post (pre.length+1) (by simpa using hb) (by simp)⟩
  unfold cell
  rw [hb]
  simp
theorem Mem.row {h0 h:Array Obj} {M L:List Blk} (hm:Mem h0 h M L) {B j:Nat} {cs:List Value} {T:TypeId} (hj:L[j]?=some (B,cs,BT.c T)):cellsFrom h B 0 cs :=
 cells_of_row cs [] [] 0 (by simpa using hm.at_ (B,cs,BT.c T) (by simp [List.mem_of_getElem? hj])) rfl
theorem Mem.sub {h0 h:Array Obj} {M L L':List Blk} (hm:Mem h0 h M L) (hs:L'.Sublist L):Mem h0 h M L' :=
 ⟨hm.size,hm.old,fun p hp=>hm.at_ p (by
  rcases List.mem_append.1 hp with hp | hp
  ·exact List.mem_append_left _ hp
  ·exact List.mem_append_right _ (hs.subset hp)),fun p hp=>hm.new p (hs.subset hp),by
  have:=hm.nodup
  rw [List.map_append] at *
  exact this.sublist ((List.Sublist.refl _).append (hs.map _))⟩
theorem Mem.perm {h0 h:Array Obj} {M L L':List Blk} (hm:Mem h0 h M L) (hp:L'.Perm L):Mem h0 h M L' :=
 ⟨hm.size,hm.old,fun p hq=>hm.at_ p (by
  rcases List.mem_append.1 hq with hq | hq
  ·exact List.mem_append_left _ hq
  ·exact List.mem_append_right _ (hp.mem_iff.1 hq)),fun p hq=>hm.new p (hp.mem_iff.1 hq),by
  have:=hm.nodup
  rw [List.map_append] at *
  exact (((List.Perm.refl _).append (hp.map _)).nodup_iff).2 this⟩
def SlSh (sz:Nat) (T:TypeId) (v:Value) (Lv:List Blk) (vals:List Value):Prop :=
 (v = .slice none 0 0∧Lv=[]∧vals=[]) ∨
 ∃ B n cap spare,v = .slice (some ⟨B,0,none⟩) n cap∧Lv=[(B,vals++spare,BT.c T)]∧n*sz=vals.length∧cap*sz=vals.length+spare.length∧n≤cap
theorem SlSh.nil (sz:Nat) (T:TypeId):SlSh sz T (.slice none 0 0) [] [] := .inl ⟨rfl,rfl,rfl⟩
theorem growBy_le (need:Nat):∀ (r c:Nat),256≤c→c≤2*need→Builtin.growBy need r c≤2*need
 | 0,c,_,h=>by simpa [Builtin.growBy] using h
 | r+1,c,h1,h2=>by
  simp only [Builtin.growBy]
  split
  ·exact h2
  ·exact growBy_le need r _ (by omega) (by omega)
theorem nextslicecap_le (need cap:Nat) (h:cap<need):Builtin.nextslicecap need cap≤2*need:=by
 unfold Builtin.nextslicecap
 split
 ·omega
 ·split
  ·omega
  ·exact growBy_le need 4 cap (by omega) (by omega)
theorem run_storeCellsZ {P:Program} {fz:Nat×Nat}:∀ (new pre post:List Value) (w:World) (B i:Nat) (e:TypeId),fzok fz (pre++post).length→(∀ v∈new,v.oneCell'=true)→w.heap[B]?=some (.cells (pre++post).toArray e fz)→new.length≤post.length→∀ off,off+i=pre.length →
  ∃ w',(storeCells ⟨B,off,none⟩ new i).run P w = .ok () w'∧w'.os=w.os∧w'.output=w.output∧w'.tape=w.tape∧w'.heap.size=w.heap.size∧(∀ b,b≠B→w'.heap[b]?=w.heap[b]?)∧w'.heap[B]?=some (.cells (pre++new++post.drop new.length).toArray e fz)
 | [],pre,post,w,B,i,e,_,_,hb,_,off,_=>⟨w,by simp [storeCells],rfl,rfl,rfl,rfl,fun _ _=>rfl,by simpa using hb⟩
 | v::new,pre,post,w,B,i,e,hz,hv,hb,hl,off,ho=>by
  match post,hl with
  | p::post,hl =>
   have hc:w.cell? ⟨B,off+i,none⟩=some p:=by
    unfold World.cell?
    rw [hb]
    simp [ho]
   have hf:w.frozen? ⟨B,off+i,none⟩=false:=by
    unfold World.frozen?
    rw [hb]
    obtain ⟨lo,hi⟩:=fz
    have:=hz (off+i) (by simp; omega)
    simp only [not_and,Nat.not_lt] at this
    simp only [Bool.and_eq_false_iff,decide_eq_false_iff_not]
    by_cases h1:lo≤off+i
    ·exact .inr (Nat.not_lt.2 (this h1))
    ·exact .inl h1
   have hb1:(w.setCell ⟨B,off+i,none⟩ v).heap[B]?=some (.cells ((pre++[v])++post).toArray e fz):=by
    simp only [World.setCell,Array.getElem?_modify,if_true,hb,Option.map_some]
    simp [ho]
   obtain ⟨w',h1,h2,h3,h4,h5,h6,h7⟩:=run_storeCellsZ (P:=P) new (pre++[v]) post (w.setCell ⟨B,off+i,none⟩ v) B (i+1) e (by simpa using hz) (fun u hu=>hv u (by simp [hu])) hb1 (by simpa using hl) off (by simp; omega)
   refine ⟨w',?_,h2,h3,h4,by rw [h5]; simp,fun b hne=>?_,by rw [h7]; simp⟩
   ·simp only [storeCells,Sem.run_bind,add_at,run_store _ _ _ _ _ (hv v (by simp)),hc,hf]
    exact h1
   ·rw [h6 b hne]
    simp only [World.setCell,Array.getElem?_modify]
    rw [if_neg (by omega)]
theorem length_zeroCells (z:Array Value) (n:Nat):(Builtin.zeroCells z n).size=n*z.size:=by simp [Builtin.zeroCells]
section
variable {P:Program} {E:Env} {ops:List Oper} {K:List Value→Array Obj→Prop} {rest:List Oper} {ρ ρ':List Value} {o:Oper} {h0 h h':Array Obj} {M L M' L' L1 L2 Lv Lf:List Blk} {v u:Value} {d:Option Tmp} {T ty S X X' e:TypeId} {p:String} {af:Array Edge} {g:Option (Nat×Bool)} {x y z:Operand} {cs vals new:List Value} {i:TypeInfo} {zv:Value} {sz n cx Bx ox:Nat}
end
end Go.Proofs.YtkmigbicabfodaaGreat.K
namespace Go.Proofs.YtkmigbicabfodaaGreat.K
open Go
section
variable {P:Program} {f:FuncId} {E:Env} {R:Value→Array Obj→Prop} {kk:List Item} {ops:List Oper} {K:List Value→Array Obj→Prop} {rest:List Oper} {ρ ρ':List Value} {o:Oper} {h0 h h':Array Obj} {M L M' L':List Blk} {v u:Value} {d:Option Tmp} {T ty U e:TypeId} {p:String} {af:Array Edge} {g:Option (Nat×Bool)} {x y z:Operand} {cs cs':List Value} {n B j off:Nat} {k:IntKind}
end
end Go.Proofs.YtkmigbicabfodaaGreat.K
namespace Go.Proofs.YtkmigbicabfodaaGreat.K
open Go
theorem mapM_some {α β:Type} {f:α→Option β}:∀ {l:List α} {ys:List β},l.mapM f=some ys→∀ a∈l,∃ y,f a=some y
 | [],_,_,a,ha=>by cases ha
 | b::l,ys,h,a,ha=>by
  rw [List.mapM_cons] at h
  cases hb:f b with
  | none=>rw [hb] at h; cases h
  | some y =>
   rw [hb] at h
   cases hl:l.mapM f with
   | none=>rw [hl] at h; cases h
   | some zs =>
    rcases List.mem_cons.1 ha with rfl | ha
    ·exact ⟨y,hb⟩
    ·exact mapM_some hl a ha
theorem mapM_get {α β:Type} {f:α→Option β}:∀ {l:List α} {ys:List β},l.mapM f=some ys→ys.length=l.length∧∀ i (hi:i<l.length) (hi':i<ys.length),f l[i]=some ys[i]
 | [],ys,h=>by
  rw [List.mapM_nil] at h
  cases h
  exact ⟨rfl,fun i hi=>absurd hi (by simp)⟩
 | b::l,ys,h=>by
  rw [List.mapM_cons] at h
  cases hb:f b with
  | none=>rw [hb] at h; cases h
  | some y =>
   rw [hb] at h
   cases hl:l.mapM f with
   | none=>rw [hl] at h; cases h
   | some zs =>
    rw [hl] at h
    cases h
    obtain ⟨h1,h2⟩:=mapM_get hl
    refine ⟨by simp [h1],fun i hi hi'=>?_⟩
    match i with
    | 0=>exact hb
    | i+1=>exact h2 i (by simpa using hi) (by simpa using hi')
def blk (q:Option Addr):Nat:=(q.map (·.block)).getD 0
def offs (q:Option Addr):Nat:=(q.map (·.off)).getD 0
theorem cellsFrom_iff {h:Array Obj} {B:Nat}:∀ {cs:List Value} {off:Nat},cellsFrom h B off cs↔∀ i v,cs[i]?=some v→cell h ⟨B,off+i,none⟩=some v
 | [],off=>by simp [cellsFrom]
 | c::cs,off=>by
  simp only [cellsFrom]
  rw [cellsFrom_iff]
  constructor
  ·rintro ⟨h1,h2⟩ i v hv
   match i with
   | 0=>simp at hv; subst hv; simpa using h1
   | i+1=>simp at hv; rw [show off+(i+1)=off+1+i by omega]; exact h2 i v hv
  ·intro h
   exact ⟨by simpa using h 0 c (by simp),fun i v hv=>by rw [show off+1+i=off+(i+1) by omega]; exact h (i+1) v (by simpa using hv)⟩
theorem cells_of {w:World} {base n:Nat} {a:Addr} {ys:List Value} (h:w.cells? base a n=some ys):ys.length=n∧∀ i v,ys[i]?=some v→w.cell? (a.add i)=some v:=by
 unfold World.cells? at h
 split at h
 ·obtain ⟨h1,h2⟩:=mapM_get h
  simp at h1
  refine ⟨h1,fun i v hv=>?_⟩
  obtain ⟨hi,hv'⟩:=List.getElem?_eq_some_iff.1 hv
  have:=h2 i (by simp; omega) hi
  rw [hv'] at this
  simpa using this
 ·cases h
theorem slice_at {w:World} {base sz i:Nat} {a:Addr} {ys:List Value} (hsz:0<sz) (h0:∃ zs,w.cells? base (a.add (0*sz)) sz=some zs) (h:w.cells? base (a.add (i*sz)) sz=some ys):some a=some ⟨blk (some a),offs (some a),none⟩∧ys.length=sz∧cellsFrom w.heap (blk (some a)) (offs (some a)+i*sz) ys:=by
 obtain ⟨zs,h0⟩:=h0
 obtain ⟨hl0,hc0⟩:=cells_of h0
 have hz:∃ v,zs[0]?=some v:=⟨zs[0],by simp⟩
 obtain ⟨v,hv⟩:=hz
 have hcell:=hc0 0 v hv
 have hspot:a.spot=none:=by
  simp only [Nat.zero_mul,Addr.add,if_true] at hcell
  unfold World.cell? at hcell
  split at hcell
  ·cases hs:a.spot with
   | none=>rfl
   | some s=>rw [hs] at hcell; simp at hcell
  ·cases hcell
 have ha:a=⟨blk (some a),offs (some a),none⟩:=by
  cases a
  simp [blk,offs] at *
  exact hspot
 obtain ⟨hl,hc⟩:=cells_of h
 refine ⟨congrArg some ha,hl,cellsFrom_iff.2 fun j u hu=>?_⟩
 have:=hc j u hu
 rw [ha,add_at,add_at] at this
 exact this
section
variable {H:Type} {enc:TypeId×Value→H} {P:Program} {w:World} {base:Nat} {spare:Nat→Bool} {held:Bool} {t e:TypeId} {fuel:Nat} {cs:List Value} {x:DataW H×List MemPlace}
theorem rd_int {k:IntKind} (hu:P.underlying t=some (.int k)) (h:DataW.trod enc P w base spare held fuel t cs=some x):∃ n,cs=[.int k n]∧(Lit.int k n).wf=true:=by
 cases fuel with
 | zero=>simp [DataW.trod] at h
 | succ n =>
  unfold DataW.trod at h
  rw [hu] at h
  split at h <;> simp_all
theorem rd_string (hu:P.underlying t=some .string) (h:DataW.trod enc P w base spare held fuel t cs=some x):∃ l:List UInt8,cs=[bs l]∧l.length≤maxLen:=by
 obtain ⟨s,rfl,_,h3⟩:=DataW.trod_string hu h
 refine ⟨s.data.toList,rfl,?_⟩
 rw [Array.length_toList]
 exact h3
theorem rd_struct {fs:Array Field} (hu:P.underlying t=some (.struct fs)) (h:DataW.trod enc P w base spare held fuel t cs=some x):∃ fuel',cs.length=P.cellsOf t∧∀ f∈fs.toList,∃ y,DataW.trod enc P w base spare held fuel' f.type ((cs.drop f.offset).take (P.cellsOf f.type))=some y:=by
 cases fuel with
 | zero=>simp [DataW.trod] at h
 | succ n =>
  refine ⟨n,?_⟩
  unfold DataW.trod at h
  rw [hu] at h
  split at h <;> try (simp_all; done)
  rename_i fs' cs' he
  simp only [Option.some.injEq,TypeDesc.struct.injEq] at he
  subst he
  split at h
  ·rename_i hl
   refine ⟨hl,fun f hf=>?_⟩
   rw [Option.map_eq_some_iff] at h
   obtain ⟨xs,hxs,_⟩:=h
   exact mapM_some hxs f hf
  ·simp at h
theorem rd_slice (hu:P.underlying t=some (.slice e)) (h:DataW.trod enc P w base spare held fuel t cs=some x):∃ fuel',cs=[.slice none 0 0]∨∃ a len cap,cs=[.slice (some a) len cap]∧len≤cap∧cap≤maxLen∧∀ i,i<len→∃ ys y,w.cells? base (a.add (i*P.cellsOf e)) (P.cellsOf e)=some ys∧DataW.trod enc P w base spare held fuel' e ys=some y:=by
 rcases DataW.trod_slice hu h with ⟨rfl,_⟩ | ⟨a,len,cap,elems,rest,n,rfl,rfl,_,_,h1,h2,h3,h4,_⟩
 ·exact ⟨0, .inl rfl⟩
 ·refine ⟨n, .inr ⟨a,len,cap,rfl,h1,h2,fun i hi=>?_⟩⟩
  have:=h4 i hi
  rw [List.getElem?_eq_getElem (by omega)] at this
  obtain ⟨ys,hy1,hy2⟩:=Option.bind_eq_some_iff.1 this
  exact ⟨ys,_,hy1,hy2⟩
end
end Go.Proofs.YtkmigbicabfodaaGreat.K
namespace Go.Proofs.YtkmigbicabfodaaGreat.K
open Go
def SlR (h:Array Obj) (sz:Nat) (q:Option Addr) (rows:List (List Value)):Prop :=
 ∀ i r,rows[i]?=some r→q=some ⟨blk q,offs q,none⟩∧cellsFrom h (blk q) (offs q+i*sz) r
theorem cell_lt {h:Array Obj} {a:Addr} {v:Value} (hc:cell h a=some v):a.block<h.size:=by
 unfold cell at hc
 cases hb:h[a.block]? with
 | none=>rw [hb] at hc; cases hc
 | some o=>exact (Array.getElem?_eq_some_iff.1 hb).1
theorem Ext.cell {h h':Array Obj} (he:Ext h h') {a:Addr} {v:Value} (hc:cell h a=some v):K.cell h' a=some v:=by
 have h1:=he.2 a.block (cell_lt hc)
 unfold K.cell at hc ⊢
 rw [h1]
 exact hc
theorem Ext.cells {h h':Array Obj} (he:Ext h h') {B:Nat}:∀ {cs:List Value} {off:Nat},cellsFrom h B off cs→cellsFrom h' B off cs
 | [],_,_=>trivial
 | _::_,_,⟨h1,h2⟩=>⟨he.cell h1,Ext.cells he h2⟩
theorem SlR.ext {h h':Array Obj} {sz:Nat} {q:Option Addr} {rows:List (List Value)} (hr:SlR h sz q rows) (he:Ext h h'):SlR h' sz q rows :=
 fun i r hi=>⟨(hr i r hi).1,he.cells (hr i r hi).2⟩
theorem SlR.nil (h:Array Obj) (sz:Nat) (q:Option Addr):SlR h sz q []:=fun i r hi=>by simp at hi
theorem SlR.take {h:Array Obj} {sz:Nat} {q:Option Addr} {rows:List (List Value)} (hr:SlR h sz q rows) (n:Nat):SlR h sz q (rows.take n) :=
 fun i r hi=>hr i r (by
  rw [List.getElem?_take] at hi
  split at hi
  ·exact hi
  ·cases hi)
theorem cells_append {h:Array Obj} {B:Nat}:∀ {xs ys:List Value} {off:Nat},cellsFrom h B off xs→cellsFrom h B (off+xs.length) ys→cellsFrom h B off (xs++ys)
 | [],_,_,_,h2=>by simpa using h2
 | x::xs,ys,off,h1,h2=>⟨h1.1,cells_append h1.2 (by rw [List.length_cons] at h2; rw [Nat.add_right_comm]; exact h2)⟩
theorem SlR.all {h:Array Obj} {sz:Nat} {q:Option Addr}:∀ {rows:List (List Value)} {off:Nat},(∀ r∈rows,r.length=sz)→(∀ i r,rows[i]?=some r→cellsFrom h (blk q) (off+i*sz) r)→cellsFrom h (blk q) off rows.flatten
 | [],_,_,_=>trivial
 | r::rows,off,hl,hr=>by
  have hlr:=hl r (by simp)
  refine cells_append (by simpa using hr 0 r (by simp)) (SlR.all (fun r hr=>hl r (by simp [hr])) fun i s hs=>?_)
  have:=hr (i+1) s (by simpa using hs)
  rw [hlr,show off+sz+i*sz=off+(i+1)*sz by rw [Nat.add_mul]; omega]
  exact this
theorem SlR.flat {h:Array Obj} {sz:Nat} {q:Option Addr} {rows:List (List Value)} (hr:SlR h sz q rows) (hl:∀ r∈rows,r.length=sz):cellsFrom h (blk q) (offs q) rows.flatten :=
 SlR.all hl fun i r hi=>(hr i r hi).2
theorem SlR.at {α:Type} {f:α→List Value} {h:Array Obj} {sz:Nat} {q:Option Addr} {as:List α} (hr:SlR h sz q (as.map f)) {i:Nat} (hi:i<as.length) :
  ∃ a,as[i]?=some a∧q=some ⟨blk q,offs q,none⟩∧cellsFrom h (blk q) (offs q+i*sz) (f a):=by
 refine ⟨as[i],List.getElem?_eq_getElem hi,?_⟩
 exact hr i (f as[i]) (by rw [List.getElem?_map,List.getElem?_eq_getElem hi]; rfl)
structure SlO (sz:Nat) (T:TypeId) (q:Option Addr) (n cp:Nat) (Lv:List Blk) (rows:List (List Value)):Prop where
 sh:SlSh sz T (.slice q n cp) Lv rows.flatten
 len:n=rows.length
 row:∀ r∈rows,r.length=sz
theorem SlO.nil (sz:Nat) (T:TypeId):SlO sz T none 0 0 [] []:=⟨SlSh.nil sz T,rfl,by simp⟩
theorem SlO.le {sz:Nat} {T:TypeId} {q:Option Addr} {n cp:Nat} {Lv:List Blk} {rows:List (List Value)} (hs:SlO sz T q n cp Lv rows):n≤cp:=by
 rcases hs.sh with ⟨he,_,_⟩ | ⟨_,_,_,_,he,_,_,_,h⟩
 ·cases he; exact Nat.le_refl _
 ·cases he; exact h
theorem flat_len {sz:Nat}:∀ {rows:List (List Value)},(∀ r∈rows,r.length=sz)→rows.flatten.length=rows.length*sz
 | [],_=>by simp
 | r::rows,h=>by
  rw [List.flatten_cons,List.length_append,h r (by simp),flat_len (fun r hr=>h r (by simp [hr])),List.length_cons,Nat.add_mul]
  omega
theorem flat_split {sz:Nat}:∀ {rows:List (List Value)} {i:Nat} {r:List Value},(∀ r∈rows,r.length=sz)→rows[i]?=some r→∃ pre post,rows.flatten=pre++r++post∧pre.length=i*sz
 | [],i,r,_,h=>by simp at h
 | x::rows,0,r,hl,h=>by
  simp at h
  subst h
  exact ⟨[],rows.flatten,by simp,by simp⟩
 | x::rows,i+1,r,hl,h=>by
  obtain ⟨pre,post,h1,h2⟩:=flat_split (rows:=rows) (i:=i) (fun r hr=>hl r (by simp [hr])) (by simpa using h)
  exact ⟨x++pre,post,by simp [h1],by simp [h2,hl x (by simp),Nat.add_mul]; omega⟩
theorem SlO.rd {h0 h:Array Obj} {M L Lv:List Blk} {sz n cp:Nat} {T:TypeId} {q:Option Addr} {rows:List (List Value)} (hs:SlO sz T q n cp Lv rows) (hm:Mem h0 h M L) (hsub:∀ p∈Lv,p∈M++L):SlR h sz q rows:=by
 intro i r hi
 obtain ⟨pre,post,h1,h2⟩:=flat_split hs.row hi
 rcases hs.sh with ⟨he,_,hv⟩ | ⟨B,n',cap,spare,he,hL,hn,hc,hle⟩
 ·have hn:n=0:=by cases he; rfl
  have hl:=hs.len
  have:=(List.getElem?_eq_some_iff.1 hi).1
  omega
 ·cases he
  refine ⟨rfl,?_⟩
  have hb:=hm.at_ _ (hsub (B,rows.flatten++spare,BT.c T) (by rw [hL]; simp))
  rw [h1] at hb
  exact cells_of_row r pre (post++spare) _ (by show h[B]?=_; simpa using hb) (by simp [offs,h2])
theorem Mem.join {h0 h h':Array Obj} {M L L':List Blk} (hm:Mem h0 h M L) (hc:Mem h h' [] L'):Mem h0 h' M (L++L'):=by
 have he:=hc.ext
 refine ⟨Nat.le_trans hm.size he.1,fun b hb hM=>(he.2 b (Nat.lt_of_lt_of_le hb hm.size)).trans (hm.old b hb hM),fun p hp=>?_,fun p hp=>?_,?_⟩
 ·rw [← List.append_assoc] at hp
  rcases List.mem_append.1 hp with hp | hp
  ·exact (he.2 _ (hm.lt hp)).trans (hm.at_ p hp)
  ·exact hc.at_ p (by simpa using hp)
 ·rcases List.mem_append.1 hp with hp | hp
  ·exact hm.new p hp
  ·exact Nat.le_trans hm.size (hc.new p hp)
 ·rw [← List.append_assoc,List.map_append,List.nodup_append]
  refine ⟨hm.nodup,by simpa using hc.nodup,fun a ha b hb hab=>?_⟩
  obtain ⟨p,hp,rfl⟩:=List.mem_map.1 ha
  obtain ⟨r,hr,rfl⟩:=List.mem_map.1 hb
  have h1:=hm.lt hp
  have h2:=hc.new r hr
  omega
theorem Mem.tl {h0 h:Array Obj} {M L:List Blk} {x:Blk} (hm:Mem h0 h M (x::L)):Mem h0 h M L:=hm.sub (List.sublist_cons_self _ _)
section
variable {P:Program} {E:Env} {ops:List Oper} {K:List Value→Array Obj→Prop} {rest:List Oper} {ρ ρ':List Value} {o:Oper} {h0 h h':Array Obj} {M L M' L' L1 L2 Lv Lf:List Blk} {v u:Value} {d:Option Tmp} {T ty S X e:TypeId} {p:String} {af:Array Edge} {g:Option (Nat×Bool)} {x y z:Operand} {cs vals new:List Value} {i:TypeInfo} {zv:Value} {sz n m cp Bx ox:Nat} {q:Option Addr} {k:IntKind} {rows:List (List Value)}
theorem pu_indexAddrQ [Und P T (.slice e)] [Siz P e sz] {len:Nat} (hx:ev ρ x = .slice q len cp) (hy:ev ρ y = .int k (n:Int)) (hn:n<len) (hq:q=some ⟨blk q,offs q,none⟩):Pu P ρ ⟨d, .indexAddr T x y,ty,p,af,g⟩ h (.pointer (some ⟨blk q,offs q+n*sz,none⟩)) :=
 pu_indexAddr (by rw [hx,← hq]) hy hn
theorem pu_field {fi ft fo:Nat} [F:Fld P T fi ft fo] [Agg P ft false] (hx:ev ρ x = .agg cs.toArray) (hv:cs[fo]?=some v):Pu P ρ ⟨d, .field T x fi,ty,p,af,g⟩ h v:=⟨fun w _=>by
 obtain ⟨fs,f,hu,hf,rfl,rfl⟩:=F.out
 simp [execOp,hx,Instr.field,run_underlying hu,hf,asAgg,part,agg f.type w,hv]⟩
theorem equal_pn [Und P T (.pointer e)] (q:Option Addr) (w:World):(Op.equal T (.pointer q) (.pointer none)).run P w = .ok (decide (q=none)) w:=by
 unfold Op.equal Op.maxDepth Op.equalIn
 cases q <;> simp [und T w]
theorem pu_eql_pt [Und P T (.pointer e)] {U:TypeId} (hx:ev ρ x = .pointer q) (hy:ev ρ y = .pointer none):Pu P ρ ⟨d, .binOp .eql T x y U,ty,p,af,g⟩ h (.bool (decide (q=none))):=⟨fun w _=>by
 simp [execOp,guard_ptr,hx,hy,binOp,equal_pn]⟩
theorem pu_neq_pt [Und P T (.pointer e)] {U:TypeId} (hx:ev ρ x = .pointer q) (hy:ev ρ y = .pointer none):Pu P ρ ⟨d, .binOp .neq T x y U,ty,p,af,g⟩ h (.bool (decide (q≠none))):=⟨fun w _=>by
 simp [execOp,guard_ptr,hx,hy,binOp,equal_pn]⟩
theorem run_equal_ss {f0 f1:Field} (hu:P.underlying T=some (.struct #[f0,f1])) (hp:P.stoodInHeld T=false) (n0:f0.name ≠ "_") (n1:f1.name ≠ "_") (o0:f0.offset=0) (o1:f1.offset=1) (u0:P.underlying f0.type=some .string) (u1:P.underlying f1.type=some .string) (a0:∀ w,(isAgg f0.type).run P w = .ok false w) (a1:∀ w,(isAgg f1.type).run P w = .ok false w) (a b c e:List UInt8) (w:World) :
  (Op.equalIn 10000 T (.agg #[bs a,bs b]) (.agg #[bs c,bs e])).run P w = .ok (decide ((a,b)=(c,e))) w:=by
 have hf:P.fieldsOf T=#[f0,f1]:=by unfold Program.fieldsOf; rw [hu]
 rw [run_equalIn_struct w 9999 T _ _ (by rw [hf]; exact hu) hp,hf]
 have hbb:∀ x y:List UInt8,((ByteArray.mk x.toArray) == (ByteArray.mk y.toArray))=decide (x=y):=fun x y=>by
  show ((x.toArray:Array UInt8) == y.toArray)=_
  rw [Bool.eq_iff_iff,beq_iff_eq,decide_eq_true_iff]
  simp
 have hs:∀ (d:Nat) (t:TypeId) (x y:List UInt8) (w:World),P.underlying t=some .string→(Op.equalIn (d+1) t (bs x) (bs y)).run P w = .ok (decide (x=y)) w:=fun d t x y w ht=>by
  rw [Op.equalIn]
  simp only [Sem.run_bind,run_underlying ht,Result.andThen_ok,Sem.run_pure,hbb]
 have q0:∀ x y w,(Op.equalIn 9999 f0.type (bs x) (bs y)).run P w = .ok (decide (x=y)) w:=fun x y w=>hs 9998 _ x y w u0
 have q1:∀ x y w,(Op.equalIn 9999 f1.type (bs x) (bs y)).run P w = .ok (decide (x=y)) w:=fun x y w=>hs 9998 _ x y w u1
 have e0:∀ (x y:Value),(#[x,y]:Array Value)[0]?=some x:=fun _ _=>rfl
 have e1:∀ (x y:Value),(#[x,y]:Array Value)[1]?=some y:=fun _ _=>rfl
 simp only [Op.eqFields,n0,n1,ne_eq,not_false_eq_true,if_true,o0,o1,part,Sem.run_bind,a0,a1,Result.andThen_ok,Bool.false_eq_true,if_false,e0,e1,Sem.run_pure,q0,q1,Sem.run_ite]
 by_cases h0:a=c <;> by_cases h1:b=e <;> simp [h0,h1]
theorem pu_neq_ss {f0 f1:Field} (hu:P.underlying T=some (.struct #[f0,f1])) (hp:P.stoodInHeld T=false) (hG:P.eqGuardType P.depth T=false) (n0:f0.name ≠ "_") (n1:f1.name ≠ "_") (o0:f0.offset=0) (o1:f1.offset=1) (u0:P.underlying f0.type=some .string) (u1:P.underlying f1.type=some .string) (a0:∀ w,(isAgg f0.type).run P w = .ok false w) (a1:∀ w,(isAgg f1.type).run P w = .ok false w) {a b c e:List UInt8} {U:TypeId}
  (hx:ev ρ x = .agg #[bs a,bs b]) (hy:ev ρ y = .agg #[bs c,bs e]):Pu P ρ ⟨d, .binOp .neq T x y U,ty,p,af,g⟩ h (.bool (decide ((a,b)≠(c,e)))):=⟨fun w _=>by
 have h1:=run_eqGuard_agg (P:=P) w .neq T x y #[bs a,bs b] #[bs c,bs e] hG
 have h2:=run_neq_struct (P:=P) w T #[bs a,bs b] #[bs c,bs e]
 rw [run_equal_ss hu hp n0 n1 o0 o1 u0 u1 a0 a1] at h2
 simp only [execOp,hx,hy,Sem.run_bind,h1,Result.andThen_ok,h2,Sem.run_pure,decide_not]⟩
end
end Go.Proofs.YtkmigbicabfodaaGreat.K
namespace Go.Proofs.YtkmigbicabfodaaGreat.K
open Go Go.WideShapes
theorem rows_exist {α:Type} (R:Nat→α→Prop):∀ (n:Nat),(∀ i,i<n→∃ a,R i a)→∃ l:List α,l.length=n∧∀ i a,l[i]?=some a→R i a
 | 0,_=>⟨[],rfl,fun i a h=>by simp at h⟩
 | n+1,h=>by
  obtain ⟨l,h1,h2⟩:=rows_exist R n (fun i hi=>h i (by omega))
  obtain ⟨a,ha⟩:=h n (by omega)
  refine ⟨l++[a],by simp [h1],fun i b hb=>?_⟩
  rcases Nat.lt_or_ge i l.length with h3 | h3
  ·rw [List.getElem?_append_left h3] at hb
   exact h2 i b hb
  ·rw [List.getElem?_append_right h3] at hb
   have h4:i - l.length=0:=by
    have:=(List.getElem?_eq_some_iff.1 hb).1
    simp at this
    omega
   rw [h4] at hb
   simp at hb
   subst hb
   have:i=n:=by omega
   subst this
   exact ha
section
variable {H:Type} {enc:TypeId×Value→H} {P:Program} {w:World} {base b0 sz:Nat} {spare:Nat→Bool} {held:Bool} {t e:TypeId} {v:Value} {d:DataW H} {ps:List MemPlace}
end
end Go.Proofs.YtkmigbicabfodaaGreat.K
namespace Go.Proofs.YtkmigbicabfodaaGreat.K
open Go
section
variable {P:Program} {E:Env} {ops:List Oper} {ρ ρ':List Value} {h:Array Obj} {d:Option Tmp} {T ty U S D e:TypeId} {p:String} {af:Array Edge} {g:Option (Nat×Bool)} {x y z:Operand} {k k' k0:IntKind} {a b:Int}
theorem pu_rem (hx:ev ρ x = .int k a) (hy:ev ρ y = .int k b) (hb:b≠0):Pu P ρ ⟨d, .binOp .rem T x y U,ty,p,af,g⟩ h (.int k (a.tmod b)):=⟨fun w _=>by
 simp [execOp,guard_int,hx,hy,binOp,Op.intDiv,hb]⟩
theorem pu_conv [Und P S (.int k0)] [Und P D (.int k)] (hx:ev ρ x = .int k' a) (ha:k.wrap a=b):Pu P ρ ⟨d, .convert S D x,ty,p,af,g⟩ h (.int k b):=⟨fun w _=>by
 simp [execOp,convert,hx,und S w,und D w,Conv.intToInt,ha]⟩
theorem wrap_n64 {n:Nat} (hn:n<2 ^ 62):IntKind.wrap .i64 (n:Int)=(n:Int):=wrap_in _ (by omega) (by omega)
theorem equal_pp {n:Nat} [Und P T (.pointer e)] [Siz P e n] (hn:n≠0) {a b:Nat} {ca cb:List Value} {ta tb:TypeId} (w:World) (ha:w.heap[a]?=some (.cells ca.toArray ta (0,0))) (hb:w.heap[b]?=some (.cells cb.toArray tb (0,0))):(Op.equal T (.pointer (some ⟨a,0,none⟩)) (.pointer (some ⟨b,0,none⟩))).run P w = .ok (decide (a=b)) w:=by
 unfold Op.equal Op.maxDepth Op.equalIn
 simp only [Sem.run_bind,und T w,Result.andThen_ok,siz e w,ne_eq,hn,not_false_eq_true,if_true]
 by_cases hab:a=b
 ·subst hab
  simp [run_sameAddr_same]
 ·rw [run_sameAddr_other w (a:=⟨a,0,none⟩) (b:=⟨b,0,none⟩) (by intro h; cases h; exact hab rfl) ha hb]
  simp [hab]
theorem pu_eql_pp {n:Nat} [Und P T (.pointer e)] [Siz P e n] {a b:Nat} {ca cb:List Value} {ta tb:TypeId} (hx:ev ρ x = .pointer (some ⟨a,0,none⟩)) (hy:ev ρ y = .pointer (some ⟨b,0,none⟩)) (ha:h[a]?=some (.cells ca.toArray ta (0,0))) (hb:h[b]?=some (.cells cb.toArray tb (0,0))) (hn:n≠0):Pu P ρ ⟨d, .binOp .eql T x y U,ty,p,af,g⟩ h (.bool (decide (a=b))):=⟨fun w hw=>by
 subst hw
 simp [execOp,guard_ptr,hx,hy,binOp,equal_pp (P:=P) (T:=T) (e:=e) hn w ha hb]⟩
theorem pu_neq_pp {n:Nat} [Und P T (.pointer e)] [Siz P e n] {a b:Nat} {ca cb:List Value} {ta tb:TypeId} (hx:ev ρ x = .pointer (some ⟨a,0,none⟩)) (hy:ev ρ y = .pointer (some ⟨b,0,none⟩)) (ha:h[a]?=some (.cells ca.toArray ta (0,0))) (hb:h[b]?=some (.cells cb.toArray tb (0,0))) (hn:n≠0):Pu P ρ ⟨d, .binOp .neq T x y U,ty,p,af,g⟩ h (.bool (decide (a≠b))):=⟨fun w hw=>by
 subst hw
 simp [execOp,guard_ptr,hx,hy,binOp,equal_pp (P:=P) (T:=T) (e:=e) hn w ha hb]⟩
end
end Go.Proofs.YtkmigbicabfodaaGreat.K
namespace Go.Proofs.YtkmigbicabfodaaGreat.K
open Go
section
variable {P:Program} {E:Env} {ops:List Oper} {K:List Value→Array Obj→Prop} {rest:List Oper} {ρ:List Value} {h0 h:Array Obj} {M L:List Blk} {d:Option Tmp} {T ty e:TypeId} {p:String} {af:Array Edge} {g:Option (Nat×Bool)} {x y:Operand} {i:TypeInfo} {zv:Value} {n:Nat}
end
end Go.Proofs.YtkmigbicabfodaaGreat.K
namespace Go.Proofs.YtkmigbicabfodaaGreat.K
open Go
def byteV (b:UInt8):Value := .int .u8 (b.toNat:Int)
section
variable {P:Program} {E:Env} {ops:List Oper} {ρ ρ':List Value} {h:Array Obj} {d:Option Tmp} {S T ty U X e kt vt:TypeId} {p:String} {af:Array Edge} {g:Option (Nat×Bool)} {x y z:Operand} {l m:List UInt8} {n:Nat} {u:Value}
theorem push_modify {α:Type} (a:Array α) (x:α) (f:α→α):(a.push x).modify a.size f=a.push (f x):=by
 apply Array.ext_getElem?
 intro i
 simp only [Array.getElem?_modify,Array.getElem?_push]
 by_cases h:i=a.size
 ·subst h; simp
 ·have:¬ a.size=i:=fun e=>h e.symm
  simp [h,this]
theorem run_s2b [Und P S .string] [Und P T (.slice e)] [Und P e (.int .u8)] (hx:ev ρ x=bs l) (w:World) (hw:At E h w) :
  ∃ cap w',l.length≤cap∧(execOp (ev ρ) ⟨d, .convert S T x,ty,p,af,g⟩).run P w = .ok (.value (.slice (some ⟨h.size,0,none⟩) l.length cap)) w'∧At E (h.push (.cells (l.map byteV++List.replicate (cap - l.length) (Value.int .u8 0)).toArray e (cap,cap+1))) w':=by
 let q':Question := .appendCap l.length 0 e
 let nc:=q'.cut (w.tape w.drawn q')
 have hnc:l.length≤nc:=Nat.le_add_right _ _
 have hwh:w.heap=h:=hw.1
 refine ⟨nc,{ w.drew with heap:=w.drew.heap.push (.cells (l.map byteV++List.replicate (nc - l.length) (Value.int .u8 0)).toArray e (nc,nc+1)) },hnc,?_,⟨by rw [← hwh]; rfl,hw.2.1,hw.2.2.1,hw.2.2.2⟩⟩
 simp only [execOp,convert,hx,Sem.run_bind,und S w,und T w,Result.andThen_ok,und e w,Conv.stringToBytes]
 have hsz:(ByteArray.mk l.toArray).size=l.length:=size_mk l
 simp only [bs,choose,Sem.run_bind,hsz]
 simp only [Sem.run,Question.forced,Result.andThen_ok,hsz]
 simp only [newRow,Sem.run_bind,run_newObj,Result.andThen_ok,Sem.run_pure,markStringish,shape,freeze,Sem.run]
 have hcell:(Array.map (fun b=>Value.int IntKind.u8 ((UInt8.toNat b:Nat):Int)) l.toArray++Array.replicate (nc - l.length) (Value.int IntKind.u8 0))=(List.map byteV l++List.replicate (nc - l.length) (Value.int IntKind.u8 0)).toArray:=Array.ext' (by simp [byteV])
 have hq:(Question.appendCap l.length 0 e).cut (w.tape w.drawn (Question.appendCap l.length 0 e))=nc:=rfl
 have hlen:(List.map byteV l++List.replicate (nc - l.length) (Value.int IntKind.u8 0)).toArray.size=nc:=by simp; omega
 simp only [Bool.false_eq_true,if_false,Result.andThen_ok,hq,hcell]
 have hshape:∀ (W:World) (a:Array Obj) (c:Array Value),W.heap=a.push (Obj.cells c e)→W.shape? a.size=some (e,c.size):=fun W a c hW=>by simp [World.shape?,hW]
 rw [hshape _ w.heap _ rfl]
 simp only [hlen]
 simp [Sem.run,World.freeze,push_modify,World.drew,hwh]
theorem bytes_loop (w:World) (f:Value→ByteArray→Sem (ForInStep ByteArray)) (hf:∀ (c:UInt8) (s:ByteArray) (w:World),(f (byteV c) s).run P w = .ok (.yield (s.push c)) w):∀ (l:List UInt8) (s:ByteArray),(forIn (l.map byteV) s f:Sem ByteArray).run P w = .ok ⟨s.data++l.toArray⟩ w:=by
 intro l
 induction l with
 | nil=>intro s; simp
 | cons c l ih =>
  intro s
  simp only [List.map_cons,List.forIn_cons,Sem.run_bind,hf,Result.andThen_ok,ih]
  congr 1
  apply ByteArray.ext
  simp
theorem pu_b2s [Und P S (.slice e)] [Und P T .string] [Und P e (.int .u8)] {B off cp:Nat} (hx:ev ρ x = .slice (some ⟨B,off,none⟩) l.length cp) (hc:cellsFrom h B off (l.map byteV)):Pu P ρ ⟨d, .convert S T x,ty,p,af,g⟩ h (bs l):=⟨fun w hw=>by
 have hl:(loadCells ⟨B,off,none⟩ l.length).run P w = .ok (l.map byteV).toArray w:=by
  subst hw
  have:=run_loadCellsFrom (P:=P) w B off (l.map byteV) 0 #[] (by simpa using hc)
  simpa [loadCells] using this
 simp only [execOp,convert,hx,Sem.run_bind,und S w,und T w,Result.andThen_ok,und e w,Conv.bytesToString,hl]
 rw [← Array.forIn_toList]
 simp only [List.toList_toArray]
 rw [bytes_loop]
 ·simp [bs]
 ·intro c s w
  simp [byteV]⟩
theorem pu_b2s0 [Und P S (.slice e)] [Und P T .string] [Und P e (.int .u8)] {n cp:Nat} (hx:ev ρ x = .slice none n cp):Pu P ρ ⟨d, .convert S T x,ty,p,af,g⟩ h (bs []):=⟨fun w hw=>by
 simp [execOp,convert,hx,Sem.run_bind,und S w,und T w,Result.andThen_ok,und e w,Conv.bytesToString]
 rfl⟩
theorem pu_b2sE [Und P S (.slice e)] [Und P T .string] [Und P e (.int .u8)] {a:Addr} {cp:Nat} (hx:ev ρ x = .slice (some a) 0 cp):Pu P ρ ⟨d, .convert S T x,ty,p,af,g⟩ h (bs []):=⟨fun w hw=>by
 simp [execOp,convert,hx,Sem.run_bind,und S w,und T w,Result.andThen_ok,und e w,Conv.bytesToString,loadCells,loadCellsFrom]
 rfl⟩
theorem eql_map [Und P T (.map kt vt)] (a:Option Nat) (w:World):(Op.equal T (.map a) (.map none)).run P w = .ok (decide (a=none)) w:=by
 unfold Op.equal Op.maxDepth Op.equalIn
 simp only [Sem.run_bind,und T w,Result.andThen_ok]
 cases a <;> simp
theorem guard_map (op:BinOp) (q:Option Nat) (v2:Value) (w:World):(eqGuard op T x y (.map q) v2).run P w = .ok () w:=by
 unfold eqGuard
 split <;> simp
theorem pu_eql_map [Und P T (.map kt vt)] {a:Option Nat} (hx:ev ρ x = .map a) (hy:ev ρ y = .map none):Pu P ρ ⟨d, .binOp .eql T x y U,ty,p,af,g⟩ h (.bool (decide (a=none))):=⟨fun w hw=>by
 simp [execOp,guard_map,hx,hy,binOp,eql_map (P:=P) (T:=T) (kt:=kt) (vt:=vt)]⟩
theorem pu_neq_map [Und P T (.map kt vt)] {a:Option Nat} (hx:ev ρ x = .map a) (hy:ev ρ y = .map none):Pu P ρ ⟨d, .binOp .neq T x y U,ty,p,af,g⟩ h (.bool (!decide (a=none))):=⟨fun w hw=>by
 simp [execOp,guard_map,hx,hy,binOp,eql_map (P:=P) (T:=T) (kt:=kt) (vt:=vt)]⟩
theorem run_range (hx:ev ρ x=bs l) [Und P T .string] (w:World) (hw:At E h w):(execOp (ev ρ) ⟨d, .range T x,ty,p,af,g⟩).run P w = .ok (.value (.pointer (some ⟨h.size,0,none⟩))) { w with heap:=w.heap.push (.stringIter ⟨l.toArray⟩ 0) }:=by
 rw [← hw.1]
 simp [execOp,hx,Instr.range,und T w,bs]
theorem run_next_on {B pos:Nat} (hx:ev ρ x = .pointer (some ⟨B,0,none⟩)) (w:World) (hw:w.heap[B]?=some (.stringIter ⟨l.toArray⟩ pos)) (hp:pos<l.length):(execOp (ev ρ) ⟨d, .next x true,ty,p,af,g⟩).run P w = .ok (.value (.tuple #[.bool true, .int .i64 (pos:Int), .int .i32 ((Utf8.decode ⟨l.toArray⟩ pos).1:Int)])) { w with heap:=w.heap.setIfInBounds B (.stringIter ⟨l.toArray⟩ (pos+(Utf8.decode ⟨l.toArray⟩ pos).2)) }:=by
 have h1:(getObj B).run P w = .ok (.stringIter ⟨l.toArray⟩ pos) w:=by simp [getObj,Sem.run,hw]
 have h2:∀ o,(setObj B o).run P w = .ok () { w with heap:=w.heap.setIfInBounds B o }:=fun o=>by simp [setObj,Sem.run,hw]
 have hs:pos<(ByteArray.mk l.toArray).size:=by rw [size_mk]; exact hp
 simp [execOp,hx,Instr.next,h1,h2,hs]
 rfl
theorem run_next_off {B pos:Nat} (hx:ev ρ x = .pointer (some ⟨B,0,none⟩)) (w:World) (hw:w.heap[B]?=some (.stringIter ⟨l.toArray⟩ pos)) (hp:¬ pos<l.length):(execOp (ev ρ) ⟨d, .next x true,ty,p,af,g⟩).run P w = .ok (.value (.tuple #[.bool false])) w:=by
 have h1:(getObj B).run P w = .ok (.stringIter ⟨l.toArray⟩ pos) w:=by simp [getObj,Sem.run,hw]
 have hs:¬ pos<(ByteArray.mk l.toArray).size:=by rw [size_mk]; exact hp
 simp only [execOp,hx,Instr.next,Sem.run_bind,h1,Result.andThen_ok,if_neg hs]
 simp
theorem equal_nil [Und P T (.pointer e)] [Siz P e n] (hn:n≠0) (a:Option Addr) (w:World):(Op.equal T (.pointer none) (.pointer a)).run P w = .ok (decide (a=none)) w:=by
 unfold Op.equal Op.maxDepth Op.equalIn
 simp only [Sem.run_bind,und T w,Result.andThen_ok,siz e w,ne_eq,hn,not_false_eq_true,if_true]
 cases a <;> simp
theorem equal_nil' [Und P T (.pointer e)] [Siz P e n] (hn:n≠0) (a:Option Addr) (w:World):(Op.equal T (.pointer a) (.pointer none)).run P w = .ok (decide (a=none)) w:=by
 unfold Op.equal Op.maxDepth Op.equalIn
 simp only [Sem.run_bind,und T w,Result.andThen_ok,siz e w,ne_eq,hn,not_false_eq_true,if_true]
 cases a <;> simp
def findD (dec:Value→Bool):List MapEntry→Nat→Option (Nat×Value)
 | [],_=>none
 | m::es,i=>if dec m.key then some (i,m.val) else findD dec es (i+1)
theorem run_findAsking (w:World) (k:Value) (dec:Value→Bool):∀ (es:List MapEntry) (i:Nat),(∀ m∈es,(Op.equal kt k m.key).run P w = .ok (dec m.key) w)→(Instr.findAsking kt k es i).run P w = .ok (findD dec es i) w
 | [],i,_=>by simp [Instr.findAsking,findD]
 | m::es,i,hq=>by
  simp only [Instr.findAsking,Sem.run_bind,hq m (by simp),Result.andThen_ok,findD]
  cases dec m.key with
  | true=>simp
  | false=>simpa using run_findAsking w k dec es (i+1) fun m hm=>hq m (by simp [hm])
theorem run_findKey [Und P kt (.pointer e)] (w:World) (k:Value) (dec:Value→Bool) (es:List MapEntry) (hq:∀ m∈es,(Op.equal kt k m.key).run P w = .ok (dec m.key) w):(Instr.findKey kt k es).run P w = .ok (findD dec es 0) w:=by
 simp only [Instr.findKey,Sem.run_bind,und kt w,Result.andThen_ok]
 cases es with
 | nil=>simp [Instr.findNow,findD]
 | cons m es =>
  simp only [Instr.findNow,Instr.sameNow]
  exact run_findAsking w k dec _ 0 hq
theorem run_checkKey [Und P kt (.pointer e)] (w:World) (b:Bool) (a:Option Addr):(Instr.checkKey b 10000 kt (.pointer a)).run P w = .ok () w:=by
 have h:∀ n,(Instr.checkKey b (n+1) kt (.pointer a)).run P w = .ok () w:=fun n=>by simp [Instr.checkKey,und kt w]
 exact h 9999
theorem pu_lookup [Und P T (.map kt vt)] [Und P kt (.pointer e)] [Zer P vt u] {B:Nat} {a:Option Addr} {es:Array MapEntry} {ck:Nat} (dec:Value→Bool) (hx:ev ρ x = .map (some B)) (hy:ev ρ y = .pointer a) (hb:h[B]?=some (.map es ck)) (hq:∀ w:World,w.heap=h→∀ m∈es.toList,(Op.equal kt (.pointer a) m.key).run P w = .ok (dec m.key) w):Pu P ρ ⟨d, .lookup T x y false,ty,p,af,g⟩ h (match findD dec es.toList 0 with | some r=>r.2 | none=>u):=⟨fun w hw=>by
 have h1:(getObj B).run P w = .ok (.map es ck) w:=by simp [getObj,Sem.run,hw,hb]
 simp only [execOp,hx,hy,Instr.lookup,Sem.run_bind,und T w,Result.andThen_ok,h1,Sem.run_pure,run_checkKey (e:=e),run_findKey (e:=e) w _ dec _ (hq w hw)]
 cases findD dec es.toList 0 with
 | none=>simp [zer vt w]
 | some r=>simp⟩
theorem pu_lookup0 [Und P T (.map kt vt)] [Und P kt (.pointer e)] [Zer P vt u] {a:Option Addr} (hx:ev ρ x = .map none) (hy:ev ρ y = .pointer a):Pu P ρ ⟨d, .lookup T x y false,ty,p,af,g⟩ h u:=⟨fun w hw=>by
 have hf:=run_findKey (P:=P) (kt:=kt) (e:=e) w (.pointer a) (fun _=>true) [] (by simp)
 simp only [execOp,hx,hy,Instr.lookup,Sem.run_bind,und T w,Result.andThen_ok,Sem.run_pure,run_checkKey (e:=e),hf]
 simp [findD,zer vt w]⟩
theorem run_makeMap [Und P T (.map kt vt)] {r:Option Operand} (hr:∀ y,r=some y→∃ k n,ev ρ y = .int k n) (w:World) (hw:At E h w):(execOp (ev ρ) ⟨d, .makeMap T r,ty,p,af,g⟩).run P w = .ok (.value (.map (some h.size))) { w with heap:=w.heap.push (.map #[] 0) }:=by
 rw [← hw.1]
 cases r with
 | none=>simp [execOp,Instr.makeMap]
 | some y =>
  obtain ⟨k,n,hy⟩:=hr y rfl
  simp [execOp,Instr.makeMap,hy,und T w,asInt,asIntOf]
theorem run_mapUpdate [Und P T (.map kt vt)] [Und P kt (.pointer e)] {B:Nat} {a:Option Addr} {es:Array MapEntry} {ck:Nat} (dec:Value→Bool) (hx:ev ρ x = .map (some B)) (hy:ev ρ y = .pointer a) (w:World) (hb:w.heap[B]?=some (.map es ck)) (hq:∀ m∈es.toList,(Op.equal kt (.pointer a) m.key).run P w = .ok (dec m.key) w) (hd:∀ m∈es.toList,dec m.key=true→m.key = .pointer a) :
  (execOp (ev ρ) ⟨d, .mapUpdate T x y z,ty,p,af,g⟩).run P w = .ok .skip { w with heap:=w.heap.setIfInBounds B (match findD dec es.toList 0 with
   | some r => .map (es.modify r.1 fun m=>{ m with key := .pointer a,val:=ev ρ z }) ck
   | none => .map (es.push { key := .pointer a,val:=ev ρ z,born:=ck }) (ck+1)) }:=by
 have h1:(getObj B).run P w = .ok (.map es ck) w:=by simp [getObj,Sem.run,hb]
 have h2:∀ o,(setObj B o).run P w = .ok () { w with heap:=w.heap.setIfInBounds B o }:=fun o=>by simp [setObj,Sem.run,hb]
 simp only [execOp,hx,hy,Instr.mapUpdate,Sem.run_bind,und T w,Result.andThen_ok,h1,run_checkKey (e:=e),run_findKey (e:=e) w _ dec _ hq]
 cases hf:findD dec es.toList 0 with
 | none=>simp [h2]
 | some r =>
  obtain ⟨i,v⟩:=r
  have hk:∃ m,es[i]?=some m∧m.key = .pointer a:=by
   have key:∀ (l:List MapEntry) (j:Nat),(∀ m∈l,dec m.key=true→m.key = .pointer a)→findD dec l j=some (i,v)→∃ m,j≤i∧l[i - j]?=some m∧m.key = .pointer a:=by
    intro l
    induction l with
    | nil=>intro j _ h; simp [findD] at h
    | cons m l ih =>
     intro j hm h
     simp only [findD] at h
     cases hd:dec m.key with
     | true =>
      rw [hd] at h
      simp at h
      obtain ⟨rfl,rfl⟩:=h
      exact ⟨m,Nat.le_refl _,by simp,hm m (by simp) hd⟩
     | false =>
      rw [hd] at h
      obtain ⟨m',h1,h2,h3⟩:=ih (j+1) (fun m hm'=>hm m (by simp [hm'])) (by simpa using h)
      refine ⟨m',by omega,?_,h3⟩
      rw [show i - j=(i - (j+1))+1 by omega]
      simpa using h2
   obtain ⟨m,_,h2,h3⟩:=key es.toList 0 hd hf
   exact ⟨m,by simpa using h2,h3⟩
  obtain ⟨m,hm1,hm2⟩:=hk
  have hsame:Instr.sameBits 10000 (.pointer a) (.pointer a)=true:=by simp [Instr.sameBits]
  simp [hm1,hm2,Instr.keyThatStays,hsame,h2]
end
end Go.Proofs.YtkmigbicabfodaaGreat.K
namespace Go.Proofs.YtkmigbicabfodaaGreat.K
open Go
section
variable {P:Program} {ops:Array Oper} {Q:Exit→Act→World→Prop} {md:Region.Mode}
def waitsB (md:Region.Mode) (ops:Array Oper) (i k:Nat):Bool :=
 match ops[i]? with
 | some o=>o.after.any fun e=>Region.binds md e && e.on == k
 | none=>false
def wpAnyT (P:Program) (md:Region.Mode) (ops:Array Oper) (Q:Exit→Act→World→Prop):Nat→Array Bool→List (Nat×(World→Prop))→Act→World→Prop
 | 0,listed,_,a,w=>Region.ready md ops listed=[]∧Q .normal a w
 | fuel+1,listed,T,a,w =>
  (Region.ready md ops listed=[]→Q .normal a w) ∧
  ∀ i∈Region.ready md ops listed,wpOp P ops Q i (fun a' w'=>(∀ q∈T.filter (fun q=>!(waitsB md ops i q.1)),q.2 w')∧wpAnyT P md ops Q fuel (listed.setIfInBounds i true) (T.filter fun q=>!(waitsB md ops i q.1)) a' w') a w
theorem wpAny_of_T:∀ (fuel:Nat) (listed:Array Bool) (T:List (Nat×(World→Prop))) (a:Act) (w:World),wpAnyT P md ops Q fuel listed T a w→wpAny P md ops Q fuel listed a w
 | 0,_,_,_,_,h=>h
 | fuel+1,_,_,_,_,h=>⟨h.1,fun i hi=>wpOp_mono (fun a' w' h'=>wpAny_of_T fuel _ _ a' w' h'.2) (h.2 i hi)⟩
theorem wpAnyT_mono:∀ (fuel:Nat) (listed:Array Bool) (T T':List (Nat×(World→Prop))) (a:Act) (w:World),(∀ q∈T',q∈T∨∀ w,q.2 w)→wpAnyT P md ops Q fuel listed T a w→wpAnyT P md ops Q fuel listed T' a w
 | 0,_,_,_,_,_,_,h=>h
 | fuel+1,listed,T,T',_,_,hs,h=>⟨h.1,fun i hi=>wpOp_mono (fun a' w' h'=>by
   have key:∀ q∈T'.filter (fun q=>!(waitsB md ops i q.1)),q∈T.filter (fun q=>!(waitsB md ops i q.1))∨∀ w,q.2 w:=fun q hq=>by
    obtain ⟨h1,h2⟩:=List.mem_filter.1 hq
    rcases hs q h1 with h3 | h3
    ·exact .inl (List.mem_filter.2 ⟨h3,h2⟩)
    ·exact .inr h3
   exact ⟨fun q hq=>(key q hq).elim (fun h=>h'.1 q h) (fun h=>h w'),wpAnyT_mono fuel _ _ _ a' w' key h'.2⟩) (h.2 i hi)⟩
theorem wpAnyT_first {i:Nat} {oi:Oper} {v:Value} {Si:World→Prop} (hi:ops[i]?=some oi) (hsel:∀ (j:Nat) (o:Oper) cs b,ops[j]?=some o→o.op ≠ .select cs b)
  (hQ:∀ c a w,Q (.panic c) (a.put oi.dst v) w→Q (.panic c) a w) :
  ∀ (fuel:Nat) (listed:Array Bool) (T:List (Nat×(World→Prop))) (a:Act) (w:World),
   (∀ j oj,ops[j]?=some oj→j≠i→listed.getD j true=false→(∀ e∈oj.after,Region.binds md e=true→e.on≠i)→oi.apart ops oj=true) →
   i∈Region.ready md ops listed→YieldsIf P ops Si oi v a→Si w→(∀ q∈T,q.2 w) →
   wpAnyT P md ops Q fuel (listed.setIfInBounds i true) ((i,Si)::T) (a.put oi.dst v) w→wpAnyT P md ops Q (fuel+1) listed T a w:=by
 intro fuel
 have own:∀ (fuel:Nat) (listed:Array Bool) (T:List (Nat×(World→Prop))) (a:Act) (w:World),YieldsIf P ops Si oi v a→Si w→(∀ q∈T,q.2 w)→wpAnyT P md ops Q fuel (listed.setIfInBounds i true) ((i,Si)::T) (a.put oi.dst v) w →
   wpOp P ops Q i (fun a' w'=>(∀ q∈T.filter (fun q=>!(waitsB md ops i q.1)),q.2 w')∧wpAnyT P md ops Q fuel (listed.setIfInBounds i true) (T.filter fun q=>!(waitsB md ops i q.1)) a' w') a w:=fun fuel listed T a w hy hS hT H =>
  hy.wpOp hi hS ⟨fun q hq=>hT q (List.mem_filter.1 hq).1,wpAnyT_mono fuel _ _ _ _ _ (fun q hq => .inl (List.mem_cons_of_mem _ (List.mem_filter.1 hq).1)) H⟩
 induction fuel with
 | zero =>
  intro listed T a w _ hr hy hS hT H
  refine ⟨fun h=>(by rw [h] at hr; cases hr),fun j hj=>?_⟩
  by_cases hji:j=i
  ·subst hji; exact own 0 listed T a w hy hS hT H
  ·have:=ready_mono hj hji
   rw [H.1] at this
   cases this
 | succ fuel ih =>
  intro listed T a w hfree hr hy hS hT H
  refine ⟨fun h=>(by rw [h] at hr; cases hr),fun j hj=>?_⟩
  by_cases hji:j=i
  ·subst hji; exact own (fuel+1) listed T a w hy hS hT H
  ·have h1:=H.2 j (ready_mono hj hji)
   obtain ⟨hjun,oj,hoj,hall⟩:=mem_ready.1 hj
   have hnot:∀ e∈oj.after,Region.binds md e=true→e.on≠i:=fun e he hb heq=>by
    have h1:=hall e he hb
    have h0:=(mem_ready.1 hr).1
    rw [heq] at h1
    rcases Nat.lt_or_ge i listed.size with h' | h'
    ·simp [h'] at h0 h1; rw [h0] at h1; cases h1
    ·simp [Array.getElem?_eq_none h'] at h1
   have hwt:waitsB md ops j i=false:=by
    unfold waitsB
    rw [hoj]
    simp only
    rw [Array.any_eq_false]
    intro k hk
    cases hb:Region.binds md oj.after[k] with
    | false=>simp
    | true =>
     have:=hnot _ (Array.getElem_mem hk) hb
     simpa using this
   have hfl:((i,Si)::T).filter (fun q=>!(waitsB md ops j q.1))=(i,Si)::T.filter (fun q=>!(waitsB md ops j q.1)):=by
    rw [List.filter_cons]
    simp only [hwt,Bool.not_false,if_true]
   rw [hfl] at h1
   have h2:=wpOp_putIf hoj (hfree j oj hoj hji hjun hnot) (fun cs b=>hsel i oi cs b hi) (fun cs b=>hsel j oj cs b hoj) hQ hy h1
   have hfree':∀ k ok,ops[k]?=some ok→k≠i→(listed.setIfInBounds j true).getD k true=false →
     (∀ e∈ok.after,Region.binds md e=true→e.on≠i)→oi.apart ops ok=true:=fun k ok hk hki hun hno=>by
    refine hfree k ok hk hki ?_ hno
    by_cases hjk:j=k
    ·subst hjk; exact hjun
    ·rw [getD_set_ne true hjk] at hun; exact hun
   refine wpOp_mono (fun a' w' h3=>?_) h2
   have h4:=h3.2.1 (i,Si) (by simp)
   have h5:∀ q∈T.filter (fun q=>!(waitsB md ops j q.1)),q.2 w':=fun q hq=>h3.2.1 q (List.mem_cons_of_mem _ hq)
   refine ⟨h5,ih (listed.setIfInBounds j true) _ a' w' hfree' (ready_mono hr (Ne.symm hji)) h3.1 h4 h5 ?_⟩
   rw [Array.setIfInBounds_comm _ _ hji]
   exact h3.2.2
theorem wpAnyT_firstG {i:Nat} {oi:Oper} {v:Value} {Si:World→Prop} (hi:ops[i]?=some oi) (hsel:∀ (j:Nat) (o:Oper) cs b,ops[j]?=some o→o.op ≠ .select cs b)
  (hQ:∀ c a w,Q (.panic c) (a.put oi.dst v) w→Q (.panic c) a w) :
  ∀ (fuel:Nat) (listed:Array Bool) (T T1:List (Nat×(World→Prop))) (G:World→Prop) (a:Act) (w:World),
   (∀ j oj,ops[j]?=some oj→j≠i→listed.getD j true=false→(∀ e∈oj.after,Region.binds md e=true→e.on≠i)→oi.apart ops oj=true) →
   i∈Region.ready md ops listed→YieldsIf P ops Si oi v a→Si w→G w→(∀ w,G w→Si w)→(∀ q∈T,q.2 w)→(∀ q∈T,waitsB md ops i q.1=false→q∈T1)→(∀ q∈T,q∈T1∨∀ w,G w→q.2 w) →
   wpAnyT P md ops Q fuel (listed.setIfInBounds i true) ((i,G)::T1) (a.put oi.dst v) w→wpAnyT P md ops Q (fuel+1) listed T a w:=by
 intro fuel
 have own:∀ (fuel:Nat) (listed:Array Bool) (T T1:List (Nat×(World→Prop))) (G:World→Prop) (a:Act) (w:World),YieldsIf P ops Si oi v a→Si w→(∀ q∈T,q.2 w)→(∀ q∈T,waitsB md ops i q.1=false→q∈T1)→wpAnyT P md ops Q fuel (listed.setIfInBounds i true) ((i,G)::T1) (a.put oi.dst v) w →
   wpOp P ops Q i (fun a' w'=>(∀ q∈T.filter (fun q=>!(waitsB md ops i q.1)),q.2 w')∧wpAnyT P md ops Q fuel (listed.setIfInBounds i true) (T.filter fun q=>!(waitsB md ops i q.1)) a' w') a w:=fun fuel listed T T1 G a w hy hS hT hc1 H =>
  hy.wpOp hi hS ⟨fun q hq=>hT q (List.mem_filter.1 hq).1,wpAnyT_mono fuel _ _ _ _ _ (fun q hq => .inl (List.mem_cons_of_mem _ (hc1 q (List.mem_filter.1 hq).1 (by simpa using (List.mem_filter.1 hq).2)))) H⟩
 induction fuel with
 | zero =>
  intro listed T T1 G a w _ hr hy hS hG hGS hT hc1 hc2 H
  refine ⟨fun h=>(by rw [h] at hr; cases hr),fun j hj=>?_⟩
  by_cases hji:j=i
  ·subst hji; exact own 0 listed T T1 G a w hy hS hT hc1 H
  ·have:=ready_mono hj hji
   rw [H.1] at this
   cases this
 | succ fuel ih =>
  intro listed T T1 G a w hfree hr hy hS hG hGS hT hc1 hc2 H
  refine ⟨fun h=>(by rw [h] at hr; cases hr),fun j hj=>?_⟩
  by_cases hji:j=i
  ·subst hji; exact own (fuel+1) listed T T1 G a w hy hS hT hc1 H
  ·have h1:=H.2 j (ready_mono hj hji)
   obtain ⟨hjun,oj,hoj,hall⟩:=mem_ready.1 hj
   have hnot:∀ e∈oj.after,Region.binds md e=true→e.on≠i:=fun e he hb heq=>by
    have h1:=hall e he hb
    have h0:=(mem_ready.1 hr).1
    rw [heq] at h1
    rcases Nat.lt_or_ge i listed.size with h' | h'
    ·simp [h'] at h0 h1; rw [h0] at h1; cases h1
    ·simp [Array.getElem?_eq_none h'] at h1
   have hwt:waitsB md ops j i=false:=by
    unfold waitsB
    rw [hoj]
    simp only
    rw [Array.any_eq_false]
    intro k hk
    cases hb:Region.binds md oj.after[k] with
    | false=>simp
    | true =>
     have:=hnot _ (Array.getElem_mem hk) hb
     simpa using this
   have hfl:((i,G)::T1).filter (fun q=>!(waitsB md ops j q.1))=(i,G)::T1.filter (fun q=>!(waitsB md ops j q.1)):=by
    rw [List.filter_cons]
    simp only [hwt,Bool.not_false,if_true]
   rw [hfl] at h1
   have h2:=wpOp_putIf hoj (hfree j oj hoj hji hjun hnot) (fun cs b=>hsel i oi cs b hi) (fun cs b=>hsel j oj cs b hoj) hQ hy h1
   have hfree':∀ k ok,ops[k]?=some ok→k≠i→(listed.setIfInBounds j true).getD k true=false →
     (∀ e∈ok.after,Region.binds md e=true→e.on≠i)→oi.apart ops ok=true:=fun k ok hk hki hun hno=>by
    refine hfree k ok hk hki ?_ hno
    by_cases hjk:j=k
    ·subst hjk; exact hjun
    ·rw [getD_set_ne true hjk] at hun; exact hun
   refine wpOp_mono (fun a' w' h3=>?_) h2
   have h4:=h3.2.1 (i,G) (by simp)
   have h5:∀ q∈T.filter (fun q=>!(waitsB md ops j q.1)),q.2 w':=fun q hq=>by
    obtain ⟨g1,g2⟩:=List.mem_filter.1 hq
    rcases hc2 q g1 with h | h
    ·exact h3.2.1 q (List.mem_cons_of_mem _ (List.mem_filter.2 ⟨h,g2⟩))
    ·exact h w' h4
   refine ⟨h5,ih (listed.setIfInBounds j true) _ (T1.filter fun q=>!(waitsB md ops j q.1)) G a' w' hfree' (ready_mono hr (Ne.symm hji)) h3.1 (hGS _ h4) h4 hGS h5 (fun q hq hw=>?_) (fun q hq=>?_) ?_⟩
   ·obtain ⟨g1,g2⟩:=List.mem_filter.1 hq
    exact List.mem_filter.2 ⟨hc1 q g1 hw,g2⟩
   ·obtain ⟨g1,g2⟩:=List.mem_filter.1 hq
    rcases hc2 q g1 with h | h
    ·exact .inl (List.mem_filter.2 ⟨h,g2⟩)
    ·exact .inr h
   ·rw [Array.setIfInBounds_comm _ _ hji]
    exact h3.2.2
end
structure AM (P:Program) (E:Env) (ops:List Oper) (K:List Value→Array Obj→Prop) (fuel:Nat) (listed:Array Bool) (T:List (Nat×(Array Obj→Prop))) (ρ:List Value) (h:Array Obj):Prop where
 out:∀ w,At E h w→wpAnyT P .any ops.toArray (fun e a w'=>e = .normal∧∃ ρ' h',a=act ρ'∧At E h' w'∧K ρ' h') fuel listed (T.map fun q=>(q.1,Sin E q.2)) (act ρ) w
section
variable {P:Program} {f:FuncId} {E:Env} {R:Value→Array Obj→Prop} {kk:List Item} {S:Array Obj→Prop} {ops:List Oper} {K:List Value→Array Obj→Prop} {T:List (Nat×(Array Obj→Prop))} {ρ ρ':List Value} {o:Oper} {h h':Array Obj} {v:Value} {fuel n:Nat} {listed:Array Bool}
theorem tw_mixed {id:Nat} (hm:P.follows .mixedOrders=true) (hl:∀ K:List Value→Array Obj→Prop,(∀ ρ h,TW P f E R kk ρ h→K ρ h)→AM P E ops K ops.length (Array.replicate ops.length false) [] ρ h):TW P f E R (.code (.region id ops.toArray true)::kk) ρ h :=
 TW.of_wp fun w hw=>by
  have h1:=(hl _ (fun _ _ h=>h)).out { w with drawn:=w.drawn+1 } ⟨hw.1,hw.2.1,hw.2.2.1,hw.2.2.2⟩
  exact wp_region_any hm (by simpa using wpAny_of_T _ _ _ _ _ h1)
theorem am_done (hr:Region.ready .any ops.toArray listed=[]) (hk:K ρ h):AM P E ops K fuel listed T ρ h :=
 ⟨fun w hA=>by
  cases fuel with
  | zero=>exact ⟨hr,rfl,ρ,h,rfl,hA,hk⟩
  | succ n=>exact ⟨fun _=>⟨rfl,ρ,h,rfl,hA,hk⟩,fun i hi=>by rw [hr] at hi; cases hi⟩⟩
theorem am_take2 (i:Nat) (hi:ops[i]?=some o) (hs:Region.noSelect ops.toArray=true) (hf:Region.free .any ops.toArray listed i=true) (hr:(Region.ready .any ops.toArray listed).contains i=true)
  (hS:S h) (hT:∀ q∈T,q.2 h) (hw:Wan ops ρ o) (hx:∀ h,S h→Pu P ρ o h v) (hset:setD ρ o.dst v=ρ') (hk:AM P E ops K fuel (listed.setIfInBounds i true) ((i,fun h=>S h∧∀ q∈T,waitsB .any ops.toArray i q.1=true→q.2 h)::T.filter fun q=>!(waitsB .any ops.toArray i q.1)) ρ' h):AM P E ops K (fuel+1) listed T ρ h:=by
 have hi':ops.toArray[i]?=some o:=by simpa using hi
 refine ⟨fun w hA=>wpAnyT_firstG (i:=i) (oi:=o) (v:=v) (Si:=Sin E S) hi' (Region.noSelect_spec hs) (fun c a w hq=>by cases hq.1) fuel listed _ ((T.filter fun q=>!(waitsB .any ops.toArray i q.1)).map fun q=>(q.1,Sin E q.2)) (Sin E fun h=>S h∧∀ q∈T,waitsB .any ops.toArray i q.1=true→q.2 h) (act ρ) w (Region.free_spec hi' hf) (by simpa using hr) (.inl ⟨hw.out,fun w' ⟨h',hA',hS'⟩=>?_⟩) ⟨h,hA,hS⟩ ⟨h,hA,hS,fun q hq _=>hT q hq⟩ (fun w ⟨h,hA,hS,_⟩=>⟨h,hA,hS⟩) (fun q hq=>?_) (fun q hq hwt=>?_) (fun q hq=>?_) ?_⟩
 ·rw [eval_mk]; exact (hx h' hS').out w' hA'.1
 ·obtain ⟨q0,hq0,rfl⟩:=List.mem_map.1 hq
  exact ⟨h,hA,hT q0 hq0⟩
 ·obtain ⟨q0,hq0,rfl⟩:=List.mem_map.1 hq
  exact List.mem_map.2 ⟨q0,List.mem_filter.2 ⟨hq0,by simpa using hwt⟩,rfl⟩
 ·obtain ⟨q0,hq0,rfl⟩:=List.mem_map.1 hq
  cases hb:waitsB .any ops.toArray i q0.1 with
  | false=>exact .inl (List.mem_map.2 ⟨q0,List.mem_filter.2 ⟨hq0,by rw [hb]; rfl⟩,rfl⟩)
  | true=>exact .inr fun w ⟨h,hA,_,hG⟩=>⟨h,hA,hG q0 hq0 hb⟩
 ·rw [put_mk,hset]; exact hk.out w hA
theorem am_take3 (i:Nat) (hi:ops[i]?=some o) (hs:Region.noSelect ops.toArray=true) (hf:Region.free .any ops.toArray listed i=true) (hr:(Region.ready .any ops.toArray listed).contains i=true)
  (hT:∀ q∈T,q.2 h) (hw:Wan ops ρ o) (hx:∀ h,Pu P ρ o h v) (hset:setD ρ o.dst v=ρ') (hk:AM P E ops K fuel (listed.setIfInBounds i true) ((i,fun _=>True)::T) ρ' h):AM P E ops K (fuel+1) listed T ρ h:=by
 have hi':ops.toArray[i]?=some o:=by simpa using hi
 refine ⟨fun w hA=>wpAnyT_firstG (i:=i) (oi:=o) (v:=v) (Si:=Sin E fun _=>True) hi' (Region.noSelect_spec hs) (fun c a w hq=>by cases hq.1) fuel listed _ (T.map fun q=>(q.1,Sin E q.2)) (Sin E fun _=>True) (act ρ) w (Region.free_spec hi' hf) (by simpa using hr) (.inl ⟨hw.out,fun w' ⟨h',hA',_⟩=>?_⟩) ⟨h,hA,trivial⟩ ⟨h,hA,trivial⟩ (fun w hw=>hw) (fun q hq=>?_) (fun q hq _=>hq) (fun q hq => .inl hq) ?_⟩
 ·rw [eval_mk]; exact (hx h').out w' hA'.1
 ·obtain ⟨q0,hq0,rfl⟩:=List.mem_map.1 hq
  exact ⟨h,hA,hT q0 hq0⟩
 ·rw [put_mk,hset]; exact hk.out w hA
theorem am_skip (i:Nat) (hi:ops[i]?=some o) (hs:Region.noSelect ops.toArray=true) (hf:Region.free .any ops.toArray listed i=true) (hr:(Region.ready .any ops.toArray listed).contains i=true)
  (hT:∀ q∈T,q.2 h) (hw:Region.wanted o (yielded ops.toArray (act ρ).tmps)=false) (hset:setD ρ o.dst undef=ρ') (hk:AM P E ops K fuel (listed.setIfInBounds i true) T ρ' h):AM P E ops K (fuel+1) listed T ρ h:=by
 have hi':ops.toArray[i]?=some o:=by simpa using hi
 refine ⟨fun w hA=>wpAnyT_first (i:=i) (oi:=o) (v:=undef) (Si:=fun _=>True) hi' (Region.noSelect_spec hs) (fun c a w hq=>by cases hq.1) fuel listed _ (act ρ) w (Region.free_spec hi' hf) (by simpa using hr) (.inr ⟨hw,rfl⟩) trivial (fun q hq=>?_) ?_⟩
 ·obtain ⟨q0,hq0,rfl⟩:=List.mem_map.1 hq
  exact ⟨h,hA,hT q0 hq0⟩
 ·rw [put_mk,hset]
  refine wpAnyT_mono _ _ _ _ _ _ (fun q hq=>?_) (hk.out w hA)
  rcases List.mem_cons.1 hq with rfl | hq
  ·exact .inr fun _=>trivial
  ·exact .inl hq
theorem am_steps (hne:Region.ready .any ops.toArray listed≠[]) (hall:∀ i∈Region.ready .any ops.toArray listed,∃ o,ops[i]?=some o∧LW P E ops (fun ρ' h'=>(∀ q∈T.filter (fun q=>!(waitsB .any ops.toArray i q.1)),q.2 h')∧AM P E ops K fuel (listed.setIfInBounds i true) (T.filter fun q=>!(waitsB .any ops.toArray i q.1)) ρ' h') [o] ρ h):AM P E ops K (fuel+1) listed T ρ h:=by
 refine ⟨fun w hA=>⟨fun h0=>absurd h0 hne,fun j hj=>?_⟩⟩
 obtain ⟨o,hi,hl⟩:=hall j hj
 have h1:=hl.out w hA
 have hi':ops.toArray[j]?=some o:=by simpa using hi
 have hfm:(T.map fun q=>(q.1,Sin E q.2)).filter (fun q=>!(waitsB .any ops.toArray j q.1))=(T.filter fun q=>!(waitsB .any ops.toArray j q.1)).map fun q=>(q.1,Sin E q.2):=by
  rw [List.filter_map]; rfl
 rw [hfm]
 have fin:∀ h' w',At E h' w'→(∀ q∈T.filter (fun q=>!(waitsB .any ops.toArray j q.1)),q.2 h')→∀ q∈(T.filter fun q=>!(waitsB .any ops.toArray j q.1)).map (fun q=>(q.1,Sin E q.2)),q.2 w':=fun h' w' hA' hT' q hq=>by
  obtain ⟨q0,hq0,rfl⟩:=List.mem_map.1 hq
  exact ⟨h',hA',hT' q0 hq0⟩
 unfold wpOp
 simp only [hi']
 unfold wpList at h1
 split
 ·rename_i hq
  rw [if_pos hq] at h1
  rcases h1 with h1 | h1
  ·refine .inl (wp_mono2 (fun a w' hh=>?_) (fun e a w' hne hh=>absurd hh.1 hne) (fun ⟨_,_,hh⟩=>by cases hh.1) h1)
   obtain ⟨_,ρ',h',rfl,hA',hS',hk⟩:=hh
   exact ⟨fin h' w' hA' hS',hk.out w' hA'⟩
  ·obtain ⟨_,a,w',hq,_⟩:=h1
   cases hq
 ·rename_i hq
  rw [if_neg hq] at h1
  obtain ⟨_,ρ',h',he,hA',hS',hk⟩:=h1
  rw [he]
  exact ⟨fin h' w hA' hS',hk.out w hA'⟩
theorem am_step (i:Nat) (hi:ops[i]?=some o) (hr:Region.ready .any ops.toArray listed=[i]) (hl:LW P E ops (fun ρ' h'=>(∀ q∈T.filter (fun q=>!(waitsB .any ops.toArray i q.1)),q.2 h')∧AM P E ops K fuel (listed.setIfInBounds i true) (T.filter fun q=>!(waitsB .any ops.toArray i q.1)) ρ' h') [o] ρ h):AM P E ops K (fuel+1) listed T ρ h:=by
 refine ⟨fun w hA=>⟨fun h0=>(by rw [hr] at h0; cases h0),fun j hj=>?_⟩⟩
 rw [hr] at hj
 obtain rfl:j=i:=by simpa using hj
 have h1:=hl.out w hA
 have hi':ops.toArray[j]?=some o:=by simpa using hi
 have hfm:(T.map fun q=>(q.1,Sin E q.2)).filter (fun q=>!(waitsB .any ops.toArray j q.1))=(T.filter fun q=>!(waitsB .any ops.toArray j q.1)).map fun q=>(q.1,Sin E q.2):=by
  rw [List.filter_map]; rfl
 rw [hfm]
 have fin:∀ h' w',At E h' w'→(∀ q∈T.filter (fun q=>!(waitsB .any ops.toArray j q.1)),q.2 h')→∀ q∈(T.filter fun q=>!(waitsB .any ops.toArray j q.1)).map (fun q=>(q.1,Sin E q.2)),q.2 w':=fun h' w' hA' hT' q hq=>by
  obtain ⟨q0,hq0,rfl⟩:=List.mem_map.1 hq
  exact ⟨h',hA',hT' q0 hq0⟩
 unfold wpOp
 simp only [hi']
 unfold wpList at h1
 split
 ·rename_i hq
  rw [if_pos hq] at h1
  rcases h1 with h1 | h1
  ·refine .inl (wp_mono2 (fun a w' hh=>?_) (fun e a w' hne hh=>absurd hh.1 hne) (fun ⟨_,_,hh⟩=>by cases hh.1) h1)
   obtain ⟨_,ρ',h',rfl,hA',hS',hk⟩:=hh
   exact ⟨fin h' w' hA' hS',hk.out w' hA'⟩
  ·obtain ⟨_,a,w',hq,_⟩:=h1
   cases hq
 ·rename_i hq
  rw [if_neg hq] at h1
  obtain ⟨_,ρ',h',he,hA',hS',hk⟩:=h1
  rw [he]
  exact ⟨fin h' w hA' hS',hk.out w hA'⟩
end
end Go.Proofs.YtkmigbicabfodaaGreat.K
set_option linter.unusedVariables false
set_option linter.unusedSimpArgs false
namespace Go.Proofs.YtkmigbicabfodaaGreat.V
open Go
inductive GV | er | mp (l:List (List UInt8))
def GT (_:Nat):Option GV:=none
def Gl (_:Nat→Option Obj):Prop:=True
theorem Gl.mono {m m':Nat→Option Obj} (_:Gl m) (_:∀ b o,m b=some o→m' b=some o):Gl m':=trivial
def GOK (m:Nat→Option Obj) (g:Nat):GV→Prop
 | .er=>∃ T z u v,m g=some (.cells #[.iface u v] T z)
 | .mp l=>∃ T z b es c,m g=some (.cells #[.map (some b)] T z)∧m b=some (.map es c)∧(∀ x∈es.toList,∃ k∈l,x.key = .string ⟨k.toArray⟩∧x.val = .bool true)∧∀ k∈l,∃ x∈es.toList,x.key = .string ⟨k.toArray⟩
theorem gl_ok {m:Nat→Option Obj} {g:Nat} {v:GV} (_:Gl m) (h:GT g=some v):GOK m g v:=by cases h
end Go.Proofs.YtkmigbicabfodaaGreat.V
set_option linter.unusedVariables false
set_option linter.unusedSimpArgs false
namespace Go.Proofs.YtkmigbicabfodaaGreat.V
open Go
structure Attr where
 key:List UInt8
 val:List UInt8
structure Node where
 kind:Int
 tag:List UInt8
 text:List UInt8
 attrs:List Attr
 size:Int
structure Sel where
 kind:Int
 op:Int
 key:List UInt8
 val:List UInt8
 a:Int
 b:Int
 flag:Int
 size:Int
structure HAttr where
 ns:List UInt8
 key:List UInt8
 val:List UInt8
structure HN where
 par:Option Nat
 fst:Option Nat
 lst:Option Nat
 prv:Option Nat
 nxt:Option Nat
 ty:Int
 atom:Int
 data:List UInt8
 ns:List UInt8
 attrs:List HAttr
structure KN where
 pl:Int
 n:Node
 up:Option Nat
 kids:List (Option Nat)
 z:Bool
inductive Fl | int (k:IntKind) | bool | str | np | pnil | nil | ints | strs | bools | nps | hattrs | nodes | fsel | fnil | inil | fnl | any | clon (f:FuncId)
 deriving DecidableEq
abbrev Fl.T:Fl→Type
 | .int _=>Int | .bool=>Bool | .str=>List UInt8 | .np=>Option Nat | .pnil=>Unit | .nil=>Unit | .ints=>List Int | .strs=>List (List UInt8) | .bools=>List Bool
 | .nps=>List (Option Nat) | .hattrs=>List HAttr | .nodes=>List Node | .fsel=>List (Option Nat) | .fnil=>Unit | .inil=>Unit | .fnl=>Unit | .any=>Unit | .clon _=>List (Option Nat)
abbrev recT:Fl→List Fl→Type
 | f,[]=>f.T
 | f,g::fs=>f.T×recT g fs
inductive E | int | u8 | str | bool | attr | node | sel | hattr | np | rc (f:Fl) (fs:List Fl) (k:Nat)
 deriving DecidableEq
abbrev E.T:E→Type
 | .int=>Int | .u8=>UInt8 | .str=>List UInt8 | .bool=>Bool | .attr=>Attr | .node=>Node | .sel=>Sel | .hattr=>HAttr | .np=>Option Nat | .rc f fs _=>recT f fs
def E.sz:E→Nat
 | .int=>1 | .u8=>1 | .str=>1 | .bool=>1 | .attr=>2 | .node=>5 | .sel=>8 | .hattr=>3 | .np=>1 | .rc _ fs k=>1+fs.length+k
abbrev E.rune:E := .rc (.int .i32) [] 0
def uT:TypeId:=5
def NT:Nat:=1000000000
def NTR:Nat:=1000000001
def SB:Nat:=2000000000
def subT (i j:Nat):Nat:=SB+64*i+j
def IFB:Nat:=500000000
def ifN (T:Nat):Nat:=IFB+2*T
def mtN (T c:Nat):Nat:=IFB+2*(16*T+c)+1
def mname:Nat→String
 | 0 => "WriteString"
 | 1 => "WriteByte"
 | _ => "Write"
def mcode (n:String):Nat:=if n = "WriteString" then 0 else if n = "WriteByte" then 1 else 2
def gmem (g:Nat) (k:List UInt8):Bool:=match GT g with
 | some (.mp l)=>l.contains k
 | _=>false
inductive D
 | u | und
 | int (k:IntKind) (n:Int) | bool (b:Bool) | str (l:List UInt8)
 | nil | lst (e:E) (xs:List e.T) | own (tag:Nat)
 | op (tag off:Nat) | oe (tag sz i off:Nat)
 | fp (ds:List D) (off:Nat) | agg (ds:List D) | tup (ds:List D) | pnil
 | np (o:Option Nat) | nf (i off:Nat) | any | na (i:Nat) | nae (z i j off:Nat) | nas (z i a b:Nat) | mnil
 | clo (f:FuncId) (ds:List D) | inil | fnl | aggo (ds:List D) (tag:Nat)
 | clov (f:FuncId) (tag:Nat) (ds:List D) | err (b:Bool) | opb (tag:Nat) (b:Bool) | ifc (T:TypeId) (ds:List D) | aggh (tag:Nat) (ds:List D) | nap (o:Option (Nat×Nat)) | gm (g:Nat)
 deriving Inhabited
def Fl.enc:(f:Fl)→f.T→D
 | .int k,n => .int k n
 | .bool,b => .bool b
 | .str,l => .str l
 | .np,o => .np o
 | .pnil,_ => .pnil
 | .nil,_ => .nil
 | .ints,xs => .lst .int xs
 | .strs,xs => .lst .str xs
 | .bools,xs => .lst .bool xs
 | .nps,xs => .lst .np xs
 | .hattrs,xs => .lst .hattr xs
 | .nodes,xs => .lst .node xs
 | .fsel,xs => .fp [.lst .np xs, .any, .any] 0
 | .fnil,_ => .fp [.nil, .any, .any] 0
 | .inil,_ => .inil
 | .fnl,_ => .fnl
 | .any,_ => .any
 | .clon f,xs => .clo f [.fp [.inil] 0, .fp [.lst .np xs] 0]
def recEnc:(f:Fl)→(fs:List Fl)→recT f fs→List D
 | f,[],x=>[f.enc x]
 | f,g::fs,x=>f.enc x.1::recEnc g fs x.2
def HN.enc (h:HN):List D:=[.np h.par, .np h.fst, .np h.lst, .np h.prv, .np h.nxt, .int .u32 h.ty, .int .u32 h.atom, .str h.data, .str h.ns]
def E.enc:(e:E)→e.T→List D
 | .int,n=>[.int .i64 n]
 | .u8,c=>[.int .u8 (c.toNat:Int)]
 | .str,s=>[.str s]
 | .bool,b=>[.bool b]
 | .attr,a=>[.str a.key, .str a.val]
 | .node,n=>[.int .i64 n.kind, .str n.tag, .str n.text, .lst .attr n.attrs, .int .i64 n.size]
 | .sel,s=>[.int .i64 s.kind, .int .i64 s.op, .str s.key, .str s.val, .int .i64 s.a, .int .i64 s.b, .int .i64 s.flag, .int .i64 s.size]
 | .hattr,a=>[.str a.ns, .str a.key, .str a.val]
 | .np,o=>[.np o]
 | .rc f fs k,x=>recEnc f fs x++List.replicate k .any
def D.plain:D→Bool
 | .int _ _=>true | .bool _=>true | .str _=>true | .nil=>true | .lst _ _=>true | .pnil=>true | .fp _ _=>true | .np _=>true | .any=>true | .mnil=>true | .clo _ _=>true | .inil=>true | .fnl=>true | .err _=>true | .ifc _ _=>true | .gm _=>true
 | _=>false
def D.cell:D→Bool
 | .own _=>true | .op _ _=>true
 | d=>d.plain
def dPtr:D→Option (Option Nat)
 | .np o=>some o
 | .pnil=>some none
 | _=>none
def castE (e e':E) (xs:List e.T):Option (List e'.T):=if h:e=e' then some (h ▸ xs) else none
def dLst (e:E):D→Option (List e.T)
 | .lst e' xs=>castE e' e xs
 | .nil=>some []
 | _=>none
def Fl.dec:(f:Fl)→D→Option f.T
 | .int k, .int k' n=>cond (decide (k'=k)) (some n) none
 | .bool, .bool b=>some b
 | .str, .str l=>some l
 | .np,d=>dPtr d
 | .pnil, .pnil=>some ()
 | .nil, .nil=>some ()
 | .ints,d=>dLst .int d
 | .strs,d=>dLst .str d
 | .bools,d=>dLst .bool d
 | .nps,d=>dLst .np d
 | .hattrs,d=>dLst .hattr d
 | .nodes,d=>dLst .node d
 | .fsel, .fp [d,a,b] 0=>cond (a.plain && b.plain) (dLst .np d) none
 | .fnil, .fp [.nil,a,b] 0=>cond (a.plain && b.plain) (some ()) none
 | .inil, .inil=>some ()
 | .fnl, .fnl=>some ()
 | .any,d=>cond d.plain (some ()) none
 | .clon f, .clo f' [.fp [.inil] 0, .fp [d] 0]=>cond (decide (f'=f)) (dLst .np d) none
 | _,_=>none
def recDec:(f:Fl)→(fs:List Fl)→(k:Nat)→List D→Option (recT f fs)
 | f,[],k,d::ds=>cond (ds.length == k && ds.all D.plain) (f.dec d) none
 | f,g::fs,k,d::ds=>match f.dec d with
  | none=>none
  | some x=>match recDec g fs k ds with
   | none=>none
   | some y=>some (x,y)
 | _,_,_,[]=>none
def HN.dec (as1:List HAttr):List D→Option HN
 | [a,b,c,d,e, .int .u32 t, .int .u32 m, .str da, .str n]=>(match dPtr a with
  | none=>none
  | some a=>match dPtr b with
   | none=>none
   | some b=>match dPtr c with
    | none=>none
    | some c=>match dPtr d with
     | none=>none
     | some d=>match dPtr e with
      | none=>none
      | some e=>some ⟨a,b,c,d,e,t,m,da,n,as1⟩)
 | _=>none
def dAttrs:D→Option (List Attr)
 | .lst .attr xs=>some xs
 | .nil=>some []
 | _=>none
inductive Cl | h | k
 deriving DecidableEq
abbrev Cl.R:Cl→Type
 | .h=>HN | .k=>KN
def Cl.n:Cl→Nat
 | .h=>9 | .k=>7
abbrev Cl.e:Cl→E
 | .h => .hattr | .k => .np
def Cl.xs:(c:Cl)→c.R→List c.e.T
 | .h,x=>x.attrs
 | .k,x=>x.kids
def HN.wa (x:HN) (xs:List HAttr):HN:=⟨x.par,x.fst,x.lst,x.prv,x.nxt,x.ty,x.atom,x.data,x.ns,xs⟩
def KN.wk (x:KN) (xs:List (Option Nat)):KN:=⟨x.pl,x.n,x.up,xs,false⟩
def Cl.wx:(c:Cl)→c.R→List c.e.T→c.R
 | .h,x,xs=>x.wa xs
 | .k,x,xs=>x.wk xs
def Cl.fz:(c:Cl)→c.R→Bool
 | .h,_=>false
 | .k,x=>x.z
def KN.wz (x:KN) (b:Bool):KN:=⟨x.pl,x.n,x.up,x.kids,b⟩
def Cl.wz:(c:Cl)→c.R→Bool→c.R
 | .h,x,_=>x
 | .k,x,b=>x.wz b
def KN.enc (h:KN):List D:=[.int .i64 h.pl, .int .i64 h.n.kind, .str h.n.tag, .str h.n.text, .lst .attr h.n.attrs, .int .i64 h.n.size, .np h.up]
def Cl.enc:(c:Cl)→c.R→List D
 | .h,x=>x.enc
 | .k,x=>x.enc
def KN.dec (l:List (Option Nat)):List D→Option KN
 | [.int .i64 a, .int .i64 k, .str tg, .str tx,d, .int .i64 z,p]=>(match dAttrs d with
  | none=>none
  | some as1=>match dPtr p with
   | none=>none
   | some o=>some ⟨a,⟨k,tg,tx,as1,z⟩,o,l,false⟩)
 | _=>none
def Cl.dec:(c:Cl)→List c.e.T→List D→Option c.R
 | .h,as1,ds=>HN.dec as1 ds
 | .k,as1,ds=>KN.dec as1 ds
def Cl.cast (c c':Cl) (hs:List c.R):Option (List c'.R):=if e:c=c' then some (e ▸ hs) else none
def byteI (n:Int):Option UInt8:=if 0≤n∧n<256 then some (UInt8.ofNat n.toNat) else none
def E.dec:(e:E)→List D→Option e.T
 | .int,[.int .i64 n]=>some n
 | .u8,[.int .u8 n]=>byteI n
 | .str,[.str s]=>some s
 | .bool,[.bool b]=>some b
 | .attr,[.str k, .str v]=>some ⟨k,v⟩
 | .node,[.int .i64 k, .str tg, .str tx,d, .int .i64 z]=>(dAttrs d).bind fun as1=>some ⟨k,tg,tx,as1,z⟩
 | .sel,[.int .i64 k, .int .i64 o, .str ke, .str v, .int .i64 a, .int .i64 b, .int .i64 f, .int .i64 z]=>some ⟨k,o,ke,v,a,b,f,z⟩
 | .hattr,[.str n, .str k, .str v]=>some ⟨n,k,v⟩
 | .np,[d]=>dPtr d
 | .rc f fs k,ds=>recDec f fs k ds
 | _,_=>none
def zeroE:(e:E)→List D→Option e.T
 | .u8,[.int .u8 0]=>some 0
 | e,ds=>e.dec ds
theorem zeroE_dec {e:E} {ds:List D} {v:e.T} (h:zeroE e ds=some v):e.dec ds=some v:=by
 unfold zeroE at h
 split at h
 ·cases h; rfl
 ·exact h
inductive FX | fl (f:Fl) | own | self
abbrev FX.T:FX→Type
 | .fl f=>f.T | .own=>Unit | .self=>Bool
abbrev fxT:List FX→Type
 | []=>Unit
 | [f]=>f.T
 | f::g::fs=>f.T×fxT (g::fs)
def FX.enc (i j:Nat):(f:FX)→f.T→D
 | .fl f,x=>f.enc x
 | .own,_ => .own (subT i j)
 | .self,b => .opb i b
def fxEnc (i:Nat):(j:Nat)→(fs:List FX)→fxT fs→List D
 | _,[],_=>[]
 | j,[f],x=>[f.enc i j x]
 | j,f::g::fs,x=>f.enc i j x.1::fxEnc i (j+1) (g::fs) x.2
def FX.dec (t:Nat):(f:FX)→D→Option f.T
 | .fl f,d=>f.dec d
 | .own, .own _=>some ()
 | .own, .nil=>some ()
 | .self, .opb t' b=>cond (t' == t) (some b) none
 | .self, .op t' 0=>cond (t' == t) (some true) none
 | .self, .pnil=>some false
 | _,_=>none
def fxDec (t:Nat):(fs:List FX)→List D→Option (fxT fs)
 | [],[]=>some ()
 | [f],[d]=>f.dec t d
 | f::g::fs,d::ds=>match f.dec t d with
  | none=>none
  | some x=>match fxDec t (g::fs) ds with
   | none=>none
   | some y=>some (x,y)
 | _,_=>none
def FX.flat:FX→Bool
 | .fl f=>(match f with | .int _=>true | .bool=>true | .str=>true | .np=>true | .pnil=>true | .nil=>true | _=>false)
 | _=>true
inductive OB
 | rows (e:E) (T:TypeId) (xs:List e.T)
 | cells (T:TypeId) (ds:List D)
 | nodes (c:Cl) (T A:TypeId) (hs:List c.R) (hole:Option Nat)
 | nodesR (c:Cl) (hs:List c.R)
 | mp (l:List (Option Nat×Bool))
 | sit (l:List UInt8) (pos:Nat)
structure St where
 n:Nat
 np:Nat
 nw:Bool
 sl:Nat→D
 ow:List (Nat×OB)
def St.look (s:St) (t:Nat):Option OB:=(s.ow.find? fun p=>p.1 == t).map (·.2)
def St.set (s:St) (t:Nat) (d:D):St:={ s with sl:=fun i=>cond (i == t) d (s.sl i) }
def D.purge1 (t:Nat):D→D
 | .own t'=>cond (t' == t) .u (.own t')
 | .op t' o=>cond (t' == t) .u (.op t' o)
 | .oe t' z i o=>cond (t' == t) .u (.oe t' z i o)
 | .na i=>cond (NT == t) .u (.na i)
 | .nae z i j o=>cond (NT == t) .u (.nae z i j o)
 | .nas z i a b=>cond (NT == t) .u (.nas z i a b)
 | .aggo ds t'=>cond (t' == t) .u (.aggo ds t')
 | .aggh t' ds=>cond (t' == t) .u (.aggh t' ds)
 | .clov f t' ds=>cond (t' == t) .u (.clov f t' ds)
 | .opb t' b=>cond (t' == t) .u (.opb t' b)
 | .nap o=>cond (NT == t) .u (.nap o)
 | d=>d
def D.purge (t:Nat):D→D
 | .tup ds => .tup (ds.map (D.purge1 t))
 | d=>d.purge1 t
def D.purgeC (k:Bool) (t:Nat):D→D
 | .own t'=>cond (t' == t) (cond k .any .u) (.own t')
 | d=>d.purge1 t
def OB.isRows:OB→Bool
 | .rows _ _ _=>true
 | _=>false
def OB.purge (k:Bool) (t:Nat):OB→OB
 | .cells T ds => .cells T (ds.map (D.purgeC k t))
 | b=>b
def St.gone (s:St) (t:Nat):Bool:=match s.look t with
 | some b=>b.isRows
 | none=>false
def St.purge (s:St) (t:Nat):St:=⟨s.n,s.np,s.nw,fun i=>(s.sl i).purge t,(s.ow.filter fun p=>!(p.1 == t)).map fun p=>(p.1,p.2.purge (s.gone t) t)⟩
def St.put (s:St) (d:Option Tmp) (x:D):Option St :=
 match d with
 | none=>some s
 | some t=>cond (Nat.blt t s.n) (some (s.set t x)) none
def St.make (s:St) (t:Nat) (b:OB):St:=⟨s.n,s.np,s.nw,s.sl,(t,b)::s.ow⟩
def St.upd (s:St) (t:Nat) (b:OB):St:=⟨s.n,s.np,s.nw,s.sl,s.ow.map fun p=>cond (p.1 == t) (t,b) p⟩
inductive Sh | bool | int (k:IntKind) | str | slice (e:TypeId) | struct (fs:List (TypeId×Nat)) | ptr (e:TypeId) | map (k v:TypeId) | iface | func | other
def Sh.conc:Sh→Bool
 | .ptr _=>true | .str=>true | .struct _=>true | .int _=>true
 | _=>false
structure TI where
 sh:Sh
 size:Nat
 agg:Bool
 zv:Value
 bytes:Nat
 el:Option E
def ofVal:Value→D
 | .int k n => .int k n
 | .bool b => .bool b
 | .string s => .str s.data.toList
 | .slice none 0 0 => .nil
 | .pointer none => .pnil
 | .map none => .mnil
 | .nilIface => .inil
 | .nilFunc => .fnl
 | _ => .u
abbrev esT:List E→Type
 | []=>Unit
 | [e]=>e.T
 | e::e'::es=>e.T×esT (e'::es)
def esEnc:(es:List E)→esT es→List D
 | [],_=>[]
 | [e],x=>[.fp (e.enc x) 0]
 | e::e'::es,x => .fp (e.enc x.1) 0::esEnc (e'::es) x.2
def esDec:(es:List E)→List D→Option (esT es)
 | [],[]=>some ()
 | [e],[.fp ds 0]=>e.dec ds
 | e::e'::es, .fp ds 0::r=>match e.dec ds with
  | none=>none
  | some x=>match esDec (e'::es) r with
   | none=>none
   | some y=>some (x,y)
 | _,_=>none
inductive Kd | int (k:IntKind) | bool | str | lst (e:E) | el (e:E) | own (e:E) (T:TypeId) | blk (e:E) (T:TypeId) | np | any | mnil | emp | fp (e:E) | ns (c:Cl) (T A:TypeId) | nsr (c:Cl) | clo (f:FuncId) (es:List E) | intc (k:IntKind) (n:Int) | inil | fnl | al (j:Nat) | mp | sit | err | blkx (T:TypeId) (fs:List FX) | hown (i0 j:Nat) (e:E) (T:TypeId) | clox (f:FuncId) (T:TypeId) (fs:List FX) (es:List E) | ifc (T:TypeId) (e:E) | nal | nap | snil
abbrev Kd.T:Kd→Type
 | .int _=>Int | .bool=>Bool | .str=>List UInt8 | .lst e=>List e.T | .el e=>e.T | .own e _=>List e.T | .blk e _=>e.T
 | .np=>Option Nat | .any=>Unit | .mnil=>Unit | .emp=>Unit | .fp e=>e.T | .ns c _ _=>List c.R | .nsr c=>List c.R | .clo _ es=>esT es | .intc _ _=>Unit | .inil=>Unit | .fnl=>Unit | .al _=>Unit | .mp=>List (Option Nat×Bool) | .sit=>List UInt8×Nat
 | .snil=>Unit | .ifc _ e=>e.T | .nal=>Nat | .nap=>Option (Nat×Nat) | .err=>Bool | .blkx _ fs=>fxT fs | .hown _ _ e _=>List e.T | .clox _ _ fs es=>fxT fs×esT es
abbrev Pt:=List (Nat×Kd)
abbrev Tup:Pt→Type
 | []=>Unit
 | [p]=>p.2.T
 | p::q::ps=>p.2.T×Tup (q::ps)
abbrev SumT:List Pt→Type
 | []=>Empty
 | [p]=>Tup p
 | p::q::ps=>Tup p ⊕ SumT (q::ps)
structure Ent where
 np:Nat
 pin:Pt
 pout:Pt
 m:Tup pin→Option (Tup pout)
inductive Xt | nm | ex (id:Nat) | rt | gt (l:Nat)
 deriving DecidableEq
structure LEnt where
 pin:Pt
 exits:List (Xt×Pt)
 m:Tup pin→Option (SumT (exits.map (·.2)))
structure Cx where
 tb:List (Option TI)
 fns:FuncId→Option Ent
 sch:Nat→Option (List (Bool×Nat))
 mth:List (TypeId×String×FuncId)
 ast:List (TypeId×TypeId)
def atI {α:Type} (l:List α) (i:Int):Option α:=if 0≤i then l[i.toNat]? else none
def enc8 (n:Int):List UInt8:=(Go.Utf8.encode n).data.toList
def encs8 (l:List Int):List UInt8:=l.flatMap enc8
def subL {α:Type} (l:List α) (lo hi:Int):Option (List α):=if 0≤lo∧lo≤hi∧hi≤l.length then some ((l.take hi.toNat).drop lo.toNat) else none
def catS (l m:List UInt8):Option (List UInt8):=if l.length+m.length≤9223372036854775807 then some (l++m) else none
def appL {α:Type} (l m:List α):Option (List α):=if l.length+m.length≤2147483648 then some (l++m) else none
def divI (k:IntKind) (a b:Int):Option Int:=if b=0 then none else some (IntKind.wrap k (a.tdiv b))
def remI (a b:Int):Option Int:=if b=0 then none else some (a.tmod b)
def shlI (k:IntKind) (a b:Int):Option Int:=if b<0 then none else some (IntKind.wrap k (a*2 ^ min b.toNat k.bits))
def shrI (k:IntKind) (a b:Int):Option Int:=if b<0 then none else some (a.fdiv (2 ^ min b.toNat k.bits))
def mget:List (Option Nat×Bool)→Option Nat→Bool
 | [],_=>false
 | (k,v)::l,o=>if o=k then v else mget l o
def mput:List (Option Nat×Bool)→Option Nat→Bool→List (Option Nat×Bool)
 | [],o,b=>[(o,b)]
 | (k,v)::l,o,b=>if o=k then (o,b)::l else (k,v)::mput l o b
def dec8 (l:List UInt8) (i:Nat):Nat×Nat:=Utf8.decode ⟨l.toArray⟩ i
def andI (k:IntKind) (a b:Int):Int:=IntKind.wrap k (((a % 2 ^ k.bits).toNat &&& (b % 2 ^ k.bits).toNat:Nat):Int)
def orI (k:IntKind) (a b:Int):Int:=IntKind.wrap k (((a % 2 ^ k.bits).toNat ||| (b % 2 ^ k.bits).toNat:Nat):Int)
section
variable (C:Cx) {R:Type}
def g (s:St):Operand→D
 | .tmp t=>s.sl t
 | .const v=>ofVal v
 | .func f => .clo f []
 | _ => .u
def ti (T:TypeId):Option TI:=(C.tb[T]?).join
def mfind (f:Nat) (n:String):Option (TypeId×String×FuncId):=C.mth.find? fun q=>ifN q.1 == f && q.2.1 == n
def isIf (f:Nat):Bool:=C.mth.any fun q=>ifN q.1 == f
def isMt (f:Nat):Bool:=C.mth.any fun q=>mtN q.1 (mcode q.2.1) == f && mname (mcode q.2.1) == q.2.1
def evInt (op:BinOp) (k:IntKind) (a b:Int) (K:D→Option R):Option R :=
 match op with
 | .add=>K (.int k (k.wrap (a+b)))
 | .sub=>K (.int k (k.wrap (a - b)))
 | .mul=>K (.int k (k.wrap (a*b)))
 | .eql=>K (.bool (decide (a=b)))
 | .neq=>K (.bool (decide (a≠b)))
 | .lss=>K (.bool (decide (a<b)))
 | .leq=>K (.bool (decide (a≤b)))
 | .gtr=>K (.bool (decide (b<a)))
 | .geq=>K (.bool (decide (b≤a)))
 | .and=>K (.int k (andI k a b))
 | .or=>K (.int k (orI k a b))
 | .quo=>(divI k a b).bind fun n=>K (.int k n)
 | .rem=>(remI a b).bind fun n=>K (.int k n)
 | _=>none
def evEq (op:BinOp) (b:Bool) (K:D→Option R):Option R :=
 match op with
 | .eql=>K (.bool b)
 | .neq=>K (.bool (!b))
 | _=>none
def dStr:D→Option (List UInt8)
 | .str a=>some a
 | _=>none
def dTwo (l:List D):Option (List UInt8×List UInt8) :=
 match l with
 | [x,y]=>(match dStr x with
  | some a=>(match dStr y with
   | some b=>some (a,b)
   | none=>none)
  | none=>none)
 | _=>none
def D.parts:D→List D
 | .agg ds=>ds
 | _=>[]
def evBin (op:BinOp) (T:TypeId) (x y:D) (K:D→Option R):Option R :=
 match x with
 | .int k a=>(match y with
  | .int k' b=>(match op with
   | .shl=>(shlI k a b).bind fun n=>K (.int k n)
   | .shr=>(shrI k a b).bind fun n=>K (.int k n)
   | op=>cond (decide (k=k')) (evInt op k a b K) none)
  | _=>none)
 | .str l=>(match y with
  | .str m=>(match op with
   | .eql=>K (.bool (decide (l=m)))
   | .neq=>K (.bool (decide (l≠m)))
   | .add=>(catS l m).bind fun r=>K (.str r)
   | _=>none)
  | _=>none)
 | .bool a=>(match y with
  | .bool b=>(match ti C T with
   | some ⟨.bool,_,_,_,_,_⟩=>evEq op (a == b) K
   | _=>none)
  | _=>none)
 | .np o=>(match ti C T with
  | some ⟨.ptr e,_,_,_,_,_⟩=>(match ti C e with
   | some te=>cond (Nat.blt 0 te.size) (match y with
    | .np o'=>evEq op (decide (o=o')) K
    | .pnil=>evEq op o.isNone K
    | _=>none) none
   | none=>none)
  | _=>none)
 | .fp _ _=>(match ti C T with
  | some ⟨.ptr _,_,_,_,_,_⟩=>(match y with
   | .pnil=>evEq op false K
   | _=>none)
  | _=>none)
 | .nap o=>(match ti C T with
  | some ⟨.ptr _,_,_,_,_,_⟩=>(match y with
   | .pnil=>evEq op o.isNone K
   | _=>none)
  | _=>none)
 | .nae _ _ _ _=>(match ti C T with
  | some ⟨.ptr _,_,_,_,_,_⟩=>(match y with
   | .pnil=>evEq op false K
   | _=>none)
  | _=>none)
 | .op _ _=>(match ti C T with
  | some ⟨.ptr _,_,_,_,_,_⟩=>(match y with
   | .pnil=>evEq op false K
   | _=>none)
  | _=>none)
 | .opb t b=>(match ti C T with
  | some ⟨.ptr e,_,_,_,_,_⟩=>(match y with
   | .pnil=>evEq op (!b) K
   | .op t' 0=>(match ti C e with
    | some te=>cond (Nat.blt 0 te.size && t' == t) (evEq op b K) none
    | none=>none)
   | _=>none)
  | _=>none)
 | .pnil=>(match ti C T with
  | some ⟨.ptr _,_,_,_,_,_⟩=>(match y with
   | .np o'=>evEq op o'.isNone K
   | .pnil=>evEq op true K
   | _=>none)
  | _=>none)
 | .mnil=>(match ti C T with
  | some ⟨.map _ _,_,_,_,_,_⟩=>(match y with
   | .mnil=>evEq op true K
   | _=>none)
  | _=>none)
 | .err a=>(match ti C T with
  | some ⟨.iface,_,_,_,_,_⟩=>(match y with
   | .err b=>cond a (cond b none (evEq op false K)) (cond b (evEq op false K) none)
   | _=>none)
  | _=>none)
 | .inil=>(match ti C T with
  | some ⟨.iface,_,_,_,_,_⟩=>(match y with
   | .err b=>cond b (evEq op false K) none
   | _=>none)
  | _=>none)
 | .fnl=>(match ti C T with
  | some ⟨.func,_,_,_,_,_⟩=>(match y with
   | .fnl=>evEq op true K
   | _=>none)
  | _=>none)
 | .clo _ _=>(match ti C T with
  | some ⟨.func,_,_,_,_,_⟩=>(match y with
   | .fnl=>evEq op false K
   | _=>none)
  | _=>none)
 | .agg xs=>(match (ti C T).bind TI.el with
  | some .attr=>(match dTwo xs with
   | some a=>(match dTwo y.parts with
    | some b=>evEq op (decide (a.1=b.1∧a.2=b.2)) K
    | none=>none)
   | none=>none)
  | some .sel=>(match E.dec .sel xs with
   | some a=>(match E.dec .sel y.parts with
    | some b=>evEq op (decide (a.kind=b.kind∧a.op=b.op∧a.key=b.key∧a.val=b.val∧a.a=b.a∧a.b=b.b∧a.flag=b.flag∧a.size=b.size)) K
    | none=>none)
   | none=>none)
  | _=>none)
 | _=>none
def D.frz1 (y:D) (t:Nat) (d:D):D :=
 match y with
 | .own t'=>cond (t' == t) d (.own t')
 | .op t' o=>cond (t' == t) (match d with
  | .fp ds _ => .fp ds o
  | _ => .u) (.op t' o)
 | .oe t' z i o=>cond (t' == t) .u (.oe t' z i o)
 | .na i=>cond (NT == t) .u (.na i)
 | .nae z i j o=>cond (NT == t) .u (.nae z i j o)
 | .nas z i a b=>cond (NT == t) .u (.nas z i a b)
 | .aggo ds t'=>cond (t' == t) .u (.aggo ds t')
 | .aggh t' ds=>cond (t' == t) .u (.aggh t' ds)
 | .clov f t' ds=>cond (t' == t) .u (.clov f t' ds)
 | .opb t' b=>cond (t' == t) .u (.opb t' b)
 | .nap o=>cond (NT == t) .u (.nap o)
 | x=>x
def D.frz (y:D) (t:Nat) (d:D):D :=
 match y with
 | .tup ds => .tup (ds.map (fun x=>x.frz1 t d))
 | x=>x.frz1 t d
def OB.frz (t:Nat) (d:D):OB→OB
 | .cells T ds => .cells T (ds.map (fun x=>x.frz1 t d))
 | b=>b
def St.freeze (s:St) (t:Nat) (d:D):St:=⟨s.n,s.np,s.nw,fun i=>(s.sl i).frz t d,(s.ow.filter fun p=>!(p.1 == t)).map fun p=>(p.1,OB.frz t d p.2)⟩
def St.nodes (s:St):Option (Bool×(Σ c:Cl,List c.R)) :=
 match s.look NTR with
 | some (.nodesR c hs)=>some (false,⟨c,hs⟩)
 | _=>match s.look NT with
  | some (.nodes c _ _ hs _)=>some (true,⟨c,hs⟩)
  | _=>none
def naL (s:St) (i:Nat) (e:E):Option (List e.T) :=
 match s.look NT with
 | some (.nodes c _ _ hs none)=>(match hs[i]? with
  | some h=>castE c.e e (c.xs h)
  | none=>none)
 | _=>none
def rdCells (ds:List D) (off:Nat) (i:TI) (K:D→Option R):Option R :=
 cond i.agg
  (cond (Nat.ble (off+i.size) ds.length && ((ds.drop off).take i.size).all D.plain) (K (.agg ((ds.drop off).take i.size))) none)
  (match ds[off]? with
   | some d=>K d
   | none=>none)
def cellB (s:St) (d:D):Bool:=d.plain || (match d with
 | .opb _ _=>true
 | .own t=>(match s.look t with
  | some (.rows _ _ _)=>true
  | _=>false)
 | _=>false)
def placed (fs:List (TypeId×Nat)) (C:Cx) (s:St):List (Nat×D)→List D→Option (List D)
 | [],z=>some z
 | (i,d)::r,z=>match fs[i]? with
  | none=>none
  | some (ft,fo)=>match (C.tb[ft]?).join with
   | none=>none
   | some t=>match d with
    | .agg l=>cond (l.length == t.size && Nat.ble (fo+t.size) z.length && l.all D.plain) (placed fs C s r (z.take fo++l++z.drop (fo+t.size))) none
    | d=>cond (t.size == 1 && Nat.blt fo z.length && cellB s d) (placed fs C s r (z.set fo d)) none
def evBI (s:St) (b:Builtin) (xs:List Operand) (ts:List TypeId) (K:D→Option R):Option R :=
 match b with
 | .len=>(match xs with
  | [x]=>(match ts with
   | [T]=>(match ti C T with
    | some ⟨.str,_,_,_,_,_⟩=>(match g s x with
     | .str l=>K (.int .i64 (l.length:Int))
     | _=>none)
    | some ⟨.slice _,_,_,_,_,_⟩=>(match g s x with
     | .lst _ xs=>K (.int .i64 (xs.length:Int))
     | .nil=>K (.int .i64 0)
     | .own t=>(match s.look t with
      | some (.rows _ _ xs)=>K (.int .i64 (xs.length:Int))
      | _=>none)
     | .na i=>(match s.look NT with
      | some (.nodes c _ _ hs none)=>(hs[i]?).bind fun h=>K (.int .i64 ((c.xs h).length:Int))
      | _=>none)
     | _=>none)
    | _=>none)
   | _=>none)
  | _=>none)
 | .min=>(match xs with
  | [x,y]=>(match g s x with
   | .int k a=>(match g s y with
    | .int k' b=>cond (decide (k=k')) (K (.int k (if b<a then b else a))) none
    | _=>none)
   | _=>none)
  | _=>none)
 | .max=>(match xs with
  | [x,y]=>(match g s x with
   | .int k a=>(match g s y with
    | .int k' b=>cond (decide (k=k')) (K (.int k (if a<b then b else a))) none
    | _=>none)
   | _=>none)
  | _=>none)
 | _=>none
def evPure (s:St) (o:Op) (K:D→Option R):Option R :=
 match o with
 | .move x=>K (g s x)
 | .assign x=>K (g s x)
 | .pick c x y=>(match g s c with
  | .bool b=>cond b (K (g s x)) (K (g s y))
  | _=>none)
 | .binOp op T x y _=>(match y with
  | .const .nilIface=>(match g s x with
   | .inil=>(match ti C T with
    | some ⟨.iface,_,_,_,_,_⟩=>evEq op true K
    | _=>none)
   | .err b=>(match ti C T with
    | some ⟨.iface,_,_,_,_,_⟩=>evEq op (!b) K
    | _=>none)
   | .ifc _ _=>(match ti C T with
    | some ⟨.iface,_,_,_,_,_⟩=>evEq op false K
    | _=>none)
   | .clov f _ _=>(match ti C T with
    | some ⟨.iface,_,_,_,_,_⟩=>cond (isIf C f) (evEq op false K) none
    | _=>none)
   | _=>none)
  | .const (.slice none 0 0)=>(match ti C T with
   | some ⟨.slice _,_,_,_,_,_⟩=>(match g s x with
    | .nil=>evEq op true K
    | .own t=>(match s.look t with
     | some (.rows _ _ xs)=>cond (decide ((xs.length:Int)=0)) none (evEq op false K)
     | _=>none)
    | _=>none)
   | _=>none)
  | .const (.map none)=>(match ti C T with
   | some ⟨.map _ _,_,_,_,_,_⟩=>(match g s x with
    | .mnil=>evEq op true K
    | .own t=>(match s.look t with
     | some (.mp _)=>evEq op false K
     | _=>none)
    | _=>none)
   | _=>none)
  | _=>evBin C op T (g s x) (g s y) K)
 | .unOp .not _ x=>(match g s x with
  | .bool b=>K (.bool (!b))
  | _=>none)
 | .unOp .neg _ x=>(match g s x with
  | .int k n=>K (.int k (k.wrap (0 - n)))
  | _=>none)
 | .extract x i=>(match g s x with
  | .tup l=>(match l[i]? with
   | some d=>K d
   | none=>none)
  | _=>none)
 | .index T x y=>(match ti C T with
  | some ⟨.str,_,_,_,_,_⟩=>(match g s x with
   | .str l=>(match g s y with
    | .int _ i=>(atI l i).bind fun c=>K (.int .u8 (c.toNat:Int))
    | _=>none)
   | _=>none)
  | _=>none)
 | .indexAddr T x y=>(match ti C T with
  | some ⟨.slice et,_,_,_,_,_⟩=>(match ti C et with
   | some te=>(match g s y with
    | .int _ i=>(match g s x with
     | .lst e xs=>cond (te.size == e.sz) ((atI xs i).bind fun v=>K (.fp (e.enc v) 0)) none
     | .own t=>(match s.look t with
      | some (.rows e _ xs)=>cond (te.size == e.sz) ((atI xs i).bind fun _=>K (.oe t e.sz i.toNat 0)) none
      | _=>none)
     | .na j=>(match s.look NT with
      | some (.nodes c _ _ hs none)=>cond (te.size == c.e.sz) ((hs[j]?).bind fun h=>(atI (c.xs h) i).bind fun _=>K (.nae c.e.sz j i.toNat 0)) none
      | _=>none)
     | _=>none)
    | _=>none)
   | none=>none)
  | _=>none)
 | .fieldAddr T x i=>(match ti C T with
  | some ⟨.struct fs,_,_,_,_,_⟩=>(match fs[i]? with
   | some (ft,fo)=>(match ti C ft with
    | some t=>cond (Nat.blt 0 t.size) (match g s x with
     | .fp ds off=>K (.fp ds (off+fo))
     | .op t off=>K (.op t (off+fo))
     | .oe t z j off=>K (.oe t z j (off+fo))
     | .np o=>o.bind fun i=>K (.nf i fo)
     | .nae z i j off=>K (.nae z i j (off+fo))
     | .nf i off=>K (.nf i (off+fo))
     | _=>none) none
    | none=>none)
   | none=>none)
  | _=>none)
 | .load T (.global n)=>(match ti C T with
  | some ⟨.iface,1,false,_,_,_⟩=>(match GT n with
   | some .er=>K (.err true)
   | _=>none)
  | some ⟨.map _ _,1,false,_,_,_⟩=>(match GT n with
   | some (.mp _)=>K (.gm n)
   | _=>none)
  | _=>none)
 | .load T x=>(match ti C T with
  | some t=>(match g s x with
   | .fp ds off=>rdCells ds off t K
   | .op b off=>(match s.look b with
    | some (.cells _ ds)=>rdCells ds off t K
    | _=>none)
   | .oe b z i off=>(match s.look b with
    | some (.rows e _ xs)=>cond (z == e.sz) ((xs[i]?).bind fun v=>rdCells (e.enc v) off t K) none
    | _=>none)
   | .nf i off=>(match s.nodes with
    | some (own,⟨c,hs⟩)=>cond (off == c.n) (cond t.agg none ((hs[i]?).bind fun h=>cond own (K (.na i)) (K (.lst c.e (c.xs h))))) ((hs[i]?).bind fun h=>rdCells (c.enc h) off t K)
    | none=>none)
   | .nae z i j off=>(match s.look NT with
    | some (.nodes c _ _ hs none)=>cond (z == c.e.sz) ((hs[i]?).bind fun h=>((c.xs h)[j]?).bind fun a=>rdCells (c.e.enc a) off t K) none
    | _=>none)
   | _=>none)
  | none=>none)
 | .nilCheck x=>(match g s x with
  | .fp ds off=>K (.fp ds off)
  | .op t off=>K (.op t off)
  | .np o=>o.bind fun i=>K (.np (some i))
  | .nae z i j off=>K (.nae z i j off)
  | .nap o=>o.bind fun q=>K (.nae 3 q.1 q.2 0)
  | .nf i off=>K (.nf i off)
  | .oe t z i off=>K (.oe t z i off)
  | .clov f t ds=>cond (isMt C f) (K (.clov f t ds)) none
  | _=>none)
 | .field T x i=>(match ti C T with
  | some ⟨.struct fs,_,_,_,_,_⟩=>(match fs[i]? with
   | some (ft,fo)=>(match ti C ft with
    | some t=>(match g s x with
     | .agg ds=>cond t.agg none (rdCells ds fo t K)
     | _=>none)
    | none=>none)
   | none=>none)
  | _=>none)
 | .build T parts=>(match ti C T with
  | some ⟨.struct fs,_,_,z,_,_⟩=>cond (fs.all fun f=>(C.tb[f.1]?).join.isSome) (match placed fs C s (parts.toList.map fun p=>(p.1,g s p.2)) (z.cells.toList.map ofVal) with
   | some ds=>cond (ds.all D.plain) (K (.agg ds)) (match ds.drop 9 with
    | [.own t]=>cond ((ds.take 9).all D.plain) (K (.aggo (ds.take 9) t)) none
    | _=>(match ds with
     | .own t::rest=>cond (rest.all D.plain) (K (.aggh t rest)) none
     | _=>none))
   | none=>none) none
  | _=>none)
 | .slice T x lo hi .none=>(match ti C T with
  | some ⟨.str,_,_,_,_,_⟩=>(match g s x with
   | .str l=>(match (match lo with | none=>D.int .i64 0 | some y=>g s y) with
    | .int _ a=>(match (match hi with | none=>D.int .i64 (l.length:Int) | some y=>g s y) with
     | .int _ b=>(subL l a b).bind fun m=>K (.str m)
     | _=>none)
    | _=>none)
   | _=>none)
  | some ⟨.slice et,_,_,_,_,_⟩=>(match ti C et with
   | some te=>(match g s x with
    | .lst e xs=>cond (te.size == e.sz) (match (match lo with | none=>D.int .i64 0 | some y=>g s y) with
     | .int _ a=>(match (match hi with | none=>D.int .i64 (xs.length:Int) | some y=>g s y) with
      | .int _ b=>(subL xs a b).bind fun m=>K (.lst e m)
      | _=>none)
     | _=>none) none
    | .na j=>(match s.look NT with
     | some (.nodes c _ _ hs none)=>cond (te.size == c.e.sz) ((hs[j]?).bind fun n=>(match (match lo with | none=>D.int .i64 0 | some y=>g s y) with
      | .int _ a=>(match (match hi with | none=>D.int .i64 ((c.xs n).length:Int) | some y=>g s y) with
       | .int _ b=>(subL (c.xs n) a b).bind fun _=>K (.nas c.e.sz j a.toNat b.toNat)
       | _=>none)
      | _=>none)) none
     | _=>none)
    | _=>none)
   | none=>none)
  | _=>none)
 | .convert S T x=>(match ti C S with
  | some ⟨.int _,_,_,_,_,_⟩=>(match ti C T with
   | some ⟨.int k,_,_,_,_,_⟩=>(match g s x with
    | .int _ a=>K (.int k (k.wrap a))
    | _=>none)
   | some ⟨.str,_,_,_,_,_⟩=>(match g s x with
    | .int _ a=>K (.str (enc8 a))
    | _=>none)
   | _=>none)
  | some ⟨.slice et,_,_,_,_,_⟩=>(match ti C et with
   | some ⟨.int .i32,1,_,_,_,_⟩=>(match ti C T with
    | some ⟨.str,_,_,_,_,_⟩=>(match g s x with
     | .nil=>K (.str [])
     | .lst e xs=>(castE e E.rune xs).bind fun xs=>K (.str (encs8 xs))
     | .own t=>(match s.look t with
      | some (.rows e _ xs)=>(castE e E.rune xs).bind fun xs=>K (.str (encs8 xs))
      | _=>none)
     | _=>none)
    | _=>none)
   | some ⟨.int .u8,1,_,_,_,_⟩=>(match ti C T with
    | some ⟨.str,_,_,_,_,_⟩=>(match g s x with
     | .nil=>K (.str [])
     | .lst e xs=>(castE e .u8 xs).bind fun xs=>K (.str xs)
     | .own t=>(match s.look t with
      | some (.rows e _ xs)=>(castE e .u8 xs).bind fun xs=>K (.str xs)
      | _=>none)
     | _=>none)
    | _=>none)
   | _=>none)
  | _=>none)
 | .lookup T x y false=>(match ti C T with
  | some ⟨.map kt vt,_,_,_,_,_⟩=>(match ti C kt with
   | some ⟨.ptr e,_,_,_,_,_⟩=>(match ti C e with
    | some te=>cond (Nat.blt 0 te.size) (match ti C vt with
     | some ⟨.bool,_,_, .bool false,_,_⟩=>(match dPtr (g s y) with
      | some o=>(match g s x with
       | .mnil=>K (.bool false)
       | .own t=>(match s.look t with
        | some (.mp l)=>K (.bool (mget l o))
        | _=>none)
       | _=>none)
      | none=>none)
     | _=>none) none
    | none=>none)
   | some ⟨.str,_,_,_,_,_⟩=>(match ti C vt with
    | some ⟨.bool,_,_, .bool false,_,_⟩=>(match g s y with
     | .str k=>(match g s x with
      | .gm n=>(match GT n with
       | some (.mp _)=>K (.bool (gmem n k))
       | _=>none)
      | _=>none)
     | _=>none)
    | _=>none)
   | _=>none)
  | _=>none)
 | .makeFunc (.method n) fs cs=>(match fs.toList with
  | [x]=>(match g s x with
   | .clov f t []=>(match mfind C f n with
    | some q=>cond (cs.isEmpty && mname (mcode n) == n) (K (.clov (mtN q.1 (mcode n)) t [])) none
    | none=>none)
   | _=>none)
  | _=>none)
 | .makeFunc (.func f) fs cs=>cond fs.isEmpty (match cs.toList.map (g s) with
  | .op t 0::ds=>cond (ds.all D.plain && Nat.blt f 1000000) (K (.clov f t ds)) none
  | ds=>cond (ds.all D.plain) (K (.clo f ds)) none) none
 | .typeAssert x _ T true=>(match ti C T with
  | some ⟨.struct _,_,_,_,_,_⟩=>(match g s x with
   | .ifc T' l=>cond (T' == T) (K (.tup [.agg l, .bool true])) (K (.tup [.u, .bool false]))
   | _=>none)
  | some ⟨.iface,_,_,_,_,_⟩=>(match g s x with
   | .clov f t ds=>cond (C.ast.any fun q=>ifN q.1 == f && q.2 == T) (K (.tup [.clov f t ds, .bool true])) none
   | _=>none)
  | _=>none)
 | .makeInterface T x=>(match ti C T with
  | some t=>cond t.sh.conc (match g s x with
   | .agg l=>cond (l.all D.plain) (K (.ifc T l)) (K (.err true))
   | .op b 0=>cond (C.mth.any fun q=>q.1 == T) (K (.clov (ifN T) b [])) (K (.err true))
   | _=>K (.err true)) none
  | none=>none)
 | .call c=>(match c.callee with
  | .builtin b=>evBI C s b c.args.toList c.argTypes.toList K
  | _=>none)
 | _=>none
end
end Go.Proofs.YtkmigbicabfodaaGreat.V
namespace Go.Proofs.YtkmigbicabfodaaGreat.V
open Go
section
variable (C:Cx) {R:Type}
def listOf (s:St) (d:D) (e:E):Option (List e.T) :=
 match d with
 | .nil=>some []
 | .lst e' xs=>castE e' e xs
 | .own t=>match s.look t with
  | some (.rows e' _ xs)=>castE e' e xs
  | _=>none
 | .na i=>naL s i e
 | .nas z i a b=>cond (z == e.sz) (match naL s i e with
  | some xs=>some ((xs.take b).drop a)
  | none=>none) none
 | _=>none
def listK (s:St) (d:D) (e:E) (k:List e.T→Option R):Option R :=
 match d with
 | .na i=>(match s.look NT with
  | some (.nodes c _ _ hs none)=>(hs[i]?).bind fun h=>(match castE c.e e (c.xs h) with
   | some xs=>k xs
   | none=>none)
  | _=>none)
 | .nas z i a b=>cond (z == e.sz) (match s.look NT with
  | some (.nodes c _ _ hs none)=>(hs[i]?).bind fun h=>(match castE c.e e (c.xs h) with
   | some xs=>k ((xs.take b).drop a)
   | none=>none)
  | _=>none) none
 | d=>(match listOf s d e with
  | some xs=>k xs
  | none=>none)
def cellsOf (s:St) (d:D):Option (List D) :=
 match d with
 | .agg l=>cond (l.all D.plain) (some l) none
 | .op t o=>some [.op t o]
 | .opb t b=>some [.opb t b]
 | .own t=>(match s.look t with
  | some (.rows _ _ _)=>some [.own t]
  | _=>none)
 | .aggh t l=>(match s.look t with
  | some (.rows _ _ _)=>cond (l.all D.plain) (some (.own t::l)) none
  | _=>none)
 | d=>cond d.plain (some [d]) none
def decK:(e:E)→List D→(e.T→Option R)→Option R
 | .u8,[.int .u8 n],k=>(byteI n).bind fun v=>k v
 | e,ds,k=>match e.dec ds with
  | some v=>k v
  | none=>none
def decAll (e:E):List (List D)→Option (List e.T)
 | []=>some []
 | r::rs=>match e.dec r with
  | none=>none
  | some x=>match decAll e rs with
   | none=>none
   | some xs=>some (x::xs)
def decAllK (e:E):List (List D)→(List e.T→Option R)→Option R
 | [],k=>k []
 | r::rs,k=>decK e r fun x=>decAllK e rs fun xs=>k (x::xs)
def evAppend (sy s:St) (d:Tmp) (x y:Operand) (S X:TypeId) (K:D→St→Option R):Option R :=
 match ti C S with
 | some ⟨.slice et,_,_,_,_,_⟩=>(match ti C X with
  | some ⟨.slice _,_,_,_,_,_⟩=>(match ti C et with
   | some ⟨_,sz,_,_,bytes,some e⟩=>cond (sz == e.sz && Nat.ble (sz*(bytes+1)) 32768) (match g s x with
    | .own tx=>(match s.look tx with
     | some (.rows e' T xs)=>(match castE e' e xs with
      | some xs=>let s1:=s.purge tx
       listK (sy.purge tx) (g (sy.purge tx) y) e fun ys=>cond (T == et) ((appL xs ys).bind fun r=>K (.own d) ((s1.purge d).make d (.rows e et r))) none
      | none=>none)
     | _=>none)
    | .nil=>listK sy (g sy y) e fun ys=>(appL [] ys).bind fun r=>K (.own d) ((s.purge d).make d (.rows e et r))
    | .na i=>(match s.look NT with
     | some (.nodes c T A hs none)=>let s1:=s.purge NT
      listK (sy.purge NT) (g (sy.purge NT) y) c.e fun ys=>cond (A == et && decide (e=c.e) && Nat.ble (s.np % 1000) NT && !(d == NT)) ((hs[i]?).bind fun h=>cond (c.fz h) none ((appL (c.xs h) ys).bind fun r=>K (.own d) (((s1.make NT (.nodes c T A hs (some i))).purge d).make d (.rows c.e et r)))) none
     | _=>none)
    | _=>none) none
   | _=>none)
  | _=>none)
 | _=>none
def evAppendS (s:St) (d:Tmp) (x y:Operand) (S:TypeId) (K:D→St→Option R):Option R :=
 match ti C S with
 | some ⟨.slice et,_,_,_,_,_⟩=>(match ti C et with
  | some ⟨_,1,_,_,bytes,some .u8⟩=>cond (Nat.ble (bytes+1) 32768) (match g s y with
   | .str ys=>(match g s x with
    | .own tx=>(match s.look tx with
     | some (.rows e' T xs)=>(match castE e' .u8 xs with
      | some xs=>cond (T == et) ((appL xs ys).bind fun r=>K (.own d) (((s.purge tx).purge d).make d (.rows .u8 et r))) none
      | none=>none)
     | _=>none)
    | .nil=>(appL [] ys).bind fun r=>K (.own d) ((s.purge d).make d (.rows .u8 et r))
    | _=>none)
   | _=>none) none
  | _=>none)
 | _=>none
def evCopy (s:St) (x y:Operand) (S:TypeId) (K:D→St→Option R):Option R :=
 match ti C S with
 | some ⟨.slice et,_,_,_,_,_⟩=>(match ti C et with
  | some te=>(match g s x with
   | .na j=>(match s.look NT with
    | some (.nodes c T A hs none)=>cond (te.size == c.e.sz && A == et) ((hs[j]?).bind fun h=>cond (c.fz h) none (listK s (g s y) c.e fun ys=>K (.int .i64 ((min ys.length (c.xs h).length:Nat):Int)) (s.upd NT (.nodes c T A (hs.set j (c.wx h (ys.take (min ys.length (c.xs h).length)++(c.xs h).drop (min ys.length (c.xs h).length)))) none)))) none
    | _=>none)
   | .own t=>(match g s y with
    | .str ys=>(match s.look t with
     | some (.rows e' T xs)=>(match castE e' .u8 xs with
      | some xs=>cond (te.size == 1 && T == et) (K (.int .i64 ((min ys.length xs.length:Nat):Int)) (s.upd t (.rows .u8 T (ys.take (min ys.length xs.length)++xs.drop (min ys.length xs.length))))) none
      | none=>none)
     | _=>none)
    | _=>none)
   | _=>none)
  | none=>none)
 | _=>none
def evBox (s:St) (d:Tmp) (T:TypeId) (x:Operand) (K:D→St→Option R):Option R :=
 let s':=s.purge d
 match cellsOf s' (g s' x) with
  | some ds=>K (.op d 0) (s'.make d (.cells T ds))
  | none=>none
def evNf (s:St) (i off:Nat) (d:D) (K:D→St→Option R):Option R :=
 match s.look NT with
 | some (.nodes c TN A hs hole)=>cond (Nat.blt off c.n) (cond d.plain ((hs[i]?).bind fun h=>match c.dec (c.xs h) ((c.enc h).set off d) with
   | some h'=>K .und (s.upd NT (.nodes c TN A (hs.set i (c.wz h' (c.fz h))) hole))
   | none=>none) none)
  (cond (off == c.n) (match d with
   | .own t=>(match s.look t with
    | some (.rows e T xs)=>(match castE e c.e xs with
     | some xs=>cond (T == A && !(t == NT) && Nat.ble (s.np % 1000) NT) ((hs[i]?).bind fun h=>(match hole with
      | none=>K .und (((s.purge t).purge NT).make NT (.nodes c TN A (hs.set i (c.wx h xs)) none))
      | some j=>cond (decide (j=i)) (K .und (((s.purge t).purge NT).make NT (.nodes c TN A (hs.set i (c.wx h xs)) none))) none)) none
     | none=>none)
    | _=>none)
   | .nas z i' 0 b=>cond (z == c.e.sz && hole.isNone && Nat.ble (s.np % 1000) NT) (cond (decide (i'=i)) ((hs[i]?).bind fun h=>cond (c.fz h) none (K .und ((s.purge NT).make NT (.nodes c TN A (hs.set i (c.wx h ((c.xs h).take b))) none)))) none) none
   | _=>none) none)
 | _=>none
def evNae (s:St) (t:TI) (z i j off:Nat) (d:D) (K:D→St→Option R):Option R :=
 match s.look NT with
 | some (.nodes c TN A hs none)=>(match cellsOf s d with
  | some l=>cond (z == c.e.sz && l.length == t.size && Nat.ble (off+t.size) c.e.sz && l.all D.plain) ((hs[i]?).bind fun h=>cond (c.fz h) none (((c.xs h)[j]?).bind fun v=>decK c.e ((c.e.enc v).take off++l++(c.e.enc v).drop (off+t.size)) fun v'=>K .und (s.upd NT (.nodes c TN A (hs.set i (c.wx h ((c.xs h).set j v'))) none)))) none
  | none=>none)
 | _=>none
def evEff (s:St) (d:Tmp) (o:Op) (K:D→St→Option R):Option R :=
 match o with
 | .alloc T=>(match ti C T with
  | some t=>let s':=s.purge d
   K (.op d 0) (s'.make d (.cells T (t.zv.cells.toList.map ofVal)))
  | none=>none)
 | .box T x=>(match s.look NT with
  | some (.nodes c TN A hs hole)=>cond (T == TN) (match g s x with
    | .agg l=>(match l.drop c.n with
     | [.nil]=>(match c.dec [] (l.take c.n) with
      | some h=>cond (s.nw && Nat.ble (s.np % 1000) NT && !(T == uT)) (K (.np (some hs.length)) ((s.purge NT).make NT (.nodes c TN A (hs++[h]) hole))) none
      | none=>none)
     | _=>none)
    | .aggo l t=>(match s.look t with
     | some (.rows e A' xs)=>(match castE e c.e xs with
      | some xs=>(match c.dec xs l with
       | some h=>cond (s.nw && Nat.ble (s.np % 1000) NT && A' == A && !(t == NT) && hole.isNone && !(T == uT)) (K (.np (some hs.length)) (((s.purge t).purge NT).make NT (.nodes c TN A (hs++[h]) hole))) none
       | none=>none)
      | none=>none)
     | _=>none)
    | _=>none) (evBox s d T x K)
  | _=>evBox s d T x K)
 | .store T x y=>(match ti C T with
  | some t=>(match g s x with
   | .op b off=>(match s.look b with
    | some (.cells T0 ds)=>(match cellsOf s (g s y) with
     | some l=>cond (l.length == t.size && Nat.ble (off+t.size) ds.length) (K .und (s.upd b (.cells T0 (ds.take off++l++ds.drop (off+t.size))))) none
     | none=>none)
    | _=>none)
   | .oe b z i off=>(match s.look b with
    | some (.rows e T0 xs)=>(match cellsOf s (g s y) with
     | some l=>cond (z == e.sz && l.length == t.size && Nat.ble (off+t.size) e.sz && l.all D.plain) ((xs[i]?).bind fun v=>decK e ((e.enc v).take off++l++(e.enc v).drop (off+t.size)) fun v'=>K .und (s.upd b (.rows e T0 (xs.set i v')))) none
     | none=>none)
    | _=>none)
   | .nf i off=>cond (t.size == 1 && !t.agg) (evNf s i off (g s y) K) none
   | .nae z i j off=>evNae s t z i j off (g s y) K
   | _=>none)
  | none=>none)
 | .buildSlice T n parts=>(match ti C T with
  | some ⟨.slice et,_,_,_,_,_⟩=>(match ti C et with
   | some ⟨_,sz,_,_,_,some e⟩=>let s':=s.purge d
    (match (parts.toList.map fun p=>g s' p.2).mapM (cellsOf s') with
    | some rows=>decAllK e rows fun xs=>cond (sz == e.sz && (parts.toList.map (·.1) == List.range n) && rows.all (·.all D.plain) && Nat.ble (n*sz) 16777216) (K (.own d) (s'.make d (.rows e et xs))) none
    | none=>none)
   | _=>none)
  | _=>none)
 | .makeSlice T x y=>(match ti C T with
  | some ⟨.slice et,_,_,_,_,_⟩=>(match ti C et with
   | some ⟨_,sz,_,z,bytes,some e⟩=>(match g s x with
    | .int .i64 a=>(match g s y with
     | .int .i64 b=>(match zeroE e (z.cells.toList.map ofVal) with
      | some v=>let s':=s.purge d
       cond (sz == e.sz && Nat.ble bytes 300 && decide (a≤b∧0≤a∧b≤1048576)) (K (.own d) (s'.make d (.rows e et (List.replicate a.toNat v)))) none
      | none=>none)
     | _=>none)
    | _=>none)
   | _=>none)
  | _=>none)
 | .call c=>(match c.callee with
  | .builtin .append=>(match c.args.toList with
   | [x,y]=>(match c.argTypes.toList with
    | [S,X]=>(match ti C X with
     | some ⟨.str,_,_,_,_,_⟩=>evAppendS C s d x y S K
     | _=>evAppend C s s d x y S X K)
    | _=>none)
   | _=>none)
  | .builtin .copy=>(match c.args.toList with
   | [x,y]=>(match c.argTypes.toList with
    | S::_=>evCopy C s x y S K
    | _=>none)
   | _=>none)
  | _=>none)
 | .convert S T x=>(match ti C S with
  | some ⟨.str,_,_,_,_,_⟩=>(match ti C T with
   | some ⟨.slice et,_,_,_,_,_⟩=>(match ti C et with
    | some ⟨.int .u8,1,_,_,_,_⟩=>(match g s x with
     | .str l=>K (.own d) ((s.purge d).make d (.rows .u8 et l))
     | _=>none)
    | _=>none)
   | _=>none)
  | _=>none)
 | .range T x=>(match ti C T with
  | some ⟨.str,_,_,_,_,_⟩=>(match g s x with
   | .str l=>K (.op d 0) ((s.purge d).make d (.sit l 0))
   | _=>none)
  | _=>none)
 | .next x true=>(match g s x with
  | .op t 0=>(match s.look t with
   | some (.sit l pos)=>cond (decide (pos<l.length)) (K (.tup [.bool true, .int .i64 (pos:Int), .int .i32 ((dec8 l pos).1:Int)]) (s.upd t (.sit l (pos+(dec8 l pos).2)))) (K (.tup [.bool false]) s)
   | _=>none)
  | _=>none)
 | .makeMap T r=>(match ti C T with
  | some ⟨.map _ _,_,_,_,_,_⟩=>(match (match r with | none=>D.int .i64 0 | some y=>g s y) with
   | .int _ _=>K (.own d) ((s.purge d).make d (.mp []))
   | _=>none)
  | _=>none)
 | .mapUpdate T x y z=>(match ti C T with
  | some ⟨.map kt _,_,_,_,_,_⟩=>(match ti C kt with
   | some ⟨.ptr e,_,_,_,_,_⟩=>(match ti C e with
    | some te=>cond (Nat.blt 0 te.size) (match dPtr (g s y) with
     | some o=>(match g s z with
      | .bool b=>(match g s x with
       | .own t=>(match s.look t with
        | some (.mp l)=>K .und (s.upd t (.mp (mput l o b)))
        | _=>none)
       | _=>none)
      | _=>none)
     | none=>none) none
    | none=>none)
   | _=>none)
  | _=>none)
 | _=>none
def mk1 (i:Nat):(k:Kd)→k.T→D×List (Nat×OB)
 | .int k,n=>(.int k n,[])
 | .bool,b=>(.bool b,[])
 | .str,l=>(.str l,[])
 | .lst e,xs=>(.lst e xs,[])
 | .el e,x=>(.agg (e.enc x),[])
 | .own e T,xs=>(.own i,[(i, .rows e T xs)])
 | .blk e T,x=>(.op i 0,[(i, .cells T (e.enc x))])
 | .np,o=>(.np o,[])
 | .any,_=>(.any,[])
 | .mnil,_=>(.mnil,[])
 | .snil,_=>(.nil,[])
 | .emp,_=>(.agg [],[])
 | .fp e,x=>(.fp (e.enc x) 0,[])
 | .clo f es,x=>(.clo f (esEnc es x),[])
 | .intc k n,_=>(.int k n,[])
 | .inil,_=>(.inil,[])
 | .fnl,_=>(.fnl,[])
 | .al j,_=>(.own j,[])
 | .nal,j=>(.na j,[])
 | .nap,o=>(.nap o,[])
 | .mp,l=>(.own i,[(i, .mp l)])
 | .sit,x=>(.op i 0,[(i, .sit x.1 x.2)])
 | .err,b=>(.err b,[])
 | .ifc T e,x=>(.ifc T (e.enc x),[])
 | .blkx T fs,x=>(.op i 0,[(i, .cells T (fxEnc i 0 fs x))])
 | .hown _ _ e T,xs=>(.u,[(i, .rows e T xs)])
 | .clox f T fs es,x=>(.clov f i (esEnc es x.2),[(i, .cells T (fxEnc i 0 fs x.1))])
 | .ns c T A,hs=>(.u,[(i, .nodes c T A hs none)])
 | .nsr c,hs=>(.u,[(i, .nodesR c hs)])
def mkSl:(p:Pt)→Tup p→Nat→D
 | [],_,_ => .u
 | [p],x,i=>cond (i == p.1) (mk1 p.1 p.2 x).1 .u
 | p::q::ps,x,i=>cond (i == p.1) (mk1 p.1 p.2 x.1).1 (mkSl (q::ps) x.2 i)
def mkOw:(p:Pt)→Tup p→List (Nat×OB)
 | [],_=>[]
 | [p],x=>(mk1 p.1 p.2 x).2
 | p::q::ps,x=>(mk1 p.1 p.2 x.1).2++mkOw (q::ps) x.2
def nkp (np i:Nat):Bool:=Nat.ble (np % 1000) i || Nat.blt i (np / 1000)
def mkP (n np:Nat) (nw:Bool) (p:Pt) (x:Tup p):St:=⟨n,np,nw,mkSl p x,mkOw p x⟩
def subF (s:St) (i0 j:Nat):D :=
 match s.sl i0 with
 | .op t 0=>(match s.look t with
  | some (.cells _ ds)=>ds.getD j .u
  | _ => .u)
 | .clov _ t _=>(match s.look t with
  | some (.cells _ ds)=>ds.getD j .u
  | _ => .u)
 | _ => .u
def un1 (s:St) (lax:Bool) (i:Nat):(k:Kd)→Option k.T
 | .int k=>match s.sl i with
  | .int k' n=>cond (decide (k'=k)) (some n) none
  | _=>none
 | .bool=>match s.sl i with
  | .bool b=>some b
  | _=>none
 | .str=>match s.sl i with
  | .str l=>some l
  | _=>none
 | .lst e=>match s.sl i with
  | .lst e' xs=>castE e' e xs
  | .nil=>some []
  | .own t=>cond lax (match s.look t with
   | some (.rows e' _ xs)=>castE e' e xs
   | _=>none) none
  | _=>none
 | .el e=>match s.sl i with
  | .agg ds=>e.dec ds
  | _=>none
 | .own e T=>match s.sl i with
  | .own t=>cond ((nkp s.np i || t == i) && !(i == NT) && !(Nat.ble NTR i)) (match s.look t with
   | some (.rows e' T' xs)=>cond (T' == T) (castE e' e xs) none
   | _=>none) none
  | .nil=>cond (nkp s.np i && !(i == NT) && !(Nat.ble NTR i)) (some []) none
  | _=>none
 | .blk e T=>match s.sl i with
  | .op t 0=>cond ((nkp s.np i || t == i) && !(i == NT) && !(Nat.ble NTR i)) (match s.look t with
   | some (.cells T' ds)=>cond (T' == T) (e.dec ds) none
   | _=>none) none
  | _=>none
 | .np=>dPtr (s.sl i)
 | .any=>match s.sl i with
  | .op _ _=>some ()
  | d=>cond d.plain (some ()) none
 | .mnil=>match s.sl i with
  | .mnil=>some ()
  | _=>none
 | .snil=>match s.sl i with
  | .nil=>some ()
  | _=>none
 | .emp=>match s.sl i with
  | .agg []=>some ()
  | _=>none
 | .fp e=>match s.sl i with
  | .fp ds 0=>e.dec ds
  | .op t 0=>cond lax (match s.look t with
   | some (.cells _ ds)=>cond (ds.all D.plain) (e.dec ds) none
   | _=>none) none
  | _=>none
 | .clo f es=>match s.sl i with
  | .clo f' ds=>cond (decide (f'=f)) (esDec es ds) none
  | _=>none
 | .intc k n=>match s.sl i with
  | .int k' n'=>cond (decide (k'=k∧n'=n)) (some ()) none
  | _=>none
 | .inil=>match s.sl i with
  | .inil=>some ()
  | _=>none
 | .fnl=>match s.sl i with
  | .fnl=>some ()
  | _=>none
 | .nal=>match s.sl i with
  | .na j=>some j
  | _=>none
 | .nap=>match s.sl i with
  | .nap o=>some o
  | .nae z j k 0=>cond (z == 3) (some (some (j,k))) none
  | .pnil=>some none
  | _=>none
 | .al j=>match s.sl i with
  | .own t=>match s.sl j with
   | .own t'=>cond (t == t' && ((nkp s.np j || t' == j) && !(j == NT) && !(Nat.ble NTR j))) (some ()) none
   | _=>none
  | .nil=>match s.sl j with
   | .nil=>cond (nkp s.np j && !(j == NT) && !(Nat.ble NTR j)) (some ()) none
   | _=>none
  | _=>none
 | .mp=>match s.sl i with
  | .own t=>cond ((nkp s.np i || t == i) && !(i == NT) && !(Nat.ble NTR i)) (match s.look t with
   | some (.mp l)=>some l
   | _=>none) none
  | _=>none
 | .sit=>match s.sl i with
  | .op t 0=>cond ((nkp s.np i || t == i) && !(i == NT) && !(Nat.ble NTR i)) (match s.look t with
   | some (.sit l pos)=>some (l,pos)
   | _=>none) none
  | _=>none
 | .ifc T e=>match s.sl i with
  | .ifc T' ds=>cond (T' == T) (e.dec ds) none
  | _=>none
 | .err=>match s.sl i with
  | .inil=>some false
  | .ifc _ _=>some true
  | .err b=>some b
  | _=>none
 | .blkx T fs=>match s.sl i with
  | .op t 0=>cond ((nkp s.np i || t == i) && !(i == NT) && !(Nat.ble NTR i)) (match s.look t with
   | some (.cells T' ds)=>cond (T' == T && Nat.ble fs.length 64) (fxDec t fs ds) none
   | _=>none) none
  | _=>none
 | .clox f T fs es=>match s.sl i with
  | .clov f' t cs=>cond ((nkp s.np i || t == i) && !(i == NT) && !(Nat.ble NTR i)) (match s.look t with
   | some (.cells T' ds)=>cond (T' == T && Nat.ble fs.length 64 && decide (f'=f)) (match fxDec t fs ds with
    | none=>none
    | some x=>match esDec es cs with
     | none=>none
     | some y=>some (x,y)) none
   | _=>none) none
  | _=>none
 | .hown i0 j e T=>cond (i == subT i0 j && Nat.blt j 64) (match subF s i0 j with
  | .own t=>(match s.look t with
   | some (.rows e' T' xs)=>cond (T' == T) (castE e' e xs) none
   | _=>none)
  | .nil=>some []
  | _=>none) none
 | .ns c T A=>cond (i == NT) (match s.look NT with
  | some (.nodes c' T' A' hs none)=>cond (T' == T && A' == A) (Cl.cast c' c hs) none
  | _=>none) none
 | .nsr c=>cond (i == NTR) (match s.look NTR with
  | some (.nodesR c' hs)=>Cl.cast c' c hs
  | _=>cond lax (match s.look NT with
   | some (.nodes c' _ _ hs none)=>Cl.cast c' c hs
   | _=>none) none) none
def tag1 (s:St) (i:Nat):Kd→List Nat
 | .own _ _=>match s.sl i with
  | .own t=>[t]
  | _=>[]
 | .blk _ _=>match s.sl i with
  | .op t _=>[t]
  | _=>[]
 | .mp=>match s.sl i with
  | .own t=>[t]
  | _=>[]
 | .sit=>match s.sl i with
  | .op t _=>[t]
  | _=>[]
 | .ns _ _ _=>[NT]
 | .blkx _ _=>match s.sl i with
  | .op t _=>[t]
  | _=>[]
 | .clox _ _ _ _=>match s.sl i with
  | .clov _ t _=>[t]
  | _=>[]
 | .hown i0 j _ _=>match subF s i0 j with
  | .own t=>[t]
  | _=>[]
 | _=>[]
def unP (s:St) (lax:Bool):(p:Pt)→Option (Tup p)
 | []=>some ()
 | [p]=>un1 s lax p.1 p.2
 | p::q::ps=>match un1 s lax p.1 p.2 with
  | none=>none
  | some x=>match unP s lax (q::ps) with
   | none=>none
   | some y=>some (x,y)
def tags (s:St) (p:Pt):List Nat:=p.flatMap fun q=>tag1 s q.1 q.2
def nodupB:List Nat→Bool
 | []=>true
 | t::ts=>!(ts.any (· == t)) && nodupB ts
def unD (s:St) (p:Pt):Option (Tup p):=cond (nodupB (tags s p) && nodupB (p.map (·.1))) (unP s false p) none
def Fl.flat:Fl→Bool
 | .int _=>true | .bool=>true | .str=>true | .np=>true | .pnil=>true | .nil=>true
 | _=>false
def E.flat:E→Bool
 | .node=>false
 | .rc f fs _=>f.flat && fs.all Fl.flat
 | _=>true
def Kd.flat:Kd→Bool
 | .lst _=>false | .el e=>e.flat | .own e _=>e.flat | .blk e _=>e.flat | .fp _=>false | .nsr _=>false | .ns c _ _=>(match c with | .h=>true | .k=>false) | .clo _ _=>false | .ifc _ _=>false
 | .blkx _ fs=>fs.all FX.flat | .hown _ _ e _=>e.flat | .clox _ _ _ _=>false
 | _=>true
def Kd.scalar:Kd→Bool
 | .int _=>true | .bool=>true | .str=>true
 | _=>false
def lent (s:St):Pt→List Nat
 | []=>[]
 | (i, .lst _)::ps=>match s.sl i with
  | .own t=>t::lent s ps
  | _=>lent s ps
 | (i, .fp _)::ps=>match s.sl i with
  | .op t 0=>t::lent s ps
  | _=>lent s ps
 | (_, .nsr _)::ps=>match s.look NTR with
  | some (.nodesR _ _)=>lent s ps
  | _=>match s.look NT with
   | some (.nodes _ _ _ _ _)=>NT::lent s ps
   | _=>lent s ps
 | _::ps=>lent s ps
def freezeAll (s:St):List Nat→Option St
 | []=>some s
 | t::ts=>match s.look t with
  | some (.rows e _ xs)=>freezeAll (s.freeze t (.lst e xs)) ts
  | some (.cells _ ds)=>cond (ds.all D.plain) (freezeAll (s.freeze t (.fp ds 0)) ts) none
  | _=>none
def purgeAll (s:St):List Nat→St
 | []=>s
 | t::ts=>purgeAll (s.purge t) ts
def realK (p:Pt):List Nat:=(p.map (·.1)).filter fun k=>Nat.blt k 1000
def hasNT (p:Pt):Bool:=p.any fun q=>q.1 == NT
def outTag0 (d:Nat) (args:List D) (k:Nat):Nat:=cond (Nat.blt k 1000) (1000*(d+1)+k) (cond (k == NT) NT (match args.getD (k - 1000) .u with
 | .op t _=>t
 | .own t=>t
 | .clov _ t _=>t
 | _=>0))
def outTag (d:Nat) (args:List D) (k:Nat):Nat:=cond (Nat.ble SB k) (subT (outTag0 d args ((k - SB) / 64)) ((k - SB) % 64)) (outTag0 d args k)
def outOw (τ:Nat→Nat):(p:Pt)→Tup p→List (Nat×OB)
 | [],_=>[]
 | [p],x=>(mk1 (τ p.1) p.2 x).2
 | p::q::ps,x=>(mk1 (τ p.1) p.2 x.1).2++outOw τ (q::ps) x.2
def outDs (τ:Nat→Nat):(p:Pt)→Tup p→List D
 | [],_=>[]
 | [p],x=>cond (Nat.blt p.1 1000) [(mk1 (τ p.1) p.2 x).1] []
 | p::q::ps,x=>cond (Nat.blt p.1 1000) ((mk1 (τ p.1) p.2 x.1).1::outDs τ (q::ps) x.2) (outDs τ (q::ps) x.2)
def joinD:List D→D
 | [d]=>d
 | [] => .u
 | ds => .tup ds
def argSt (s:St) (args:List D):St:=⟨args.length,0,s.nw,fun i=>args.getD i .u,s.ow⟩
def backT (τ:Nat→Nat) (p:Pt):List Nat:=((p.map (·.1)).filter fun k=>!(Nat.blt k 1000) && Nat.blt k SB).map τ
def newK (p:Pt):List Nat:=(p.map (·.1)).filter fun k=>Nat.blt k 1000 || Nat.ble SB k
def subsF:Nat→List FX→List Nat
 | _,[]=>[]
 | j, .own::fs=>j::subsF (j+1) fs
 | j,_::fs=>subsF (j+1) fs
def Kd.subs:Kd→List Nat
 | .blkx _ fs=>subsF 0 fs
 | .clox _ _ fs _=>subsF 0 fs
 | _=>[]
def wfX (p:Pt):Bool:=p.all fun q=>q.2.subs.all fun j=>(p.map (·.1)).contains (subT q.1 j) && Nat.blt j 64 && Nat.blt q.1 SB
def pfX (p:Pt):Bool:=p.all fun q=>Nat.blt q.1 SB || ((p.map (·.1)).contains ((q.1 - SB) / 64) && Nat.blt ((q.1 - SB) / 64) SB)
def Kd.noAl (b:Bool):Kd→Bool
 | .al _=>false
 | .nal=>false
 | .nap=>b
 | _=>true
def D.isRef:D→Bool
 | .own _=>true
 | .op _ _=>true
 | .clov _ _ _=>true
 | _=>false
def callOK (s:St) (d:Nat) (args:List D) (ent:Ent):Bool :=
 nodupB (tags (argSt s args) ent.pin++lent (argSt s args) ent.pin) && realK ent.pin == List.range args.length && realK ent.pout == List.range (realK ent.pout).length
 && (backT (outTag d args) ent.pout).all (fun t=>(tags (argSt s args) ent.pin).contains t) && ent.pout.all (fun q=>Nat.blt q.1 1000 || q.1 == NT || Nat.ble SB q.1 || (Nat.blt q.1 NT && (args.getD (q.1 - 1000) .u).isRef)) && nodupB (ent.pout.map fun q=>outTag d args q.1)
 && Nat.ble (s.np % 1000) (1000*(d+1)) && Nat.ble (s.np % 1000) NT && (!(hasNT ent.pout) || s.nw) && ent.pout.all (fun q=>q.2.noAl (hasNT ent.pout)) && wfX ent.pout && pfX ent.pout
def pickE (f:FuncId) (args:List D):Option Ent :=
 cond (Nat.blt f 1000000) (match args.findSome? (fun d=>match d with | .clo g _=>some g | .clov g _ _=>some g | _=>none) with
  | some g=>(match C.fns (f+1000000*(g+1)) with
   | some e=>some e
   | none=>C.fns f)
  | none=>C.fns f) none
def evCall (s:St) (d:Nat) (f:FuncId) (args:List D) (K:D→St→Option R):Option R :=
 match pickE C f args with
 | none=>none
 | some ent =>
  cond (callOK s d args ent)
   (match unP (argSt s args) true ent.pin with
    | none=>none
    | some x =>
     match (cond (ent.pout.all fun q=>q.2.flat) (some s) (freezeAll s (lent (argSt s args) ent.pin)):Option St) with
     | none=>none
     | some s0 =>
     let τ:=outTag d args
     let back:=backT τ ent.pout
     let s2:=purgeAll s0 (((tags (argSt s args) ent.pin).filter fun t=>!(back.contains t) || t == NT)++(newK ent.pout).map τ)
     (ent.m x).bind fun r=>K (joinD (outDs τ ent.pout r)) ⟨s2.n,s2.np,s2.nw,s2.sl,outOw τ ent.pout r++s2.ow.filter fun p=>!(back.contains p.1)⟩)
   none
def isPure:Op→Bool
 | .move _=>true | .assign _=>true | .pick _ _ _=>true | .lookup _ _ _ _=>true | .binOp _ _ _ _ _=>true | .unOp _ _ _=>true | .extract _ _=>true | .index _ _ _=>true | .indexAddr _ _ _=>true | .fieldAddr _ _ _=>true | .load _ _=>true | .nilCheck _=>true | .field _ _ _=>true | .build _ _=>true | .slice _ _ _ _ _=>true | .makeFunc _ _ _=>true | .makeInterface _ _=>true | .typeAssert _ _ _ _=>true
 | .call c=>(match c.callee with
  | .builtin .len=>true | .builtin .min=>true | .builtin .max=>true
  | _=>false)
 | _=>false
def evCallQ (s:St) (f:FuncId) (args:List D) (K:D→Option R):Option R :=
 match pickE C f args with
 | none=>none
 | some ent =>
  cond (ent.pout.all (fun q=>q.2.scalar) && (tags (argSt s args) ent.pin).isEmpty && nodupB (lent (argSt s args) ent.pin) && realK ent.pin == List.range args.length && ent.pout.map (·.1) == List.range ent.pout.length && (realK ent.pout).length == ent.pout.length)
   (match unP (argSt s args) true ent.pin with
    | none=>none
    | some x=>(ent.m x).bind fun r=>K (joinD (outDs id ent.pout r)))
   none
def ownTags:List D→List Nat
 | []=>[]
 | .own t::ds=>t::ownTags ds
 | _::ds=>ownTags ds
def nodeB (s:St) (T:TypeId):Bool:=match s.look NT with
 | some (.nodes _ TN _ _ _)=>T == TN
 | _=>false
def preL (s:St) (T:TypeId) (x:Operand):List Nat :=
 match ti C T with
 | some t=>cond t.agg (match g s x with
  | .op b off=>(match s.look b with
   | some (.cells _ ds)=>ownTags ((ds.drop off).take t.size)
   | _=>[])
  | _=>[]) []
 | none=>[]
def preE (s:St):Op→Bool
 | .load T x=>(preL C s T x).isEmpty
 | _=>true
def preO (s:St):Op→List Nat
 | .buildSlice _ _ parts=>ownTags (parts.toList.map fun q=>g s q.2)
 | .store _ x y=>(match g s x with
  | .nf _ off=>(match g s y with
   | .own t=>(match s.look NT with
    | some (.nodes c _ _ _ _)=>cond (Nat.blt off c.n) [t] []
    | _=>[])
   | _=>[])
  | _=>[])
 | _=>[]
def preN (s:St) (o:Op) (K:St→Option R):Option R :=
 match o with
 | .store _ _ (.tmp t)=>(match s.sl t with
  | .na i=>(match s.look NT with
   | some (.nodes .k T A hs none)=>(hs[i]?).bind fun n=>K ((s.upd NT (.nodes .k T A (hs.set i (n.wz true)) none)).set t (.lst .np n.kids))
   | _=>K s)
  | _=>K s)
 | _=>K s
def preP (s:St) (args:List D):Pt→List Nat
 | []=>[]
 | (i, .fp _)::ps=>(match args.getD i .u with
  | .op t 0=>(match s.look t with
   | some (.cells _ ds)=>ownTags ds
   | _=>[])
  | _=>[])++preP s args ps
 | _::ps=>preP s args ps
def preC (s:St) (f:FuncId) (args:List D):List Nat :=
 match pickE C f args with
 | some ent=>preP s args ent.pin
 | none=>[]
def evOp (s:St) (dst:Option Tmp) (o:Op) (K:D→St→Option R):Option R :=
 match o with
 | .call ⟨.value (.func f),xs,_⟩=>(match freezeAll s (preC C s f (xs.toList.map (g s))) with
  | some s'=>evCall C s' (dst.getD 900000) f (xs.toList.map (g s')) K
  | none=>none)
 | .call ⟨.value (.tmp t),xs,_⟩=>(match s.sl t with
  | .clo f ds=>evCall C s (dst.getD 900000) f (xs.toList.map (g s)++ds) K
  | .clov f t ds=>cond (Nat.blt f 1000000) (evCall C s (dst.getD 900000) f (xs.toList.map (g s) ++ .op t 0::ds) K) none
  | _=>none)
 | .call ⟨.invoke x n,xs,_⟩=>(match g s x with
  | .clov f t []=>(match mfind C f n with
   | some q=>evCall C s (dst.getD 900000) q.2.2 (.op t 0::xs.toList.map (g s)) K
   | none=>none)
  | _=>none)
 | .convert S T x=>(match ti C T with
  | some ⟨.slice _,_,_,_,_,_⟩=>cond (Nat.ble (s.np % 1000) (dst.getD 900000)) (evEff C s (dst.getD 900000) (.convert S T x) K) none
  | _=>evPure C s (.convert S T x) fun d=>K d s)
 | .load T x=>(match freezeAll s (preL C s T x) with
  | some s'=>evPure C s' (.load T x) fun d=>K d s'
  | none=>none)
 | .build T parts=>cond (nodeB s T || (C.sch (1000000+T)).isSome) (evPure C s (.build T parts) fun d=>K d s) (match freezeAll s (ownTags (parts.toList.map fun q=>g s q.2)) with
  | some s'=>evPure C s' (.build T parts) fun d=>K d s'
  | none=>none)
 | o=>cond (isPure o) (evPure C s o fun d=>K d s) (cond (Nat.ble (s.np % 1000) (dst.getD 900000)) (match freezeAll s (preO s o) with
  | some s'=>preN s' o fun s'=>evEff C s' (dst.getD 900000) o K
  | none=>none) none)
def evOpQ (s:St) (o:Op) (K:D→Option R):Option R :=
 match o with
 | .call ⟨.value (.func f),xs,_⟩=>evCallQ C s f (xs.toList.map (g s)) K
 | o=>evPure C s o K
def evOps (step:St→Oper→(St→Option R)→Option R) (all:List Oper):List Oper→St→(St→Option R)→Option R
 | [],s,k=>k s
 | o::l,s,k =>
  match o.guard with
  | none=>step s o fun s'=>evOps step all l s' k
  | some (j,b)=>match (all[j]?).bind (·.dst) with
   | none=>none
   | some t=>match s.sl t with
    | .bool c=>cond c
      (let s':=s.set t (.bool true); cond b (step s' o fun s'=>evOps step all l s' k) (match s'.put o.dst .und with
       | some s'=>evOps step all l s' k
       | none=>none))
      (let s':=s.set t (.bool false); cond b (match s'.put o.dst .und with
       | some s'=>evOps step all l s' k
       | none=>none) (step s' o fun s'=>evOps step all l s' k))
    | .und=>(match s.put o.dst .und with
      | some s'=>evOps step all l s' k
      | none=>none)
    | _=>none
def stepN (s:St) (o:Oper) (k:St→Option R):Option R:=evOp C s o.dst o.op fun d s'=>match s'.put o.dst d with
 | some s''=>k s''
 | none=>none
def stepQ (s:St) (o:Oper) (k:St→Option R):Option R:=evOpQ C s o.op fun d=>match s.put o.dst d with
 | some s''=>k s''
 | none=>none
def chk (b:Bool):Bool:=b
def lateB (s:St) (o:Op):Bool :=
 !isPure o || (match o with
  | .load _ x=>(match g s x with
   | .nf _ _=>true | .nae _ _ _ _=>true
   | _=>false)
  | .indexAddr _ x _=>(match g s x with
   | .na _=>true | .nas _ _ _ _=>true
   | _=>false)
  | .call c=>c.args.any fun x=>(match g s x with
   | .na _=>true | .nas _ _ _ _=>true
   | _=>false)
  | _=>false)
def lateO (s:St) (late:List Nat) (o:Oper):Bool :=
 o.after.any (fun e=>late.contains e.on) || (match o.guard with | some (j,_)=>late.contains j | none=>false) || lateB s o.op
def earlyE (ops:Array Oper):List Oper→Nat→Array Bool→List Nat→St→(Array Bool→List Nat→St→Option R)→Option R
 | [],_,listed,late,s,K=>K listed late s
 | o::l,i,listed,late,s,K =>
  cond (lateO s late o) (earlyE ops l (i+1) listed (late++[i]) s K)
   (cond (chk (Region.free .any ops listed i && (Region.ready .any ops listed).contains i)) (match o.guard with
    | none=>evPure C ⟨s.n,s.np,s.nw,s.sl,s.ow.filter fun p=>!(p.1 == NT)⟩ o.op fun d=>match s.put o.dst d with
     | some s'=>earlyE ops l (i+1) (listed.setIfInBounds i true) late s' K
     | none=>none
    | some (j,b)=>match (ops.toList[j]?).bind (·.dst) with
     | none=>none
     | some t=>match s.sl t with
      | .bool c=>cond (c == b) (evPure C ⟨s.n,s.np,s.nw,s.sl,s.ow.filter fun p=>!(p.1 == NT)⟩ o.op fun d=>match s.put o.dst d with
        | some s'=>earlyE ops l (i+1) (listed.setIfInBounds i true) late s' K
        | none=>none) (match s.put o.dst .und with
        | some s'=>earlyE ops l (i+1) (listed.setIfInBounds i true) late s' K
        | none=>none)
      | .und=>(match s.put o.dst .und with
        | some s'=>earlyE ops l (i+1) (listed.setIfInBounds i true) late s' K
        | none=>none)
      | _=>none) none)
def diam (ops:Array Oper) (listed:Array Bool) (i j:Nat):Bool :=
 match ops.toList[i]? with
 | some ⟨some di, .load _ (.tmp a),_,_,_,none⟩=>(match ops.toList[j]? with
  | some ⟨some dj, .buildSlice _ _ parts,_,_,_,none⟩=>!(a == dj) && !(di == dj) && parts.toList.all (fun q=>match q.2 with | .tmp b=>!(b == di) | _=>true)
   && Region.ready .any ops listed == [i,j] && Region.ready .any ops (listed.setIfInBounds i true) == [j] && Region.ready .any ops (listed.setIfInBounds j true) == [i]
   && (listed.setIfInBounds i true).setIfInBounds j true == (listed.setIfInBounds j true).setIfInBounds i true
  | _=>false)
 | _=>false
def slotB (w0:List (Nat×OB)) (s:St):Op→Bool
 | .extract _ _=>true
 | .move _=>true
 | .assign _=>true
 | .fieldAddr _ _ _=>true
 | .load _ x=>(match g s x with
  | .fp _ _=>true
  | .und=>true
  | .op b _=>w0.any fun p=>p.1 == b
  | _=>false)
 | .call ⟨.builtin .len,xs,_⟩=>(match xs.toList with
  | [x]=>(match g s x with
   | .str _=>true
   | .lst _ _=>true
   | .und=>true
   | _=>false)
  | _=>false)
 | .binOp _ _ _ _ _=>true
 | .unOp _ _ _=>true
 | .pick _ _ _=>true
 | _=>false
def quickB (w0:List (Nat×OB)) (ops:Array Oper) (listed:Array Bool) (s:St) (i:Nat):Bool :=
 (match ops.toList[i]? with | some o=>slotB w0 s o.op | none=>false) && Region.free .any ops listed i && (Region.ready .any ops listed).contains i
def guardE (ops:Array Oper) (s:St) (o:Oper) (go skip:St→Option R):Option R :=
 match o.guard with
 | none=>go s
 | some (j,b)=>match (ops.toList[j]?).bind (·.dst) with
  | none=>none
  | some t=>match s.sl t with
   | .bool c=>cond c
     (let s':=s.set t (.bool true); cond b (go s') (match s'.put o.dst .und with
      | some s'=>skip s'
      | none=>none))
     (let s':=s.set t (.bool false); cond b (match s'.put o.dst .und with
      | some s'=>skip s'
      | none=>none) (go s'))
   | .und=>(match s.put o.dst .und with
     | some s'=>skip s'
     | none=>none)
   | _=>none
def lateE (ops:Array Oper) (w0:List (Nat×OB)):Nat→List Nat→Array Bool→St→(St→Option R)→Option R
 | _,[],listed,s,K=>cond (chk (Region.ready .any ops listed == [])) (K ⟨s.n,s.np,s.nw,s.sl,w0++s.ow⟩) none
 | 0,_::_,_,_,_=>none
 | n+1,i::late,listed,s,K =>
  cond (chk (Region.ready .any ops listed == [i])) (match ops.toList[i]? with
   | none=>none
   | some o=>cond (w0.all fun p=>!(p.1 == o.dst.getD 900000) && !(p.1 / 1000 == o.dst.getD 900000+1) && Nat.blt p.1 SB) (guardE ops s o
     (fun s=>cond (slotB w0 s o.op) (evPure C ⟨s.n,s.np,s.nw,s.sl,w0⟩ o.op fun d=>match s.put o.dst d with
      | some s'=>lateE ops w0 n late (listed.setIfInBounds i true) s' K
      | none=>none)
      (stepN C s o fun s'=>cond (s'.ow.all fun q=>w0.all fun p=>!(p.1 == q.1)) (lateE ops w0 n late (listed.setIfInBounds i true) s' K) none))
     (fun s'=>lateE ops w0 n late (listed.setIfInBounds i true) s' K)) none)
   (match (i::late).find? (quickB w0 ops listed s) with
   | some k=>(match ops.toList[k]? with
    | none=>none
    | some o=>guardE ops s o
     (fun s=>evPure C ⟨s.n,s.np,s.nw,s.sl,w0⟩ o.op fun d=>match s.put o.dst d with
      | some s'=>lateE ops w0 n ((i::late).erase k) (listed.setIfInBounds k true) s' K
      | none=>none)
     (fun s'=>lateE ops w0 n ((i::late).erase k) (listed.setIfInBounds k true) s' K))
   | none=>match late,n with
    | j::late,n+1=>cond (chk (diam ops listed i j)) (match ops.toList[i]? with
     | none=>none
     | some o=>match ops.toList[j]? with
      | none=>none
      | some o'=>cond (w0.all fun p=>!(p.1 == o'.dst.getD 900000) && !(p.1 / 1000 == o'.dst.getD 900000+1) && Nat.blt p.1 SB) (cond (preE C s o.op) (stepN C s o fun s=>stepN C s o' fun s'=>cond (s'.ow.all fun q=>w0.all fun p=>!(p.1 == q.1)) (lateE ops w0 n late ((listed.setIfInBounds i true).setIfInBounds j true) s' K) none) none) none) none
    | _,_=>none)
def hidden (w0:List (Nat×OB)):Bool:=w0.all fun p=>match p.2 with
 | .cells _ ds=>ds.all fun d=>d.plain || (match d with
  | .own t=>w0.any fun q=>q.1 == t
  | .op t _=>w0.any fun q=>q.1 == t
  | _=>false)
 | .rows _ _ _=>true
 | .nodes _ _ _ _ _=>false
 | .nodesR _ _=>true
 | .mp _=>true
 | .sit _ _=>true
def evHeld (s:St) (ops:Array Oper) (k:St→Option R):Option R :=
 cond (chk (Region.noSelect ops)) (earlyE C ops ops.toList 0 (Array.replicate ops.size false) [] s fun listed late s' =>
  cond (hidden (s'.ow.filter fun p=>!(p.1 == NT))) (lateE C ops (s'.ow.filter fun p=>!(p.1 == NT)) late.length late listed ⟨s'.n,s'.np,s'.nw,s'.sl,s'.ow.filter fun p=>p.1 == NT⟩ k) none) none
def fpr0 (s:St) (o:Op):List Nat :=
 let own:=fun x=>(match g s x with
  | .own t=>[t]
  | .na _=>[NT]
  | .nas _ _ _ _=>[NT]
  | _=>[])
 match o with
 | .load _ x=>(match g s x with
  | .op t _=>[t]
  | .oe t _ _ _=>[t]
  | .nf _ _=>[NT,NTR]
  | .nae _ _ _ _=>[NT]
  | _=>[])
 | .indexAddr _ x _=>own x
 | .slice _ x _ _ _=>own x
 | .convert _ _ x=>own x
 | .lookup _ x _ _=>own x
 | .binOp _ _ x _ _=>own x
 | .call c=>c.args.toList.flatMap own
 | .build _ parts=>parts.toList.flatMap fun q=>own q.2
 | _=>[]
def fpr (s:St) (o:Op):List Nat:=fpr0 s o++(fpr0 s o).flatMap fun t=>(match s.look t with
 | some (.cells _ ds)=>ds.flatMap fun d=>(match d with
  | .own t'=>[t']
  | .op t' _=>[t']
  | _=>[])
 | _=>[])
def freeB (s:St):Op→Bool
 | .slice _ x _ _ .none=>(match g s x with
  | .na _=>true
  | _=>false)
 | .call ⟨.builtin .len,xs,_⟩=>(match xs.toList with
  | [x]=>(match g s x with
   | .na _=>true
   | _=>false)
  | _=>false)
 | _=>false
def hidN (w0:List (Nat×OB)):Bool:=w0.all fun p=>match p.2 with
 | .cells _ ds=>ds.all fun d=>d.plain || (match d with
  | .own t=>w0.any fun q=>q.1 == t
  | .op t _=>w0.any fun q=>q.1 == t
  | .opb t _=>w0.any fun q=>q.1 == t
  | _=>false)
 | _=>true
def othB (ow:List (Nat×OB)) (dt t:Nat):Bool:=!(t == dt) && !(t / 1000 == dt+1) && (Nat.blt t SB || (ow.all (fun q=>!(q.1 == (t - SB) / 64)) && !((t - SB) / 64 / 1000 == dt+1)))
def fireB (ops:Array Oper) (listed:Array Bool) (i:Nat):Bool:=Region.free .any ops listed i && (Region.ready .any ops listed).contains i
def appNT (s:St) (o:Op):Bool :=
 match o with
 | .call c=>(match c.callee with
  | .builtin .append=>(match c.args.toList with
   | [_,y]=>(match g s y with
    | .na _=>true
    | .nas _ _ _ _=>true
    | _=>false)
   | _=>false)
  | _=>false)
 | _=>false
def stepA (sy s:St) (o:Oper) (k:St→Option R):Option R :=
 match o.op with
 | .call c=>(match c.callee with
  | .builtin .append=>(match c.args.toList with
   | [x,y]=>(match c.argTypes.toList with
    | [S,X]=>(match ti C X with
     | some ⟨.str,_,_,_,_,_⟩=>none
     | _=>cond (Nat.ble (s.np % 1000) (o.dst.getD 900000)) (evAppend C sy s (o.dst.getD 900000) x y S X fun d s'=>match s'.put o.dst d with
      | some s''=>k s''
      | none=>none) none)
    | _=>none)
   | _=>none)
  | _=>none)
 | _=>none
def stepM (sy s:St) (o:Oper) (k:St→Option R):Option R:=cond (appNT sy o.op) (stepA C sy s o k) (stepN C s o k)
def quietC (o:Op):Bool :=
 match o with
 | .call ⟨.value (.func f),_,_⟩=>(match C.fns f with
  | some ent=>ent.pout.all (fun q=>q.2.scalar) && ent.pin.all fun q=>(match q.2 with | .own _ _=>false | .blk _ _=>false | .ns _ _ _=>false | _=>true)
  | none=>false)
 | _=>false
def evMix (ops:Array Oper):List (Bool×Nat)→Array Bool→List (Nat×List Nat)→St→(St→Option R)→Option R
 | [],listed,_,s,K=>cond (chk (Region.ready .any ops listed == [])) (K s) none
 | (true,i)::sch,listed,T,s,K=>cond (chk (fireB ops listed i)) (match ops.toList[i]? with
  | none=>none
  | some o=>guardE ops s o
   (fun s=>cond (isPure o.op) (evPure C ⟨s.n,s.np,s.nw,s.sl,s.ow.filter fun p=>(fpr s o.op).contains p.1⟩ o.op fun d=>match s.put o.dst d with
    | some s'=>evMix ops sch (listed.setIfInBounds i true) (cond (freeB s o.op && !(sch.any fun q=>!q.1 && Go.Proofs.YtkmigbicabfodaaGreat.K.waitsB .any ops q.2 i)) ((i,[])::T) ((i,fpr s o.op++(T.filter fun q=>Go.Proofs.YtkmigbicabfodaaGreat.K.waitsB .any ops i q.1).flatMap (·.2))::T.filter fun q=>!(Go.Proofs.YtkmigbicabfodaaGreat.K.waitsB .any ops i q.1))) s' K
    | none=>none) none)
   (fun s'=>evMix ops sch (listed.setIfInBounds i true) T s' K)) none
 | (false,i)::sch,listed,T,s,K=>cond (chk (Region.ready .any ops listed == [i])) (match ops.toList[i]? with
  | none=>none
  | some o=>guardE ops s o
   (fun s=>let T':=T.filter fun q=>!(Go.Proofs.YtkmigbicabfodaaGreat.K.waitsB .any ops i q.1)
    let pd:=T'.flatMap (·.2)
    cond (quietC C o.op && !(pd.isEmpty)) (evOpQ C s o.op fun d=>match s.put o.dst d with
     | some s'=>evMix ops sch (listed.setIfInBounds i true) T' s' K
     | none=>none)
    (cond (hidN (s.ow.filter fun p=>pd.contains p.1) && (s.ow.filter fun p=>pd.contains p.1).all (fun p=>othB (s.ow.filter fun p=>!(pd.contains p.1)) (o.dst.getD 900000) p.1))
     (stepM C s ⟨s.n,s.np,s.nw && !(pd.contains NT),s.sl,s.ow.filter fun p=>!(pd.contains p.1)⟩ o fun s' =>
      cond (s'.ow.all fun q=>!(pd.contains q.1)) (evMix ops sch (listed.setIfInBounds i true) T' ⟨s'.n,s'.np,s.nw,s'.sl,(s.ow.filter fun p=>pd.contains p.1)++s'.ow⟩ K) none) none))
   (fun s'=>evMix ops sch (listed.setIfInBounds i true) (T.filter fun q=>!(Go.Proofs.YtkmigbicabfodaaGreat.K.waitsB .any ops i q.1)) s' K)) none
open Classical in
noncomputable def both {R:Type} (a b:Option R):Option R:=if a=b then a else none
def mixE (ops:Array Oper) (i:Nat) (T:List (Nat×List Nat)) (s:St) (Q:List (Nat×List Nat)→St→Option R):Option R :=
 match ops.toList[i]? with
  | none=>none
  | some o=>guardE ops s o
   (fun s=>cond (isPure o.op) (evPure C ⟨s.n,s.np,s.nw,s.sl,s.ow.filter fun p=>(fpr s o.op).contains p.1⟩ o.op fun d=>match s.put o.dst d with
    | some s'=>Q ((i,fpr s o.op++(T.filter fun q=>Go.Proofs.YtkmigbicabfodaaGreat.K.waitsB .any ops i q.1).flatMap (·.2))::T.filter fun q=>!(Go.Proofs.YtkmigbicabfodaaGreat.K.waitsB .any ops i q.1)) s'
    | none=>none) none)
   (fun s'=>Q T s')
def mixL (ops:Array Oper) (i:Nat) (T:List (Nat×List Nat)) (s:St) (Q:List (Nat×List Nat)→St→Option R):Option R :=
 match ops.toList[i]? with
  | none=>none
  | some o=>guardE ops s o
   (fun s=>let T':=T.filter fun q=>!(Go.Proofs.YtkmigbicabfodaaGreat.K.waitsB .any ops i q.1)
    let pd:=T'.flatMap (·.2)
    cond (hidN (s.ow.filter fun p=>pd.contains p.1) && (s.ow.filter fun p=>pd.contains p.1).all (fun p=>othB (s.ow.filter fun p=>!(pd.contains p.1)) (o.dst.getD 900000) p.1))
     (stepM C s ⟨s.n,s.np,s.nw && !(pd.contains NT),s.sl,s.ow.filter fun p=>!(pd.contains p.1)⟩ o fun s' =>
      cond (s'.ow.all fun q=>!(pd.contains q.1)) (Q T' ⟨s'.n,s'.np,s.nw,s'.sl,(s.ow.filter fun p=>pd.contains p.1)++s'.ow⟩) none) none)
   (fun s'=>Q (T.filter fun q=>!(Go.Proofs.YtkmigbicabfodaaGreat.K.waitsB .any ops i q.1)) s')
structure TPr where
 ia:Nat
 ib:Nat
 t:Nat
 T:TypeId
 z:List D
 l:List D
def cellP:D→Option (List D)
 | .agg l=>cond (l.all D.plain) (some l) none
 | d=>cond d.plain (some [d]) none
def tailPairs:List (Bool×Nat)→List (Nat×Nat)
 | (_,i)::(_,j)::r=>(i,j)::tailPairs r
 | _=>[]
def tailTs (ops:Array Oper) (l:List (Nat×Nat)):List Nat:=l.filterMap fun q=>(ops.toList[q.1]?).bind (·.dst)
def dpurge (d:D):List Nat→D
 | []=>d
 | t::ts=>dpurge (d.purge t) ts
def mkTPr (C:Cx) (ops:Array Oper) (ts:List Nat) (s:St) (q:Nat×Nat):Option TPr :=
 match ops.toList[q.1]? with
 | some a=>(match ops.toList[q.2]? with
  | some b=>(match a.op with
   | .alloc T=>(match b.op with
    | .store T' (.tmp u) x=>(match a.dst with
     | some t=>(match ti C T with
      | some tt=>(match cellP (g s x) with
       | some l=>cond (a.guard.isNone && b.guard.isNone && b.dst.isNone && T' == T && u == t && Nat.blt t s.n && Nat.ble (s.np % 1000) t && l.length == tt.size && tt.zv.cells.toList.length == tt.size && (tt.zv.cells.toList.map ofVal).all D.plain && (match x with
        | .tmp v=>!(ts.contains v)
        | .const _=>true
        | _=>false)) (some ⟨q.1,q.2,t,T,tt.zv.cells.toList.map ofVal,l⟩) none
       | none=>none)
      | none=>none)
     | none=>none)
    | _=>none)
   | _=>none)
  | none=>none)
 | none=>none
def tailB (ops:Array Oper) (prs:List TPr):Nat→Array Bool→Bool
 | 0,L=>Region.ready .any ops L == [] && prs.all fun p=>L[p.ia]? == some true && L[p.ib]? == some true
 | n+1,L=>cond (Region.ready .any ops L == []) (prs.all fun p=>L[p.ia]? == some true && L[p.ib]? == some true)
   ((Region.ready .any ops L).all fun q=>(prs.any fun p=>(q == p.ia && L[p.ia]? == some false && L[p.ib]? == some false) || (q == p.ib && L[p.ia]? == some true && L[p.ib]? == some false)) && tailB ops prs n (L.setIfInBounds q true))
def tailO (ts:List Nat) (ow:List (Nat×OB)):Bool:=ow.all fun p=>!(ts.contains p.1) && (match p.2 with
 | .cells _ ds=>ds.all fun d=>d.plain || (match d with
  | .own t=>!(ts.contains t)
  | .op t _=>!(ts.contains t)
  | .opb t _=>!(ts.contains t)
  | _=>false)
 | _=>true)
def tailF (ts:List Nat) (prs:List TPr) (s:St):St:=⟨s.n,s.np,s.nw,fun u=>cond (ts.contains u) (.op u 0) (s.sl u),prs.map (fun p=>(p.t, .cells p.T p.l))++s.ow⟩
def evTail {R:Type} (C:Cx) (ops:Array Oper) (n:Nat) (sch:List (Bool×Nat)) (listed:Array Bool) (T:List (Nat×List Nat)) (s:St) (K:St→Option R):Option R :=
 let ps:=tailPairs sch
 let ts:=tailTs ops ps
 let s0:St:=⟨s.n,s.np,s.nw,fun u=>dpurge (s.sl u) ts,s.ow⟩
 match ps.mapM (mkTPr C ops ts s0) with
 | some prs=>cond (nodupB ts && tailO ts s.ow && T.all (fun q=>q.2.isEmpty)) (cond (chk (tailB ops prs n listed && nodupB (prs.flatMap fun p=>[p.ia,p.ib]) && (prs.map (·.t) == ts) && prs.all (fun p=>listed[p.ia]? == some false && listed[p.ib]? == some false))) (K (tailF ts prs s0)) none) none
 | none=>none
noncomputable def evMixB (ops:Array Oper):Nat→List (Bool×Nat)→Array Bool→List (Nat×List Nat)→St→(St→Option R)→Option R
 | _,[],listed,_,s,K=>cond (chk (Region.ready .any ops listed == [])) (K s) none
 | 0,_::_,_,_,_,_=>none
 | n+1,(true,i)::sch,listed,T,s,K=>cond (chk (fireB ops listed i)) (mixE C ops i T s fun T s=>evMixB ops n sch (listed.setIfInBounds i true) T s K) none
 | n+1,(false,i)::sch,listed,T,s,K=>cond (Nat.blt i 1000000)
   (cond (chk (Region.ready .any ops listed == [i])) (mixL C ops i T s fun T s=>evMixB ops n sch (listed.setIfInBounds i true) T s K) none)
   (match sch.drop (i / 1000000 - 1) with
   | (false,j)::u=>cond (chk (Region.ready .any ops listed == [i % 1000000,j] || Region.ready .any ops listed == [j,i % 1000000]))
     (both (mixL C ops (i % 1000000) T s fun T s=>evMixB ops n (sch.take (i / 1000000 - 1)) (listed.setIfInBounds (i % 1000000) true) T s K)
      (mixL C ops j T s fun T s=>evMixB ops n u (listed.setIfInBounds j true) T s K)) none
   | _=>evTail C ops (n+1) sch listed T s K)
def quietB (o:Oper):Bool :=
 match o.op with
 | .call ⟨.value (.func f),_,_⟩=>(match C.fns f with
  | some ent=>ent.pout.all (fun q=>q.2.scalar) && ent.pin.all fun q=>(match q.2 with | .own _ _=>false | .blk _ _=>false | .ns _ _ _=>false | _=>true)
  | none=>true)
 | .convert _ T _=>(match ti C T with
  | some ⟨.slice _,_,_,_,_,_⟩=>false
  | _=>true)
 | o=>isPure o
def capTs (s:St) (f:FuncId) (j:Nat):List Operand→List Nat
 | []=>[]
 | x::xs=>match g s x with
  | .op t 0=>(match C.fns f with
   | some ent=>(match ent.pin.find? (fun q=>q.1 == j) with
    | some (_,Kd.fp _)=>t::capTs s f (j+1) xs
    | _=>capTs s f (j+1) xs)
   | none=>capTs s f (j+1) xs)
  | _=>capTs s f (j+1) xs
def capOps (np:FuncId→Nat) (s:St):List Oper→List Nat
 | []=>[]
 | o::os=>match o.op with
  | .makeFunc (.func f) _ cs=>capTs C s f (np f) cs.toList++capOps np s os
  | _=>capOps np s os
def dedup:List Nat→List Nat
 | []=>[]
 | t::ts=>cond (ts.any (· == t)) (dedup ts) (t::dedup ts)
def capS (s:St) (ops:Array Oper):Option St:=freezeAll s (dedup (capOps C (fun f=>match C.fns f with
 | some ent=>(realK ent.pin).length - (ops.toList.foldl (fun n o=>match o.op with | .makeFunc (.func f') _ cs=>cond (f' == f) cs.size n | _=>n) 0)
 | none=>0) s ops.toList))
def outS (n np:Nat) (nw:Bool):(xs:List (Xt×Pt))→SumT (xs.map (·.2))→Xt×St
 | [],x=>x.elim
 | [p],x=>(p.1,mkP n np nw p.2 x)
 | p::q::ps,x=>match x with
  | .inl y=>(p.1,mkP n np nw p.2 y)
  | .inr y=>outS n np nw (q::ps) y
def selim {α β γ:Type} (f:α→γ) (h:β→γ):α ⊕ β→γ
 | .inl a=>f a
 | .inr b=>h b
def outK {R:Type} (n np:Nat) (nw:Bool) (k:Xt→St→Option R):(xs:List (Xt×Pt))→SumT (xs.map (·.2))→Option R
 | [],_=>none
 | [p],x=>k p.1 (mkP n np nw p.2 x)
 | p::q::ps,x=>selim (fun y=>k p.1 (mkP n np nw p.2 y)) (fun y=>outK n np nw k (q::ps) y) x
def BK:Nat:=1000000
noncomputable def evC0 (L:Nat→Option LEnt) (G:Code→Nat→Nat→St→(Xt→St→Option R)→Option R):Code→Nat→St→(Xt→St→Option R)→Option R
 | .skip,_,s,k=>k .nm s
 | .region id ops drawn,_,s,k=>(match capS C s ops with
  | none=>none
  | some s=>cond drawn (cond (ops.toList.all (quietB C)) (cond (chk (Region.lexB .any ops)) (evOps (stepQ C) ops.toList ops.toList s fun s'=>k .nm s') none) (match C.sch id with
   | none=>evHeld C s ops fun s'=>k .nm s'
   | some sch=>cond (sch.any fun q=>Nat.ble 1000000 q.2) (cond (chk (Region.noSelect ops)) (evMixB C ops ops.size sch (Array.replicate ops.size false) [] s fun s'=>k .nm s') none)
    (cond (chk (Region.noSelect ops && Nat.ble sch.length ops.size)) (evMix C ops sch (Array.replicate ops.size false) [] s fun s'=>k .nm s') none))) (evOps (stepN C) ops.toList ops.toList s fun s'=>k .nm s'))
 | .seq a b,i,s,k=>evC0 L G a i s fun e s'=>match e with
  | .nm=>evC0 L G b i s' k
  | e=>k e s'
 | .cond x a b,i,s,k=>(match x with
  | .tmp t=>(match s.sl t with
   | .bool c=>cond c (evC0 L G a i (s.set t (.bool true)) k) (evC0 L G b i (s.set t (.bool false)) k)
   | _=>none)
  | .const (.bool c)=>cond c (evC0 L G a i s k) (evC0 L G b i s k)
  | _=>none)
 | .block id c,_,s,k=>(match L (BK+id) with
  | some le=>(match unD s le.pin with
   | none=>none
   | some x=>(le.m x).bind fun y=>outK s.n s.np s.nw k le.exits y)
  | none=>evC0 L G c id s fun e s'=>match e with
   | .ex j=>cond (j == id) (k .nm s') (k (.ex j) s')
   | e=>k e s')
 | .loop _,i,s,k=>(match L i with
  | none=>none
  | some le=>match unD s le.pin with
   | none=>none
   | some x=>(le.m x).bind fun y=>outK s.n s.np s.nw k le.exits y)
 | .scope c,i,s,k=>evC0 L G c i s fun e s'=>match e with
  | .gt l=>G c l i s' k
  | e=>k e s'
 | .goto l,_,s,k=>k (.gt l) s
 | .label _,_,s,k=>k .nm s
 | .exit id,_,s,k=>k (.ex id) s
 | .ret,_,s,k=>k .rt s
 | _,_,_,_=>none
noncomputable def evG (L:Nat→Option LEnt):Nat→Code→Nat→Nat→St→(Xt→St→Option R)→Option R
 | 0,_,_,_,_,_=>none
 | n+1,c,l,i,s,k=>match findLabel c l with
  | some rest=>evC0 C L (evG L n) rest i s fun e s'=>match e with
   | .gt l'=>evG L n c l' i s' k
   | e=>k e s'
  | none=>k (.gt l) s
noncomputable def evC (L:Nat→Option LEnt):Code→Nat→St→(Xt→St→Option R)→Option R:=evC0 C L (evG C L 8)
inductive Stp (X B:Type) | nx (x:X) | out (b:B)
def decOut (e:Xt) (s:St):(xs:List (Xt×Pt))→Option (SumT (xs.map (·.2)))
 | []=>none
 | [p]=>cond (decide (p.1=e)) (unD s p.2) none
 | p::q::ps=>cond (decide (p.1=e)) (match unD s p.2 with
  | some x=>some (.inl x)
  | none=>(match decOut e s (q::ps) with
   | some x=>some (.inr x)
   | none=>none)) (match decOut e s (q::ps) with
  | some x=>some (.inr x)
  | none=>none)
def decRound (pin:Pt) (exits:List (Xt×Pt)) (e:Xt) (s:St):Option (Stp (Tup pin) (SumT (exits.map (·.2)))) :=
 match e with
 | .nm=>(match unD s pin with
  | some x=>some (.nx x)
  | none=>none)
 | e=>(match decOut e s exits with
  | some b=>some (.out b)
  | none=>none)
noncomputable def evRound (L:Nat→Option LEnt) (c:Code) (n np:Nat) (nw:Bool) (pin:Pt) (exits:List (Xt×Pt)) (x:Tup pin):Option (Stp (Tup pin) (SumT (exits.map (·.2)))) :=
 evC C L c 0 (mkP n np nw pin x) (decRound pin exits)
def resV (s:St):List ResultVar→Option (St×List D)
 | []=>some (s,[])
 | .tmp t::rs=>(match resV s rs with
  | some (s',ds)=>some (s',s'.sl t::ds)
  | none=>none)
 | .cell t T::rs=>(match s.sl t with
  | .op b off=>(match s.look b with
   | some (.cells _ ds)=>(match freezeAll s (ownTags ds) with
    | some s1=>(match ti C T with
     | some i=>(match s1.look b with
      | some (.cells _ ds)=>rdCells ds off i fun d=>match resV s1 rs with
       | some (s',ds)=>some (s',d::ds)
       | none=>none
      | _=>none)
     | none=>none)
    | none=>none)
   | _=>none)
  | _=>none)
def frzB (s:St) (t:Nat):Option St :=
 match s.look t with
 | some (.cells _ ds)=>(match freezeAll s (ownTags ds) with
  | some s1=>(match s1.look t with
   | some (.cells _ ds1)=>cond (ds1.all D.plain) (some (s1.freeze t (.fp ds1 0))) none
   | _=>none)
  | none=>none)
 | _=>none
def preFrz (s:St):List ResultVar→List (Nat×Kd)→Option St
 | .tmp t::rs,(_, .fp _)::ks=>(match s.sl t with
  | .op b 0=>(match frzB s b with
   | some s'=>preFrz s' rs ks
   | none=>none)
  | _=>preFrz s rs ks)
 | .tmp t::rs,(_, .lst _)::ks=>(match s.sl t with
  | .own b=>(match freezeAll s [b] with
   | some s'=>preFrz s' rs ks
   | none=>none)
  | _=>preFrz s rs ks)
 | _::rs,_::ks=>preFrz s rs ks
 | _,_=>some s
def ioD (s:St) (i:Nat):D :=
 match s.look i with
 | some (.rows _ _ _) => .own i
 | some (.cells _ _) => .op i 0
 | some (.mp _) => .own i
 | _ => .u
def Kd.isRef:Kd→Bool
 | .own _ _=>true | .blk _ _=>true | .mp=>true | .blkx _ _=>true
 | _=>false
def endSt (s:St) (ds:List D):St:=⟨0,0,s.nw,fun k=>cond (Nat.blt k 1000) (ds.getD k .u) (cond (k == NT || Nat.ble SB k) .u (ioD s (k - 1000))),s.ow⟩
def decRes (ent:Ent) (fn:Func) (e:Xt) (s:St):Option (Tup ent.pout) :=
 cond (match e with | .rt=>true | .nm=>fn.results.isEmpty | _=>false)
  (match preFrz s fn.results.toList ent.pout with
  | some s=>match resV C s fn.results.toList with
   | some (s',ds)=>cond (realK ent.pout == List.range ds.length && ent.pout.all (fun q=>Nat.blt q.1 1000 || q.1 == NT || Nat.ble SB q.1 || (Nat.blt q.1 (1000+ent.np % 1000) && Nat.ble (1000+ent.np / 1000) q.1 && q.2.isRef))) (unD (endSt s' ds) ent.pout) none
   | none=>none
  | none=>none) none
noncomputable def evF (L:Nat→Option LEnt) (fn:Func) (c:Code) (ent:Ent) (x:Tup ent.pin):Option (Tup ent.pout) :=
 evC C L c 0 (mkP fn.ntmps ent.np (hasNT ent.pout) ent.pin x) (decRes C ent fn)
end
inductive LoopTo {X B:Type} (body:X→Option (Stp X B)):X→B→Prop
 | out {x:X} {b:B}:body x=some (.out b)→LoopTo body x b
 | nx {x y:X} {b:B}:body x=some (.nx y)→LoopTo body y b→LoopTo body x b
open Classical in
noncomputable def loopO {X B:Type} (body:X→Option (Stp X B)) (x:X):Option B:=if h:∃ b,LoopTo body x b then some h.choose else none
theorem LoopTo.unique {X B:Type} {body:X→Option (Stp X B)} {x:X} {b b':B} (h:LoopTo body x b) (h':LoopTo body x b'):b=b':=by
 induction h with
 | out h1 =>
  cases h' with
  | out h2=>rw [h1] at h2; cases h2; rfl
  | nx h2 _=>rw [h1] at h2; cases h2
 | nx h1 _ ih =>
  cases h' with
  | out h2=>rw [h1] at h2; cases h2
  | nx h2 h3=>rw [h1] at h2; cases h2; exact ih h3
theorem loopO_iff {X B:Type} {body:X→Option (Stp X B)} {x:X} {b:B}:loopO body x=some b↔LoopTo body x b:=by
 unfold loopO
 constructor
 ·intro h
  split at h
  ·rename_i hh
   cases h
   exact hh.choose_spec
  ·cases h
 ·intro h
  have hh:∃ b,LoopTo body x b:=⟨b,h⟩
  rw [dif_pos hh]
  exact congrArg some (hh.choose_spec.unique h)
theorem loopO_nx {X B:Type} {body:X→Option (Stp X B)} {x y:X} (h:body x=some (.nx y)):loopO body x=loopO body y:=by
 cases hy:loopO body y with
 | some b=>exact loopO_iff.2 (.nx h (loopO_iff.1 hy))
 | none =>
  cases hx:loopO body x with
  | none=>rfl
  | some b =>
   have:=loopO_iff.1 hx
   cases this with
   | out h2=>rw [h] at h2; cases h2
   | nx h2 h3=>rw [h] at h2; cases h2; rw [loopO_iff.2 h3] at hy; cases hy
theorem loopO_out {X B:Type} {body:X→Option (Stp X B)} {x:X} {b:B} (h:body x=some (.out b)):loopO body x=some b:=loopO_iff.2 (.out h)
end Go.Proofs.YtkmigbicabfodaaGreat.V
namespace Go.Proofs.YtkmigbicabfodaaGreat.V
open Go K
structure Frz where
 m:Nat→Option Obj
 nid:Nat→Option Nat
 lv:Nat→Prop
 inj:∀ i j b,nid i=some b→nid j=some b→i=j
 nlt:∀ i b,nid i=some b→lv b
def Frz.le (F F':Frz):Prop:=(∀ b o,F.m b=some o→F'.m b=some o)∧(∀ i b,F.nid i=some b→F'.nid i=some b)∧∀ b,F.lv b→F'.lv b
theorem Frz.le.refl (F:Frz):F.le F:=⟨fun _ _ h=>h,fun _ _ h=>h,fun _ h=>h⟩
theorem Frz.le.trans {F F' F'':Frz} (h:F.le F') (h':F'.le F''):F.le F'':=⟨fun b o hb=>h'.1 b o (h.1 b o hb),fun b o hb=>h'.2.1 b o (h.2.1 b o hb),fun b hb=>h'.2.2 b (h.2.2 b hb)⟩
def cellF (F:Frz) (a:Addr):Option Value :=
 match F.m a.block with
 | some (.cells c _ _)=>if a.spot.isSome then none else c[a.off]?
 | _=>none
def cellsF (F:Frz) (B:Nat):Nat→List Value→Prop
 | _,[]=>True
 | off,c::cs=>cellF F ⟨B,off,none⟩=some c∧cellsF F B (off+1) cs
theorem cellF.mono {F F':Frz} (h:F.le F') {a:Addr} {v:Value} (hc:cellF F a=some v):cellF F' a=some v:=by
 unfold cellF at *
 cases hb:F.m a.block with
 | none=>rw [hb] at hc; cases hc
 | some o=>rw [h.1 _ _ hb]; rw [hb] at hc; exact hc
theorem cellsF.mono {F F':Frz} (h:F.le F') {B:Nat}:∀ {cs:List Value} {off:Nat},cellsF F B off cs→cellsF F' B off cs
 | [],_,_=>trivial
 | _::_,_,⟨h1,h2⟩=>⟨cellF.mono h h1,cellsF.mono h h2⟩
def pairsO:List Value→Nat→List MapEntry
 | k::v::r,i=>{ key:=k,val:=v,born:=i }::pairsO r (i+1)
 | _,_=>[]
def mapO (cs:List Value):Obj := .map (pairsO cs 0).toArray (cs.length / 2)
def sitO:List Value→Obj
 | [.string s, .int _ n] => .stringIter s n.toNat
 | _ => .stringIter .empty 0
def isB (o:Option Obj):Blk→Prop
 | (_,cs, .c T)=>∃ fz,fzok fz cs.length∧o=some (.cells cs.toArray T fz)
 | (_,cs, .map)=>o=some (mapO cs)
 | (_,cs, .sit)=>o=some (sitO cs)
theorem isB.some {o:Option Obj} {p:Blk} (h:isB o p):∃ x,o=some x:=by
 obtain ⟨b,cs,T⟩:=p
 cases T with
 | c T=>obtain ⟨fz,_,h⟩:=h; exact ⟨_,h⟩
 | map=>exact ⟨_,h⟩
 | sit=>exact ⟨_,h⟩
theorem isB.cells {o:Option Obj} {b:Nat} {cs:List Value} {T:TypeId} (h:isB o (b,cs,T)):∃ fz,fzok fz cs.length∧o=Option.some (.cells cs.toArray T fz):=h
theorem isB.mk {o:Option Obj} {b:Nat} {cs:List Value} {T:TypeId} (h:o=Option.some (.cells cs.toArray T (0,0))):isB o (b,cs,T):=⟨(0,0),fzok0 _,h⟩
structure Hp (h:Array Obj) (F:Frz) (L:List Blk):Prop where
 frz:∀ b o,F.m b=some o→h[b]?=some o
 own:∀ p∈L,isB h[p.1]? p
 sep:∀ p∈L,F.m p.1=none
 nodup:(L.map (·.1)).Nodup
 live:∀ b,F.lv b→∃ cs T,h[b]?=some (.cells cs T (0,0))∧T≠uT
 gl:Gl F.m
section
variable {h h':Array Obj} {F F':Frz} {L L' L1 L2 Lv:List Blk}
theorem isB.mono {p:Blk} (h:isB (F.m p.1) p) (hf:F.le F'):isB (F'.m p.1) p:=by
 obtain ⟨x,hx⟩:=h.some
 rw [hf.1 _ _ hx]
 rw [hx] at h
 exact h
theorem isB.frz {p:Blk} (hi:isB (F.m p.1) p) (hm:Hp h F L):isB h[p.1]? p:=by
 obtain ⟨x,hx⟩:=hi.some
 rw [hm.frz _ _ hx]
 rw [hx] at hi
 exact hi
theorem Hp.cell (hm:Hp h F L) {a:Addr} {v:Value} (hc:cellF F a=some v):K.cell h a=some v:=by
 unfold cellF at hc
 unfold K.cell
 cases hb:F.m a.block with
 | none=>rw [hb] at hc; cases hc
 | some o=>rw [hm.frz _ _ hb]; rw [hb] at hc; exact hc
theorem Hp.cells (hm:Hp h F L) {B:Nat}:∀ {cs:List Value} {off:Nat},cellsF F B off cs→cellsFrom h B off cs
 | [],_,_=>trivial
 | _::_,_,⟨h1,h2⟩=>⟨hm.cell h1,hm.cells h2⟩
theorem Hp.lt (hm:Hp h F L) {p:Blk} (hp:p∈L):p.1<h.size:=by
 obtain ⟨x,hx⟩:=(hm.own p hp).some
 exact (Array.getElem?_eq_some_iff.1 hx).1
theorem Hp.flt (hm:Hp h F L) {b:Nat} {o:Obj} (hb:F.m b=some o):b<h.size:=(Array.getElem?_eq_some_iff.1 (hm.frz b o hb)).1
theorem Hp.sub (hm:Hp h F L) (hs:L'.Sublist L):Hp h F L':=⟨hm.frz,fun p hp=>hm.own p (hs.subset hp),fun p hp=>hm.sep p (hs.subset hp),hm.nodup.sublist (hs.map _),hm.live,hm.gl⟩
theorem Hp.perm (hm:Hp h F L) (hp:L'.Perm L):Hp h F L':=⟨hm.frz,fun p hq=>hm.own p (hp.mem_iff.1 hq),fun p hq=>hm.sep p (hp.mem_iff.1 hq),((hp.map _).nodup_iff).2 hm.nodup,hm.live,hm.gl⟩
theorem Hp.weaken (hm:Hp h F' L) (hf:F.le F') (hg:Gl F.m):Hp h F L:=⟨fun b o hb=>hm.frz b o (hf.1 b o hb),hm.own,(fun p hp=>by
 cases hb:F.m p.1 with
 | none=>rfl
 | some o=>(have:=hm.sep p hp); rw [hf.1 _ _ hb] at this; cases this),hm.nodup,(fun b hb=>hm.live b (hf.2.2 b hb)),hg⟩
theorem Hp.pushB (hm:Hp h F L) (o:Obj) (cs:List Value) (T:BT) (ho:isB (some o) (h.size,cs,T)):Hp (h.push o) F ((h.size,cs,T)::L):=by
 refine ⟨fun b o hb=>?_,fun p hp=>?_,fun p hp=>?_,?_,fun b hb=>?_,hm.gl⟩
 ·have:=hm.flt hb
  rw [Array.getElem?_push,if_neg (by omega)]
  exact hm.frz b o hb
 ·rcases List.mem_cons.1 hp with rfl | hp
  ·simpa using ho
  ·have:=hm.lt hp
   rw [Array.getElem?_push,if_neg (by omega)]
   exact hm.own p hp
 ·rcases List.mem_cons.1 hp with rfl | hp
  ·cases hb:F.m h.size with
   | none=>rfl
   | some o=>have:=hm.flt hb; omega
  ·exact hm.sep p hp
 ·rw [List.map_cons,List.nodup_cons]
  refine ⟨fun hin=>?_,hm.nodup⟩
  obtain ⟨q,hq,he⟩:=List.mem_map.1 hin
  have:=hm.lt hq
  omega
 ·obtain ⟨cs',T',h1,h3⟩:=hm.live b hb
  have h2:=(Array.getElem?_eq_some_iff.1 h1).1
  exact ⟨cs',T',by rw [Array.getElem?_push,if_neg (by omega)]; exact h1,h3⟩
theorem Hp.push (hm:Hp h F L) (cs:List Value) (T:TypeId):Hp (h.push (.cells cs.toArray T (0,0))) F ((h.size,cs,BT.c T)::L):=hm.pushB _ cs T (.mk rfl)
theorem Hp.pushed (hm:Hp h F L) (ob:Obj):Hp (h.push ob) F L:=⟨fun b o hb=>by
 have:=hm.flt hb
 rw [Array.getElem?_push,if_neg (by omega)]
 exact hm.frz b o hb,fun p hp=>by
 have:=hm.lt hp
 rw [Array.getElem?_push,if_neg (by omega)]
 exact hm.own p hp,hm.sep,hm.nodup,(fun b hb=>by
 obtain ⟨cs',T',h1,h3⟩:=hm.live b hb
 have h2:=(Array.getElem?_eq_some_iff.1 h1).1
 exact ⟨cs',T',by rw [Array.getElem?_push,if_neg (by omega)]; exact h1,h3⟩),hm.gl⟩
theorem Hp.putB (hm:Hp h F L) {j B:Nat} {cs cs':List Value} {T:BT} (hj:L[j]?=some (B,cs,T)) (ho:∀ b,b≠B→h'[b]?=h[b]?) (hb:isB h'[B]? (B,cs',T)) (hl:∀ c t,h[B]?=some (.cells c t (0,0))→∃ c,h'[B]?=some (.cells c t (0,0))):Hp h' F (L.set j (B,cs',T)):=by
 have hjl:j<L.length:=(List.getElem?_eq_some_iff.1 hj).1
 have hkeys:(L.set j (B,cs',T)).map (·.1)=L.map (·.1):=by
  rw [List.map_set]
  apply List.ext_getElem?
  intro i
  by_cases e:j=i
  ·subst e
   rw [List.getElem?_set_self (by simpa using hjl),List.getElem?_map,hj]
   rfl
  ·rw [List.getElem?_set_ne e]
 refine ⟨fun b o hbo=>?_,fun p hp=>?_,fun p hp=>?_,by rw [hkeys]; exact hm.nodup,fun b hbi=>?_,hm.gl⟩
 ·have hne:b≠B:=fun e=>by
   subst e
   have:=hm.sep _ (List.mem_of_getElem? hj)
   simp only at this
   rw [this] at hbo
   cases hbo
  rw [ho b hne]
  exact hm.frz b o hbo
 ·obtain ⟨i,hi⟩:=List.mem_iff_getElem?.1 hp
  by_cases e:j=i
  ·subst e
   rw [List.getElem?_set_self hjl] at hi
   obtain rfl:=Option.some.inj hi
   exact hb
  ·rw [List.getElem?_set_ne e] at hi
   have hne:p.1≠B:=fun he=>by
    have h1:(L.map (·.1))[i]?=some p.1:=by simp [hi]
    have h2:(L.map (·.1))[j]?=some B:=by simp [hj]
    rw [he] at h1
    obtain ⟨hi',hi''⟩:=List.getElem?_eq_some_iff.1 h1
    obtain ⟨hj',hj''⟩:=List.getElem?_eq_some_iff.1 h2
    exact e ((List.getElem_inj (h₀:=hi') (h₁:=hj') hm.nodup).1 (hi''.trans hj''.symm)).symm
   rw [ho _ hne]
   exact hm.own p (List.mem_of_getElem? hi)
 ·have:p.1∈L.map (·.1):=by rw [← hkeys]; exact List.mem_map.2 ⟨p,hp,rfl⟩
  obtain ⟨q,hq,he⟩:=List.mem_map.1 this
  rw [← he]
  exact hm.sep q hq
 ·obtain ⟨c0,T0,h1,h3⟩:=hm.live b hbi
  by_cases e:b=B
  ·subst e; obtain ⟨c,h4⟩:=hl _ _ h1; exact ⟨c,T0,h4,h3⟩
  ·exact ⟨c0,T0,by rw [ho b e]; exact h1,h3⟩
theorem Hp.put (hm:Hp h F L) {j B:Nat} {cs cs':List Value} {T:TypeId} {fz:Nat×Nat} (hj:L[j]?=some (B,cs,BT.c T)) (ho:∀ b,b≠B→h'[b]?=h[b]?) (h0:h[B]?=some (.cells cs.toArray T fz)) (hz:fzok fz cs'.length) (hb:h'[B]?=some (.cells cs'.toArray T fz)):Hp h' F (L.set j (B,cs',BT.c T)) :=
 hm.putB hj ho ⟨fz,hz,hb⟩ fun c t h1=>by
  rw [h0] at h1
  cases h1
  exact ⟨_,hb⟩
def Frz.add (F:Frz) (h:Array Obj) (L:List Blk):Frz:=⟨fun b=>match L.find? (fun p=>p.1 == b) with
 | some _=>h[b]?
 | none=>F.m b,F.nid,F.lv,F.inj,F.nlt⟩
theorem Hp.freeze (hm:Hp h F (Lv++L)):Hp h (F.add h Lv) L∧F.le (F.add h Lv):=by
 have hn:=hm.nodup
 rw [List.map_append,List.nodup_append] at hn
 refine ⟨⟨fun b o hb=>?_,fun p hp=>hm.own p (by simp [hp]),fun p hp=>?_,hn.2.1,hm.live,hm.gl.mono fun b o hb=>?_⟩,⟨fun b o hb=>?_,fun _ _ h=>h,fun _ h=>h⟩⟩
 ·simp only [Frz.add] at hb
  split at hb
  ·exact hb
  ·exact hm.frz b o hb
 ·simp only [Frz.add]
  split
  ·rename_i q hq
   have h1:=List.find?_some hq
   have h2:=List.mem_of_find?_eq_some hq
   simp at h1
   exact absurd rfl (hn.2.2 q.1 (List.mem_map.2 ⟨q,h2,rfl⟩) q.1 (by rw [h1]; exact List.mem_map.2 ⟨p,hp,rfl⟩))
  ·exact hm.sep p (by simp [hp])
 ·simp only [Frz.add]
  split
  ·exact hm.frz b o hb
  ·exact hb
 ·simp only [Frz.add]
  split
  ·exact hm.frz b o hb
  ·exact hb
theorem add_get (hm:Hp h F (Lv++L)) {p:Blk} (hp:p∈Lv):isB ((F.add h Lv).m p.1) p:=by
 simp only [Frz.add]
 cases hf:Lv.find? (fun q=>q.1 == p.1) with
 | none =>
  have:=List.find?_eq_none.1 hf p hp
  simp at this
 | some q=>exact hm.own p (by simp [hp])
def Frz.node (F:Frz) (i B:Nat) (hB:∀ j,F.nid j≠some B):Frz:=⟨F.m,fun j=>if j=i then some B else F.nid j,fun b=>b=B∨F.lv b,fun a b c h1 h2=>by
 by_cases ha:a=i <;> by_cases hb:b=i
 ·rw [ha,hb]
 ·rw [if_pos ha] at h1; rw [if_neg hb] at h2; cases h1; exact absurd h2 (hB b)
 ·rw [if_neg ha] at h1; rw [if_pos hb] at h2; cases h2; exact absurd h1 (hB a)
 ·rw [if_neg ha] at h1; rw [if_neg hb] at h2; exact F.inj a b c h1 h2,fun j b hj=>by
 by_cases e:j=i
 ·rw [if_pos e] at hj; cases hj; exact .inl rfl
 ·rw [if_neg e] at hj; exact .inr (F.nlt j b hj)⟩
theorem Frz.node_le {i B:Nat} {hB:∀ j,F.nid j≠some B} (hi:F.nid i=none):F.le (F.node i B hB):=⟨fun _ _ h=>h,fun j b hj=>by
 show (if j=i then some B else F.nid j)=some b
 by_cases e:j=i
 ·subst e; rw [hi] at hj; cases hj
 ·rw [if_neg e]; exact hj,fun _ h => .inr h⟩
theorem Hp.node {i B:Nat} {hB:∀ j,F.nid j≠some B} (hm:Hp h F L) (hb:∃ cs T,h[B]?=some (.cells cs T (0,0))∧T≠uT):Hp h (F.node i B hB) L:=⟨hm.frz,hm.own,hm.sep,hm.nodup,(fun b hl=>by
 rcases hl with rfl | hl
 ·exact hb
 ·exact hm.live b hl),hm.gl⟩
theorem Hp.fresh (hm:Hp h F L):∀ j,F.nid j≠some h.size:=fun j hj=>by
 obtain ⟨cs,T,h1,_⟩:=hm.live _ (F.nlt j _ hj)
 have:=(Array.getElem?_eq_some_iff.1 h1).1
 omega
structure Ef (P:Program) (ρ:List Value) (o:Oper) (h:Array Obj) (Q:Value→Array Obj→Prop):Prop where
 out:∀ E w,At E h w→∃ n w' h' v,(execOp (ev ρ) o).run P w = .ok n w'∧At E h' w'∧(n = .value v∨(n = .skip∧v=undef))∧Q v h'
theorem lw_ef {P:Program} {E:Env} {ops rest:List Oper} {K:List Value→Array Obj→Prop} {ρ:List Value} {o:Oper} {Q:Value→Array Obj→Prop} (hg:Region.wanted o (yielded ops.toArray (act ρ).tmps)=true) (hx:Ef P ρ o h Q) (hk:∀ v h',Q v h'→LW P E ops K rest (setD ρ o.dst v) h'):LW P E ops K (o::rest) ρ h:=by
 refine ⟨fun w hw=>?_⟩
 unfold wpList
 rw [if_pos hg]
 refine .inl ?_
 obtain ⟨n,w',h',v,hr,hA,hn,hQ⟩:=hx.out E w hw
 unfold Oper.wp
 rw [eval_mk,hr]
 rcases hn with rfl | ⟨rfl,rfl⟩
 ·rw [Oper.upon_value,put_mk]; exact (hk _ _ hQ).out w' hA
 ·rw [Oper.upon_skip,put_mk]; exact (hk _ _ hQ).out w' hA
theorem Ef.of_ex {P:Program} {ρ:List Value} {o:Oper} {v:Value} {Q:Value→Array Obj→Prop} (hx:Ex P ρ o h v h') (hQ:Q v h'):Ef P ρ o h Q :=
 ⟨fun E w hw=>by obtain ⟨n,w',h1,h2,h3⟩:=hx.out E w hw; exact ⟨n,w',h',v,h1,h2,h3,hQ⟩⟩
theorem Ef.mono {P:Program} {ρ:List Value} {o:Oper} {Q Q':Value→Array Obj→Prop} (hx:Ef P ρ o h Q) (hQ:∀ v h',Q v h'→Q' v h'):Ef P ρ o h Q' :=
 ⟨fun E w hw=>by obtain ⟨n,w',h',v,h1,h2,h3,h4⟩:=hx.out E w hw; exact ⟨n,w',h',v,h1,h2,h3,hQ _ _ h4⟩⟩
end
end Go.Proofs.YtkmigbicabfodaaGreat.V
set_option linter.unusedVariables false
set_option linter.unusedSimpArgs false
namespace Go.Proofs.YtkmigbicabfodaaGreat.V
open Go K
theorem recEnc_len:∀ (f:Fl) (fs:List Fl) (x:recT f fs),(recEnc f fs x).length=1+fs.length
 | _,[],_=>rfl
 | _,g::fs,x=>by simp [recEnc,recEnc_len g fs x.2]; omega
theorem enc_len:∀ (e:E) (x:e.T),(e.enc x).length=e.sz
 | .int,_=>rfl | .u8,_=>rfl | .str,_=>rfl | .bool,_=>rfl | .attr,_=>rfl | .node,_=>rfl | .sel,_=>rfl | .hattr,_=>rfl | .np,_=>rfl
 | .rc f fs k,x=>by simp [E.enc,recEnc_len,E.sz]
theorem sz_pos:∀ (e:E),0<e.sz:=by intro e; cases e <;> first | decide | (simp only [E.sz]; omega)
inductive Rd (F:Frz):List D→List Value→Prop
 | nil:Rd F [] []
 | int {k n ds vs}:Rd F ds vs→Rd F (.int k n::ds) (.int k n::vs)
 | bool {b ds vs}:Rd F ds vs→Rd F (.bool b::ds) (.bool b::vs)
 | str {l ds vs}:Rd F ds vs→Rd F (.str l::ds) (bs l::vs)
 | niln {ds vs}:Rd F ds vs→Rd F (.nil::ds) (.slice none 0 0::vs)
 | pnil {ds vs}:Rd F ds vs→Rd F (.pnil::ds) (.pointer none::vs)
 | lst {e:E} {xs:List e.T} {q:Option Addr} {cp:Nat} {ds vs} (cs:Nat→List Value) (hcp:xs.length≤cp) (h1:∀ i x,xs[i]?=some x→q=some ⟨blk q,offs q,none⟩∧cellsF F (blk q) (offs q+i*e.sz) (cs i)) (h2:∀ i x,xs[i]?=some x→Rd F (e.enc x) (cs i)) (h:Rd F ds vs):Rd F (.lst e xs::ds) (.slice q xs.length cp::vs)
 | fp {ds':List D} {off B o:Nat} {cs:List Value} {ds vs} (h1:cellsF F B o cs) (h2:Rd F ds' cs) (h:Rd F ds vs):Rd F (.fp ds' off::ds) (.pointer (some ⟨B,o+off,none⟩)::vs)
 | npN {ds vs}:Rd F ds vs→Rd F (.np none::ds) (.pointer none::vs)
 | npS {i B ds vs} (hB:F.nid i=some B) (h:Rd F ds vs):Rd F (.np (some i)::ds) (.pointer (some ⟨B,0,none⟩)::vs)
 | any {v ds vs} (h1:v.oneCell'=true) (h:Rd F ds vs):Rd F (.any::ds) (v::vs)
 | mnil {ds vs}:Rd F ds vs→Rd F (.mnil::ds) (.map none::vs)
 | gm {n b ds vs} (h1:∃ T z,F.m n=some (.cells #[.map (some b)] T z)) (h:Rd F ds vs):Rd F (.gm n::ds) (.map (some b)::vs)
 | inil {ds vs}:Rd F ds vs→Rd F (.inil::ds) (.nilIface::vs)
 | fnl {ds vs}:Rd F ds vs→Rd F (.fnl::ds) (.nilFunc::vs)
 | err {b:Bool} {v ds vs} (h1:if b then ∃ T u,v = .iface T u else v = .nilIface) (h:Rd F ds vs):Rd F (.err b::ds) (v::vs)
 | ifc {T:TypeId} {l:List D} {cs:List Value} {ds vs} (h1:Rd F l cs) (h:Rd F ds vs):Rd F (.ifc T l::ds) (.iface T (.agg cs.toArray)::vs)
 | clo {f:FuncId} {l:List D} {cs:List Value} {ds vs} (h1:Rd F l cs) (h:Rd F ds vs):Rd F (.clo f l::ds) (.func (.func f) #[] cs.toArray::vs)
 | agg {l:List D} {cs:List Value} {ds vs} (h1:Rd F l cs) (h:Rd F ds vs):Rd F (.agg l::ds) (.agg cs.toArray::vs)
section
variable {F F':Frz} {ds:List D} {vs:List Value} {d:D} {v:Value}
theorem Rd.mono (hr:Rd F ds vs) (hf:F.le F'):Rd F' ds vs:=by
 induction hr with
 | nil=>exact .nil
 | int _ ih=>exact .int ih
 | bool _ ih=>exact .bool ih
 | str _ ih=>exact .str ih
 | niln _ ih=>exact .niln ih
 | pnil _ ih=>exact .pnil ih
 | npN _ ih=>exact .npN ih
 | npS hB _ ih=>exact .npS (hf.2.1 _ _ hB) ih
 | any h1 _ ih=>exact .any h1 ih
 | mnil _ ih=>exact .mnil ih
 | gm h1 _ ih=>obtain ⟨T,z,h1⟩:=h1; exact .gm ⟨T,z,hf.1 _ _ h1⟩ ih
 | inil _ ih=>exact .inil ih
 | fnl _ ih=>exact .fnl ih
 | err h1 _ ih=>exact .err h1 ih
 | ifc h1 h ih1 ih=>exact .ifc ih1 ih
 | clo h1 h ih1 ih=>exact .clo ih1 ih
 | lst cs hcp h1 h2 h ih2 ih=>exact .lst cs hcp (fun i x hx=>⟨(h1 i x hx).1,(h1 i x hx).2.mono hf⟩) ih2 ih
 | fp h1 h2 h ih2 ih=>exact .fp (h1.mono hf) ih2 ih
 | agg h1 h ih1 ih=>exact .agg ih1 ih
theorem Rd.length (hr:Rd F ds vs):vs.length=ds.length:=by
 induction hr with
 | nil=>rfl
 | int _ ih=>simp [ih]
 | bool _ ih=>simp [ih]
 | str _ ih=>simp [ih]
 | niln _ ih=>simp [ih]
 | pnil _ ih=>simp [ih]
 | npN _ ih=>simp [ih]
 | npS hB _ ih=>simp [ih]
 | any h1 _ ih=>simp [ih]
 | mnil _ ih=>simp [ih]
 | gm h1 _ ih=>simp [ih]
 | inil _ ih=>simp [ih]
 | fnl _ ih=>simp [ih]
 | err h1 _ ih=>simp [ih]
 | ifc h1 h ih1 ih=>simp [ih]
 | clo h1 h ih1 ih=>simp [ih]
 | lst cs hcp h1 h2 h ih2 ih=>simp [ih]
 | fp h1 h2 h ih2 ih=>simp [ih]
 | agg h1 h ih1 ih=>simp [ih]
theorem Rd.cons (h1:Rd F [d] [v]) (h2:Rd F ds vs):Rd F (d::ds) (v::vs):=by
 cases h1 with
 | int _=>exact .int h2
 | bool _=>exact .bool h2
 | str _=>exact .str h2
 | niln _=>exact .niln h2
 | pnil _=>exact .pnil h2
 | npN _=>exact .npN h2
 | npS hB _=>exact .npS hB h2
 | any h1 _=>exact .any h1 h2
 | mnil _=>exact .mnil h2
 | gm h1 _=>exact .gm h1 h2
 | inil _=>exact .inil h2
 | fnl _=>exact .fnl h2
 | err h1 _=>exact .err h1 h2
 | ifc a _=>exact .ifc a h2
 | clo a _=>exact .clo a h2
 | lst cs hcp a b _=>exact .lst cs hcp a b h2
 | fp a b _=>exact .fp a b h2
 | agg a _=>exact .agg a h2
theorem Rd.head (h:Rd F (d::ds) (v::vs)):Rd F [d] [v]:=by
 cases h with
 | int _=>exact .int .nil
 | bool _=>exact .bool .nil
 | str _=>exact .str .nil
 | niln _=>exact .niln .nil
 | pnil _=>exact .pnil .nil
 | npN _=>exact .npN .nil
 | npS hB _=>exact .npS hB .nil
 | any h1 _=>exact .any h1 .nil
 | mnil _=>exact .mnil .nil
 | gm h1 _=>exact .gm h1 .nil
 | inil _=>exact .inil .nil
 | fnl _=>exact .fnl .nil
 | err h1 _=>exact .err h1 .nil
 | ifc a _=>exact .ifc a .nil
 | clo a _=>exact .clo a .nil
 | lst cs hcp a b _=>exact .lst cs hcp a b .nil
 | fp a b _=>exact .fp a b .nil
 | agg a _=>exact .agg a .nil
theorem Rd.fp_inv {ds:List D} {off:Nat} (h:Rd F [.fp ds off] [v]):∃ B o cs,v = .pointer (some ⟨B,o+off,none⟩)∧cellsF F B o cs∧Rd F ds cs:=by
 cases h with
 | fp h1 h2 _=>exact ⟨_,_,_,rfl,h1,h2⟩
theorem Rd.tail (h:Rd F (d::ds) (v::vs)):Rd F ds vs:=by cases h <;> assumption
theorem Rd.inv_cons (h:Rd F (d::ds) vs):∃ v vs',vs=v::vs'∧Rd F [d] [v]∧Rd F ds vs':=by
 match vs,h with
 | [],h=>have:=h.length; simp at this
 | v::vs',h=>exact ⟨v,vs',rfl,h.head,h.tail⟩
theorem Rd.get:∀ {ds:List D} {vs:List Value} {i:Nat} {d:D},Rd F ds vs→ds[i]?=some d→∃ v,vs[i]?=some v∧Rd F [d] [v]
 | [],_,i,d,_,h=>by simp at h
 | d0::ds,vs,i,d,hr,h=>by
  obtain ⟨v,vs',rfl,h1,h2⟩:=hr.inv_cons
  match i with
  | 0=>simp at h; subst h; exact ⟨v,rfl,h1⟩
  | i+1 =>
   obtain ⟨u,hu,hr⟩:=Rd.get h2 (by simpa using h)
   exact ⟨u,by simpa using hu,hr⟩
theorem Rd.take:∀ {ds:List D} {vs:List Value} (n:Nat),Rd F ds vs→Rd F (ds.take n) (vs.take n)
 | _,_,0,_ => .nil
 | [],vs,n+1,h=>by cases h; exact .nil
 | d::ds,vs,n+1,h=>by
  obtain ⟨v,vs',rfl,h1,h2⟩:=h.inv_cons
  exact h1.cons (h2.take n)
theorem Rd.drop:∀ {ds:List D} {vs:List Value} (n:Nat),Rd F ds vs→Rd F (ds.drop n) (vs.drop n)
 | _,_,0,h=>h
 | [],vs,n+1,h=>by cases h; exact .nil
 | d::ds,vs,n+1,h=>by
  obtain ⟨v,vs',rfl,h1,h2⟩:=h.inv_cons
  exact h2.drop n
theorem Rd.append:∀ {ds ds':List D} {vs vs':List Value},Rd F ds vs→Rd F ds' vs'→Rd F (ds++ds') (vs++vs')
 | [],_,vs,_,h,h'=>by cases h; exact h'
 | d::ds,_,vs,_,h,h'=>by
  obtain ⟨v,vs1,rfl,h1,h2⟩:=h.inv_cons
  exact h1.cons (h2.append h')
theorem Rd.set:∀ {ds:List D} {vs:List Value} {i:Nat} {d:D} {v:Value},Rd F ds vs→Rd F [d] [v]→Rd F (ds.set i d) (vs.set i v)
 | [],vs,i,d,v,h,_=>by cases h; exact .nil
 | d0::ds,vs,i,d,v,h,hd=>by
  obtain ⟨v0,vs',rfl,h1,h2⟩:=h.inv_cons
  match i with
  | 0=>exact hd.cons h2
  | i+1=>exact h1.cons (h2.set hd)
theorem Rd.one (hr:Rd F [d] [v]) (hp:d.plain=true):v.oneCell'=true:=by
 cases hr with
 | @err b v _ _ h1 _ =>
  cases b with
  | true=>obtain ⟨T,u,rfl⟩:=h1; rfl
  | false=>cases h1; rfl
 | _=>first | rfl | assumption | (simp [D.plain] at hp)
theorem Rd.ones:∀ {ds:List D} {vs:List Value},Rd F ds vs→ds.all D.plain=true→∀ v∈vs,v.oneCell'=true
 | [],vs,h,_,v,hv=>by cases h; cases hv
 | d::ds,vs,h,hp,v,hv=>by
  obtain ⟨v0,vs',rfl,h1,h2⟩:=h.inv_cons
  simp only [List.all_cons,Bool.and_eq_true] at hp
  rcases List.mem_cons.1 hv with rfl | hv
  ·exact h1.one hp.1
  ·exact Rd.ones h2 hp.2 v hv
theorem fl_plain:∀ (f:Fl) (x:f.T),(f.enc x).plain=true:=by intro f x; cases f <;> rfl
theorem recEnc_plain:∀ (f:Fl) (fs:List Fl) (x:recT f fs),(recEnc f fs x).all D.plain=true
 | f,[],x=>by simp [recEnc,fl_plain]
 | f,g::fs,x=>by
  have:=recEnc_plain g fs x.2
  simp only [recEnc,List.all_cons,fl_plain,this,Bool.and_true]
theorem enc_plain:∀ (e:E) (x:e.T),(e.enc x).all D.plain=true
 | .int,_=>rfl | .u8,_=>rfl | .str,_=>rfl | .bool,_=>rfl | .attr,_=>rfl | .node,_=>rfl | .sel,_=>rfl | .hattr,_=>rfl | .np,_=>rfl
 | .rc f fs k,x=>by
  simp only [E.enc,List.all_append,recEnc_plain,Bool.true_and]
  simp [D.plain]
theorem Rd.at {e:E} {xs:List e.T} (hr:Rd F [.lst e xs] [v]):∃ q cp,v = .slice q xs.length cp∧xs.length≤cp∧∀ i x,xs[i]?=some x→∃ cs,q=some ⟨blk q,offs q,none⟩∧cellsF F (blk q) (offs q+i*e.sz) cs∧Rd F (e.enc x) cs:=by
 cases hr with
 | lst cs hcp h1 h2 _=>exact ⟨_,_,rfl,hcp,fun i x hx=>⟨cs i,(h1 i x hx).1,(h1 i x hx).2,h2 i x hx⟩⟩
theorem Rd.of_at {e:E} {xs:List e.T} {q:Option Addr} {cp:Nat} (hcp:xs.length≤cp) (h:∀ i x,xs[i]?=some x→∃ cs,q=some ⟨blk q,offs q,none⟩∧cellsF F (blk q) (offs q+i*e.sz) cs∧Rd F (e.enc x) cs):Rd F [.lst e xs] [.slice q xs.length cp]:=by
 classical
 refine .lst (fun i=>if hx:∃ x,xs[i]?=some x then (h i hx.choose hx.choose_spec).choose else []) hcp (fun i x hx=>?_) (fun i x hx=>?_) .nil
 ·have hh:∃ x,xs[i]?=some x:=⟨x,hx⟩
  simp only [dif_pos hh]
  have:=(h i hh.choose hh.choose_spec).choose_spec
  exact ⟨this.1,this.2.1⟩
 ·have hh:∃ x,xs[i]?=some x:=⟨x,hx⟩
  simp only [dif_pos hh]
  have:=(h i hh.choose hh.choose_spec).choose_spec
  have he:hh.choose=x:=Option.some.inj (hh.choose_spec.symm.trans hx)
  rw [← he]
  exact this.2.2
theorem Rd.nil_lst (e:E):Rd F [.nil] [v]→Rd F [.lst e []] [v]:=by
 intro h
 cases h with
 | niln _=>exact .lst (fun _=>[]) (Nat.le_refl _) (fun i x hx=>by simp at hx) (fun i x hx=>by simp at hx) .nil
theorem dAttrs_rd {as1:List Attr} (h:dAttrs d=some as1) (hr:Rd F [d] [v]):Rd F [.lst .attr as1] [v]:=by
 unfold dAttrs at h
 split at h
 ·cases h; exact hr
 ·cases h; exact Rd.nil_lst _ hr
 ·cases h
theorem castE_eq:∀ {e e':E} {xs:List e.T} {ys:List e'.T},castE e e' xs=some ys→∃ h:e=e',h ▸ xs=ys:=by
 intro e e' xs ys h
 unfold castE at h
 split at h
 ·rename_i he
  cases h
  exact ⟨he,rfl⟩
 ·cases h
theorem dPtr_rd {o:Option Nat} (h:dPtr d=some o) (hr:Rd F [d] [v]):Rd F [.np o] [v]:=by
 unfold dPtr at h
 split at h
 ·cases h; exact hr
 ·cases h
  cases hr with
  | pnil _=>exact .npN .nil
 ·cases h
theorem dLst_rd {e:E} {xs:List e.T} (h:dLst e d=some xs) (hr:Rd F [d] [v]):Rd F [.lst e xs] [v]:=by
 unfold dLst at h
 split at h
 ·obtain ⟨rfl,rfl⟩:=castE_eq h; exact hr
 ·cases h; exact Rd.nil_lst _ hr
 ·cases h
theorem Rd.to_any (hr:Rd F [d] [v]) (hp:d.plain=true):Rd F [.any] [v] := .any (hr.one hp) .nil
theorem Rd.to_anys:∀ {ds:List D} {vs:List Value},Rd F ds vs→ds.all D.plain=true→Rd F (List.replicate ds.length .any) vs
 | [],vs,h,_=>by cases h; exact .nil
 | d::ds,vs,h,hp=>by
  obtain ⟨v,vs',rfl,h1,h2⟩:=h.inv_cons
  simp only [List.all_cons,Bool.and_eq_true] at hp
  exact (h1.to_any hp.1).cons (Rd.to_anys h2 hp.2)
theorem any_rd {x:Unit} (h:cond d.plain (some ()) none=some x) (hr:Rd F [d] [v]):Rd F [.any] [v]:=by
 cases hp:d.plain with
 | false=>rw [hp] at h; cases h
 | true=>exact hr.to_any hp
theorem fl_rd:∀ {f:Fl} {x:f.T},f.dec d=some x→Rd F [d] [v]→Rd F [f.enc x] [v]:=by
 intro f x h hr
 unfold Fl.dec at h
 split at h
 ·rename_i k k' n
  cases hk:decide (k'=k) with
  | false=>rw [hk] at h; cases h
  | true =>
   rw [hk] at h
   cases h
   have:k'=k:=by simpa using hk
   subst this
   exact hr
 ·cases h; exact hr
 ·cases h; exact hr
 ·exact dPtr_rd h hr
 ·cases h; exact hr
 ·cases h; exact hr
 ·exact dLst_rd h hr
 ·exact dLst_rd h hr
 ·exact dLst_rd h hr
 ·exact dLst_rd h hr
 ·exact dLst_rd h hr
 ·exact dLst_rd h hr
 ·rename_i d a b
  cases hp:(a.plain && b.plain) with
  | false=>rw [hp] at h; cases h
  | true =>
   rw [hp] at h
   simp only [cond_true] at h
   rw [Bool.and_eq_true] at hp
   cases hr with
   | fp h1 h2 h3 =>
    obtain ⟨v0,vs,rfl,g0,h2⟩:=h2.inv_cons
    obtain ⟨v1,vs,rfl,g1,h2⟩:=h2.inv_cons
    exact .fp h1 ((dLst_rd h g0).cons ((g1.to_any hp.1).cons (h2.to_anys (by simp [hp.2])))) h3
 ·rename_i a b
  cases hp:(a.plain && b.plain) with
  | false=>rw [hp] at h; cases h
  | true =>
   rw [Bool.and_eq_true] at hp
   cases hr with
   | fp h1 h2 h3 =>
    obtain ⟨v0,vs,rfl,g0,h2⟩:=h2.inv_cons
    obtain ⟨v1,vs,rfl,g1,h2⟩:=h2.inv_cons
    exact .fp h1 (g0.cons ((g1.to_any hp.1).cons (h2.to_anys (by simp [hp.2])))) h3
 ·cases h; exact hr
 ·cases h; exact hr
 ·exact any_rd h hr
 ·rename_i f f' d
  cases hp:decide (f'=f) with
  | false=>rw [hp] at h; cases h
  | true =>
   rw [hp] at h
   simp only [cond_true] at h
   have:f'=f:=by simpa using hp
   subst this
   cases hr with
   | clo h1 h2 =>
    obtain ⟨v0,vs,rfl,g0,h3⟩:=h1.inv_cons
    obtain ⟨v1,vs,rfl,g1,h4⟩:=h3.inv_cons
    cases g1 with
    | fp a b c =>
     obtain ⟨v2,vs2,rfl,g2,b⟩:=b.inv_cons
     cases b
     cases h4
     exact .clo (g0.cons (.fp a (dLst_rd h g2) c)) h2
 ·cases h
theorem rec_rd:∀ {f:Fl} {fs:List Fl} {k:Nat} {ds:List D} {vs:List Value} {x:recT f fs},recDec f fs k ds=some x→Rd F ds vs→Rd F (recEnc f fs x++List.replicate k .any) vs
 | f,[],k,d::ds,vs,x,h,hr=>by
  simp only [recDec] at h
  cases hp:(ds.length == k && ds.all D.plain) with
  | false=>rw [hp] at h; cases h
  | true =>
   rw [hp] at h
   simp only [cond_true] at h
   rw [Bool.and_eq_true,beq_iff_eq] at hp
   obtain ⟨v,vs',rfl,h1,h2⟩:=hr.inv_cons
   rw [← hp.1]
   exact (fl_rd h h1).cons (h2.to_anys hp.2)
 | f,g::fs,k,d::ds,vs,x,h,hr=>by
  simp only [recDec] at h
  cases h1:f.dec d with
  | none=>rw [h1] at h; cases h
  | some a =>
   rw [h1] at h
   simp only at h
   cases h2:recDec g fs k ds with
   | none=>rw [h2] at h; cases h
   | some b =>
    rw [h2] at h
    cases h
    obtain ⟨v,vs',rfl,g1,g2⟩:=hr.inv_cons
    exact (fl_rd h1 g1).cons (rec_rd h2 g2)
 | _,[],_,[],_,_,h,_=>by cases h
 | _,_::_,_,[],_,_,h,_=>by cases h
theorem byteI_eq {n:Int} {c:UInt8} (h:byteI n=some c):(c.toNat:Int)=n:=by
 unfold byteI at h
 split at h
 ·rename_i hn
  cases h
  rw [UInt8.toNat_ofNat']
  omega
 ·cases h
theorem dec_rd:∀ {e:E} {ds:List D} {vs:List Value} {x:e.T},e.dec ds=some x→Rd F ds vs→Rd F (e.enc x) vs:=by
 intro e ds vs x h hr
 unfold E.dec at h
 split at h
 ·cases h; exact hr
 ·have:=byteI_eq h
  simp only [E.enc,this]
  exact hr
 ·cases h; exact hr
 ·cases h; exact hr
 ·cases h; exact hr
 ·rename_i k tg tx d z
  cases hd:dAttrs d with
  | none=>rw [hd] at h; cases h
  | some as1 =>
   rw [hd] at h
   cases h
   obtain ⟨v0,vs,rfl,h0,hr⟩:=hr.inv_cons
   obtain ⟨v1,vs,rfl,h1,hr⟩:=hr.inv_cons
   obtain ⟨v2,vs,rfl,h2,hr⟩:=hr.inv_cons
   obtain ⟨v3,vs,rfl,h3,hr⟩:=hr.inv_cons
   exact h0.cons (h1.cons (h2.cons ((dAttrs_rd hd h3).cons hr)))
 ·cases h; exact hr
 ·cases h; exact hr
 ·obtain ⟨v,vs',rfl,h1,h2⟩:=hr.inv_cons
  cases h2
  exact dPtr_rd h h1
 ·exact rec_rd h hr
 ·cases h
theorem HN.dec_rd {as1:List HAttr} {n:HN}:∀ {ds:List D} {vs:List Value},HN.dec as1 ds=some n→Rd F ds vs→Rd F n.enc vs∧n.attrs=as1:=by
 intro ds vs h hr
 unfold HN.dec at h
 split at h
 ·rename_i a b c d e t m da nn
  cases ha:dPtr a with
  | none=>rw [ha] at h; cases h
  | some a' =>
   cases hb:dPtr b with
   | none=>rw [ha,hb] at h; cases h
   | some b' =>
    cases hc:dPtr c with
    | none=>rw [ha,hb,hc] at h; cases h
    | some c' =>
     cases hd:dPtr d with
     | none=>rw [ha,hb,hc,hd] at h; cases h
     | some d' =>
      cases he:dPtr e with
      | none=>rw [ha,hb,hc,hd,he] at h; cases h
      | some e' =>
       rw [ha,hb,hc,hd,he] at h
       cases h
       obtain ⟨v0,vs,rfl,h0,hr⟩:=hr.inv_cons
       obtain ⟨v1,vs,rfl,h1,hr⟩:=hr.inv_cons
       obtain ⟨v2,vs,rfl,h2,hr⟩:=hr.inv_cons
       obtain ⟨v3,vs,rfl,h3,hr⟩:=hr.inv_cons
       obtain ⟨v4,vs,rfl,h4,hr⟩:=hr.inv_cons
       exact ⟨(dPtr_rd ha h0).cons ((dPtr_rd hb h1).cons ((dPtr_rd hc h2).cons ((dPtr_rd hd h3).cons ((dPtr_rd he h4).cons hr)))),rfl⟩
 ·cases h
end
theorem KN.dec_rd {F:Frz} {l:List (Option Nat)} {n:KN}:∀ {ds:List D} {vs:List Value},KN.dec l ds=some n→Rd F ds vs→Rd F n.enc vs∧n.kids=l:=by
 intro ds vs h hr
 unfold KN.dec at h
 split at h
 ·rename_i a k tg tx d z p
  cases hd:dAttrs d with
  | none=>rw [hd] at h; cases h
  | some as1 =>
   cases hp:dPtr p with
   | none=>rw [hd,hp] at h; cases h
   | some o =>
    rw [hd,hp] at h
    cases h
    obtain ⟨v0,vs,rfl,h0,hr⟩:=hr.inv_cons
    obtain ⟨v1,vs,rfl,h1,hr⟩:=hr.inv_cons
    obtain ⟨v2,vs,rfl,h2,hr⟩:=hr.inv_cons
    obtain ⟨v3,vs,rfl,h3,hr⟩:=hr.inv_cons
    obtain ⟨v4,vs,rfl,h4,hr⟩:=hr.inv_cons
    obtain ⟨v5,vs,rfl,h5,hr⟩:=hr.inv_cons
    obtain ⟨v6,vs,rfl,h6,hr⟩:=hr.inv_cons
    exact ⟨h0.cons (h1.cons (h2.cons (h3.cons ((dAttrs_rd hd h4).cons (h5.cons ((dPtr_rd hp h6).cons hr)))))),rfl⟩
 ·cases h
theorem Cl.dec_rd {F:Frz} {c:Cl} {l:List c.e.T} {n:c.R} {ds:List D} {vs:List Value} (h:c.dec l ds=some n) (hr:Rd F ds vs):Rd F (c.enc n) vs∧c.xs n=l:=by
 cases c with
 | h=>exact HN.dec_rd h hr
 | k=>exact KN.dec_rd h hr
theorem Cl.enc_len {c:Cl} (n:c.R):(c.enc n).length=c.n:=by cases c <;> rfl
theorem Cl.dec_fz {c:Cl} {l:List c.e.T} {n:c.R} {ds:List D} (h:c.dec l ds=some n):c.fz n=false:=by
 cases c with
 | h=>rfl
 | k =>
  have h:KN.dec l ds=some n:=h
  unfold KN.dec at h
  split at h
  ·split at h
   ·cases h
   ·split at h
    ·cases h
    ·cases h; rfl
  ·cases h
theorem Cl.wx_fz {c:Cl} (n:c.R) (xs:List c.e.T):c.fz (c.wx n xs)=false:=by cases c <;> rfl
theorem Cl.wz_enc {c:Cl} (n:c.R) (b:Bool):c.enc (c.wz n b)=c.enc n:=by cases c <;> rfl
theorem Cl.wz_xs {c:Cl} (n:c.R) (b:Bool):c.xs (c.wz n b)=c.xs n:=by cases c <;> rfl
theorem Cl.wz_fz {c:Cl} (n n':c.R):c.fz (c.wz n' (c.fz n))=c.fz n:=by cases c <;> rfl
theorem Cl.wx_enc {c:Cl} (n:c.R) (xs:List c.e.T):c.enc (c.wx n xs)=c.enc n:=by cases c <;> rfl
theorem Cl.wx_xs {c:Cl} (n:c.R) (xs:List c.e.T):c.xs (c.wx n xs)=xs:=by cases c <;> rfl
theorem Cl.cast_eq {c c':Cl} {hs:List c.R} {hs':List c'.R} (h:c.cast c' hs=some hs'):∃ e:c=c',e ▸ hs=hs':=by
 unfold Cl.cast at h
 split at h
 ·rename_i e
  cases h
  exact ⟨e,rfl⟩
 ·cases h
inductive F2 {α β:Type} (R:α→β→Prop):List α→List β→Prop
 | nil:F2 R [] []
 | cons {a:α} {b:β} {l:List α} {m:List β} (h:R a b) (t:F2 R l m):F2 R (a::l) (b::m)
abbrev Gh:=Nat→Value×List Blk
def NapR (x:Value) (o:Option (Nat×Nat)) (v:Value):Prop :=
 match o with
 | none=>v = .pointer none
 | some q=>∃ (hd:List Value) (B n cp:Nat),x = .tuple hd.toArray∧hd[q.1]?=some (.slice (some ⟨B,0,none⟩) n cp)∧v = .pointer (some ⟨B,q.2*3,none⟩)
def CloV (f B:Nat) (cs:List Value) (v:Value):Prop :=
 (f<1000000∧v = .func (.func f) #[] (Value.pointer (some ⟨B,0,none⟩)::cs).toArray)∨(∃ T,f=ifN T∧v = .iface T (.pointer (some ⟨B,0,none⟩))) ∨
 ∃ T c,f=mtN T c∧c<16∧v = .func (.method (mname c)) #[.iface T (.pointer (some ⟨B,0,none⟩))] #[]
def RdW (F:Frz) (ι:Gh) (d:D) (v:Value):Prop :=
 match d with
 | .u=>True
 | .und=>v=undef
 | .own t=>v=(ι t).1
 | .op t o=>∃ B,(ι t).1 = .pointer (some ⟨B,0,none⟩)∧v = .pointer (some ⟨B,o,none⟩)
 | .oe t z i o=>∃ B n cp,(ι t).1 = .slice (some ⟨B,0,none⟩) n cp∧v = .pointer (some ⟨B,i*z+o,none⟩)
 | .nf i o=>∃ B,F.nid i=some B∧v = .pointer (some ⟨B,o,none⟩)
 | .na i=>∃ hd:List Value,(ι NT).1 = .tuple hd.toArray∧hd[i]?=some v
 | .nae z i j o=>∃ (hd:List Value) (B n cp:Nat),(ι NT).1 = .tuple hd.toArray∧hd[i]?=some (.slice (some ⟨B,0,none⟩) n cp)∧v = .pointer (some ⟨B,j*z+o,none⟩)
 | .nas z i a b=>∃ (hd:List Value) (q:Option Addr) (n cp:Nat),(ι NT).1 = .tuple hd.toArray∧hd[i]?=some (.slice q n cp)∧a≤b∧b≤n∧v = .slice (if cp=a then q else q.map (·.add (a*z))) (b - a) (cp - a)
 | .aggo ds t=>∃ cs:List Value,v = .agg (cs++[(ι t).1]).toArray∧Rd F ds cs
 | .aggh t ds=>∃ cs:List Value,v = .agg ((ι t).1::cs).toArray∧Rd F ds cs
 | .clov f t ds=>∃ B cs,(ι t).1 = .pointer (some ⟨B,0,none⟩)∧CloV f B cs v∧Rd F ds cs
 | .opb t b=>∃ B,(ι t).1 = .pointer (some ⟨B,0,none⟩)∧v=if b then .pointer (some ⟨B,0,none⟩) else .pointer none
 | .nap o=>NapR (ι NT).1 o v
 | d=>Rd F [d] [v]
def RdV (F:Frz) (ι:Gh) (d:D) (v:Value):Prop :=
 match d with
 | .tup ds=>∃ vs:List Value,v = .tuple vs.toArray∧F2 (RdW F ι) ds vs
 | d=>RdW F ι d v
def LsR (F:Frz) (c:Cl) (A:TypeId) (n:c.R) (hd:Value) (Lv:List Blk):Prop :=
 ∃ q m cp rows Lv',hd = .slice q m cp∧SlO c.e.sz A q m cp Lv' rows∧F2 (fun x r=>Rd F (c.e.enc x) r) (c.xs n) rows∧((c.fz n=false∧Lv=Lv')∨(c.fz n=true∧Lv=[]∧∀ p∈Lv',isB (F.m p.1) p))
theorem LsR.own {F:Frz} {c:Cl} {A:TypeId} {n:c.R} {hd:Value} {Lv:List Blk} (h:LsR F c A n hd Lv) (hz:c.fz n=false):∃ q m cp rows,hd = .slice q m cp∧SlO c.e.sz A q m cp Lv rows∧F2 (fun x r=>Rd F (c.e.enc x) r) (c.xs n) rows:=by
 obtain ⟨q,m,cp,rows,Lv',a,b,d,e⟩:=h
 rcases e with ⟨_,rfl⟩ | ⟨e,_⟩
 ·exact ⟨q,m,cp,rows,a,b,d⟩
 ·rw [hz] at e; cases e
theorem LsR.mk {F:Frz} {c:Cl} {A:TypeId} {n:c.R} {hd:Value} {Lv:List Blk} {q:Option Addr} {m cp:Nat} {rows:List (List Value)} (a:hd = .slice q m cp) (b:SlO c.e.sz A q m cp Lv rows) (d:F2 (fun x r=>Rd F (c.e.enc x) r) (c.xs n) rows) (hz:c.fz n=false):LsR F c A n hd Lv :=
 ⟨q,m,cp,rows,Lv,a,b,d, .inl ⟨hz,rfl⟩⟩
theorem LsR.same {F:Frz} {c:Cl} {A:TypeId} {n n':c.R} {hd:Value} {Lv:List Blk} (h:LsR F c A n hd Lv) (hx:c.xs n'=c.xs n) (hz:c.fz n'=c.fz n):LsR F c A n' hd Lv:=by
 obtain ⟨q,m,cp,rows,Lv',a,b,d,e⟩:=h
 exact ⟨q,m,cp,rows,Lv',a,b,by rw [hx]; exact d,by rw [hz]; exact e⟩
theorem cond_none {α:Type} {b:Bool} {x:Option α} {r:α} (h:cond b none x=some r):b=false∧x=some r:=by
 cases b with
 | true=>cases h
 | false=>exact ⟨rfl,h⟩
inductive NR (F:Frz) {c:Cl} (T A:TypeId) (hole:Option Nat):Nat→List c.R→List Value→List Blk→Prop
 | nil {i}:NR F T A hole i [] [] []
 | cons {i h hs hd hds B cs Lv L} (hB:F.nid i=some B) (hc:Rd F (c.enc h) cs) (h1:hd.oneCell'=true) (ha:hole≠some i→LsR F c A h hd Lv) (hh:hole=some i→Lv=[]) (t:NR F T A hole (i+1) hs hds L):NR F T A hole i (h::hs) (hd::hds) ((B,cs++[hd],BT.c T)::(Lv++L))
def mpD:List (Option Nat×Bool)→List D
 | []=>[]
 | p::l => .np p.1 :: .bool p.2::mpD l
def OwnR (F:Frz) (ι:Gh) (t:Nat):OB→Prop
 | .nodes _ T A hs hole=>t=NT∧∃ hds:List Value,(ι t).1 = .tuple hds.toArray∧NR F T A hole 0 hs hds (ι t).2∧∀ j,hs.length≤j→F.nid j=none
 | .nodesR c hs=>(ι t).2=[]∧∀ i h,hs[i]?=some h→∃ B cs,F.nid i=some B∧cellsF F B 0 cs∧Rd F (c.enc h++[.lst c.e (c.xs h)]) cs
 | .rows e T xs=>∃ q n cp rows,(ι t).1 = .slice q n cp∧SlO e.sz T q n cp (ι t).2 rows∧F2 (fun x r=>Rd F (e.enc x) r) xs rows
 | .cells T ds=>∃ B cs,(ι t).1 = .pointer (some ⟨B,0,none⟩)∧(ι t).2=[(B,cs,BT.c T)]∧F2 (RdW F ι) ds cs
 | .mp l=>∃ B cs,(ι t).1 = .map (some B)∧(ι t).2=[(B,cs,BT.map)]∧Rd F (mpD l) cs
 | .sit l pos=>∃ B,(ι t).1 = .pointer (some ⟨B,0,none⟩)∧(ι t).2=[(B,[bs l,Value.int .i64 (pos:Int)],BT.sit)]
structure Rel (F:Frz) (ι:Gh) (s:St) (ρ:List Value):Prop where
 len:ρ.length=s.n
 sl:∀ i,RdV F ι (s.sl i) (ρ.getD i undef)
 ow:∀ p∈s.ow,OwnR F ι p.1 p.2
 nd:(s.ow.map (·.1)).Nodup
def lv (ι:Gh) (ow:List (Nat×OB)):List Blk:=ow.flatMap fun p=>(ι p.1).2
section
variable {F F':Frz} {ι ι':Gh} {s s':St} {ρ:List Value} {d:D} {v:Value} {t:Nat}
theorem RdW.of_rd (h:Rd F [d] [v]):RdW F ι d v:=by
 cases d <;> first | exact h | trivial | cases h
theorem RdV.of_rd (h:Rd F [d] [v]):RdV F ι d v:=by
 cases d with
 | tup ds=>cases h
 | _=>exact RdW.of_rd (ι:=ι) h
theorem RdV.of_w (h:RdW F ι d v):RdV F ι d v:=by
 cases d with
 | tup ds=>cases h
 | _=>exact h
theorem RdW.to_rd (h:RdW F ι d v) (hp:d.plain=true):Rd F [d] [v]:=by
 cases d <;> first | exact h | (simp [D.plain] at hp)
theorem RdV.to_w (h:RdV F ι d v) (hp:∀ ds,d ≠ .tup ds):RdW F ι d v:=by
 cases d <;> first | exact h | exact absurd rfl (hp _)
theorem RdV.to_rd (h:RdV F ι d v) (hp:d.plain=true):Rd F [d] [v]:=(h.to_w (fun ds e=>by subst e; simp [D.plain] at hp)).to_rd hp
theorem RdW.mono (h:RdW F ι d v) (hf:F.le F'):RdW F' ι d v:=by
 cases d <;> first | exact Rd.mono h hf | exact h | (obtain ⟨B,h1,h2⟩:=h; exact ⟨B,hf.2.1 _ _ h1,h2⟩) | (obtain ⟨cs,h1,h2⟩:=h; exact ⟨cs,h1,h2.mono hf⟩) | (obtain ⟨B,cs,h1,h2,h3⟩:=h; exact ⟨B,cs,h1,h2,h3.mono hf⟩)
theorem forall2_imp {α β:Type} {R R':α→β→Prop} (hi:∀ a b,R a b→R' a b):∀ {l:List α} {m:List β},F2 R l m→F2 R' l m
 | _,_, .nil => .nil
 | _,_, .cons h t => .cons (hi _ _ h) (forall2_imp hi t)
theorem RdV.mono (h:RdV F ι d v) (hf:F.le F'):RdV F' ι d v:=by
 cases d with
 | tup ds=>obtain ⟨vs,h1,h2⟩:=h; exact ⟨vs,h1,forall2_imp (fun _ _ h=>h.mono hf) h2⟩
 | _=>exact .of_w ((RdV.to_w h (fun _ e=>by cases e)).mono hf)
theorem LsR.mono {c:Cl} {A:TypeId} {n:c.R} {hd:Value} {Lv:List Blk} (hf:F.le F') (h:LsR F c A n hd Lv):LsR F' c A n hd Lv:=by
 obtain ⟨q,m,cp,rows,Lv',a,b,d,e⟩:=h
 refine ⟨q,m,cp,rows,Lv',a,b,forall2_imp (fun _ _ h=>h.mono hf) d,e.imp id fun ⟨e1,e2,e3⟩=>⟨e1,e2,fun p hp=>(e3 p hp).mono hf⟩⟩
theorem NR.mono {c:Cl} {T A:TypeId} {hole:Option Nat} (hf:F.le F'):∀ {i:Nat} {hs:List c.R} {hds:List Value} {L:List Blk},NR F T A hole i hs hds L→NR F' T A hole i hs hds L
 | _,_,_,_, .nil => .nil
 | _,_,_,_, .cons hB hc h1 ha hh t => .cons (hf.2.1 _ _ hB) (hc.mono hf) h1 (fun hn=>(ha hn).mono hf) hh (NR.mono hf t)
def OB.isN:OB→Bool
 | .nodes _ _ _ _ _=>true
 | _=>false
theorem OwnR.mono {b:OB} (h:OwnR F ι t b) (hf:F.le F') (hn:b.isN=true→F'.nid=F.nid):OwnR F' ι t b:=by
 cases b with
 | nodes c T A hs hole =>
  obtain ⟨h0,hds,h1,h2,h3⟩:=h
  exact ⟨h0,hds,h1,h2.mono hf,by rw [hn rfl]; exact h3⟩
 | nodesR c hs =>
  exact ⟨h.1,fun i x hx=>by obtain ⟨B,cs,a,b,c⟩:=h.2 i x hx; exact ⟨B,cs,hf.2.1 _ _ a,b.mono hf,c.mono hf⟩⟩
 | rows e T xs =>
  obtain ⟨q,n,cp,rows,h1,h2,h3⟩:=h
  exact ⟨q,n,cp,rows,h1,h2,forall2_imp (fun _ _ h=>h.mono hf) h3⟩
 | cells T ds =>
  obtain ⟨B,cs,h1,h2,h3⟩:=h
  exact ⟨B,cs,h1,h2,forall2_imp (fun _ _ h=>h.mono hf) h3⟩
 | mp l =>
  obtain ⟨B,cs,h1,h2,h3⟩:=h
  exact ⟨B,cs,h1,h2,h3.mono hf⟩
 | sit l pos=>exact h
theorem Rel.mono (h:Rel F ι s ρ) (hf:F.le F') (hn:F'.nid=F.nid):Rel F' ι s ρ:=⟨h.len,fun i=>(h.sl i).mono hf,fun p hp=>(h.ow p hp).mono hf fun _=>hn,h.nd⟩
theorem OwnR.isN {b:OB} (h:OwnR F ι t b) (hb:b.isN=true):t=NT:=by
 cases b with
 | nodes c T A hs hole=>exact h.1
 | _=>cases hb
theorem Rel.mono' (h:Rel F ι s ρ) (hf:F.le F') (hn:∀ p∈s.ow,p.1≠NT):Rel F' ι s ρ:=⟨h.len,fun i=>(h.sl i).mono hf,fun p hp=>(h.ow p hp).mono hf fun hb=>absurd ((h.ow p hp).isN hb) (hn p hp),h.nd⟩
theorem forall2_len {α β:Type} {R:α→β→Prop}:∀ {l:List α} {m:List β},F2 R l m→m.length=l.length
 | _,_, .nil=>rfl
 | _,_, .cons _ t=>by simp [forall2_len t]
theorem forall2_get {α β:Type} {R:α→β→Prop}:∀ {l:List α} {m:List β} {i:Nat} {a:α},F2 R l m→l[i]?=some a→∃ b,m[i]?=some b∧R a b
 | _,_,_,_, .nil,h=>by simp at h
 | _,_,0,a, .cons h t,ha=>by simp at ha; subst ha; exact ⟨_,rfl,h⟩
 | _,_,i+1,a, .cons h t,ha=>by
  obtain ⟨b,hb,hr⟩:=forall2_get (i:=i) t (by simpa using ha)
  exact ⟨b,by simpa using hb,hr⟩
theorem look_mem {b:OB} (h:s.look t=some b):(t,b)∈s.ow:=by
 unfold St.look at h
 cases hf:s.ow.find? (fun p=>p.1 == t) with
 | none=>rw [hf] at h; cases h
 | some p =>
  rw [hf] at h
  have h1:=List.find?_some hf
  simp at h1
  cases h
  rw [← h1]
  exact List.mem_of_find?_eq_some hf
theorem Rel.look {b:OB} (hr:Rel F ι s ρ) (h:s.look t=some b):OwnR F ι t b:=hr.ow _ (look_mem h)
theorem lv_mem {b:OB} (h:s.look t=some b) {p:Blk} (hp:p∈(ι t).2):p∈lv ι s.ow:=List.mem_flatMap.2 ⟨_,look_mem h,hp⟩
theorem Rel.ev (hr:Rel F ι s ρ) (t:Nat):RdV F ι (s.sl t) (ev ρ (.tmp t)):=hr.sl t
theorem ofVal_rd:∀ (v:Value),RdW F ι (ofVal v) v
 | .int k n => .int .nil
 | .bool b => .bool .nil
 | .string s=>by
  have:Value.string s=bs s.data.toList:=by simp [bs]
  rw [this]
  have h2:ofVal (bs s.data.toList) = .str s.data.toList:=by simp [ofVal,bs]
  rw [h2]
  exact Rd.str .nil
 | .slice none 0 0 => .niln .nil
 | .pointer none => .pnil .nil
 | .map none => .mnil .nil
 | .nilIface=>Rd.inil .nil
 | .nilFunc=>Rd.fnl .nil
 | .slice (some _) _ _=>trivial
 | .slice none (_+1) _=>trivial
 | .slice none 0 (_+1)=>trivial
 | .pointer (some _)=>trivial
 | v=>by
  unfold ofVal
  split <;> first | trivial | exact Rd.int .nil | exact Rd.bool .nil | exact Rd.niln .nil | exact Rd.pnil .nil | exact Rd.mnil .nil | exact Rd.inil .nil | exact Rd.fnl .nil | skip
  rename_i s
  have:Value.string s=bs s.data.toList:=by simp [bs]
  rw [this]
  exact Rd.str .nil
theorem g_rd (hr:Rel F ι s ρ):∀ x:Operand,RdV F ι (g s x) (ev ρ x)
 | .tmp t=>hr.sl t
 | .const v => .of_w (ofVal_rd v)
 | .global _=>trivial
 | .func _ => .of_w (Rd.clo .nil .nil)
theorem Rel.set (hr:Rel F ι s ρ) (ht:t<s.n) (hd:RdV F ι d v):Rel F ι (s.set t d) (ρ.set t v) :=
 ⟨by simp [St.set,hr.len],fun i=>by
  simp only [St.set]
  by_cases e:i=t
  ·subst e
   simp [List.getD_eq_getElem?_getD,List.getElem?_set_self (show i<ρ.length by rw [hr.len]; exact ht)]
   exact hd
  ·have:(i == t)=false:=by simp [e]
   rw [this]
   have h1:=hr.sl i
   simp only [List.getD_eq_getElem?_getD] at h1 ⊢
   rw [List.getElem?_set_ne (fun h=>e h.symm)]
   exact h1,hr.ow,hr.nd⟩
theorem Rel.put {dst:Option Tmp} (hr:Rel F ι s ρ) (hp:s.put dst d=some s') (hd:dst≠none→RdV F ι d v):Rel F ι s' (setD ρ dst v)∧s'.ow=s.ow∧s'.np=s.np∧s'.n=s.n∧s'.nw=s.nw:=by
 cases dst with
 | none=>cases hp; exact ⟨hr,rfl,rfl,rfl,rfl⟩
 | some t =>
  simp only [St.put] at hp
  cases hb:Nat.blt t s.n with
  | false=>rw [hb] at hp; cases hp
  | true =>
   rw [hb] at hp
   cases hp
   exact ⟨hr.set (by simpa [Nat.blt_eq] using hb) (hd (by simp)),rfl,rfl,rfl,rfl⟩
theorem RdW.purge (h:RdW F ι d v) (he:∀ t',t'≠t→ι' t'=ι t'):RdW F ι' (d.purge1 t) v:=by
 cases d with
 | own t' =>
  simp only [D.purge1]
  by_cases e:t'=t
  ·subst e; simp; trivial
  ·have:(t' == t)=false:=by simp [e]
   rw [this]
   show v=_
   rw [he _ e]; exact h
 | op t' o =>
  simp only [D.purge1]
  by_cases e:t'=t
  ·subst e; simp; trivial
  ·have:(t' == t)=false:=by simp [e]
   rw [this]
   obtain ⟨B,h1,h2⟩:=h
   exact ⟨B,by rw [he _ e]; exact h1,h2⟩
 | oe t' z i o =>
  simp only [D.purge1]
  by_cases e:t'=t
  ·subst e; simp; trivial
  ·have:(t' == t)=false:=by simp [e]
   rw [this]
   obtain ⟨B,n,cp,h1,h2⟩:=h
   exact ⟨B,n,cp,by rw [he _ e]; exact h1,h2⟩
 | na i =>
  simp only [D.purge1]
  by_cases e:NT=t
  ·subst e; simp; trivial
  ·have:(NT == t)=false:=by simp [e]
   rw [this]
   obtain ⟨hd,h1,h2⟩:=h
   exact ⟨hd,by rw [he _ e]; exact h1,h2⟩
 | nae z i j o =>
  simp only [D.purge1]
  by_cases e:NT=t
  ·subst e; simp; trivial
  ·have:(NT == t)=false:=by simp [e]
   rw [this]
   obtain ⟨hd,B,n,cp,h1,h2⟩:=h
   exact ⟨hd,B,n,cp,by rw [he _ e]; exact h1,h2⟩
 | nas z i a b =>
  simp only [D.purge1]
  by_cases e:NT=t
  ·subst e; simp; trivial
  ·have:(NT == t)=false:=by simp [e]
   rw [this]
   obtain ⟨hd,q,n,cp,h1,h2⟩:=h
   exact ⟨hd,q,n,cp,by rw [he _ e]; exact h1,h2⟩
 | aggo ds t' =>
  simp only [D.purge1]
  by_cases e:t'=t
  ·subst e; simp; trivial
  ·have:(t' == t)=false:=by simp [e]
   rw [this]
   obtain ⟨cs,h1,h2⟩:=h
   exact ⟨cs,by rw [he _ e]; exact h1,h2⟩
 | aggh t' ds =>
  simp only [D.purge1]
  by_cases e:t'=t
  ·subst e; simp; trivial
  ·have:(t' == t)=false:=by simp [e]
   rw [this]
   obtain ⟨cs,h1,h2⟩:=h
   exact ⟨cs,by rw [he _ e]; exact h1,h2⟩
 | clov f t' ds =>
  simp only [D.purge1]
  by_cases e:t'=t
  ·subst e; simp; trivial
  ·have:(t' == t)=false:=by simp [e]
   rw [this]
   obtain ⟨B,cs,h1,h2,h3⟩:=h
   exact ⟨B,cs,by rw [he _ e]; exact h1,h2,h3⟩
 | nap o =>
  simp only [D.purge1]
  by_cases e:NT=t
  ·subst e; simp; trivial
  ·have:(NT == t)=false:=by simp [e]
   rw [this]
   show NapR _ o v
   rw [he _ e]
   exact h
 | opb t' b =>
  simp only [D.purge1]
  by_cases e:t'=t
  ·subst e; simp; trivial
  ·have:(t' == t)=false:=by simp [e]
   rw [this]
   obtain ⟨B,h1,h2⟩:=h
   exact ⟨B,by rw [he _ e]; exact h1,h2⟩
 | _=>exact h
theorem RdW.frz {x:D} (h:RdW F ι d v) (hx:Rd F [x] [(ι t).1]):RdW F ι (d.frz1 t x) v:=by
 cases d with
 | own t' =>
  simp only [D.frz1]
  by_cases e:t'=t
  ·subst e
   have h':v=(ι t').1:=h
   simp
   rw [h']
   exact .of_rd hx
  ·have:(t' == t)=false:=by simp [e]
   rw [this]
   exact h
 | op t' o =>
  simp only [D.frz1]
  by_cases e:t'=t
  ·subst e
   simp only [beq_self_eq_true,cond_true]
   split
   ·rename_i ds off
    obtain ⟨B,h1,h2⟩:=h
    obtain ⟨B',o',cs,e',g1,g2⟩:=Rd.fp_inv hx
    rw [h1] at e'
    have e1:B=B'∧0=o'+off:=by simpa using e'
    obtain ⟨rfl,e2⟩:=e1
    have h0:o'=0∧off=0:=by omega
    obtain ⟨rfl,rfl⟩:=h0
    have:=Rd.fp (off:=o) g1 g2 .nil
    rw [Nat.zero_add] at this
    rw [h2]
    exact this
   ·trivial
  ·have:(t' == t)=false:=by simp [e]
   rw [this]
   exact h
 | na i =>
  simp only [D.frz1]
  by_cases e:NT=t
  ·subst e; simp; trivial
  ·have:(NT == t)=false:=by simp [e]
   rw [this]; exact h
 | nae z i j o =>
  simp only [D.frz1]
  by_cases e:NT=t
  ·subst e; simp; trivial
  ·have:(NT == t)=false:=by simp [e]
   rw [this]; exact h
 | nas z i a b =>
  simp only [D.frz1]
  by_cases e:NT=t
  ·subst e; simp; trivial
  ·have:(NT == t)=false:=by simp [e]
   rw [this]; exact h
 | aggo ds t' =>
  simp only [D.frz1]
  by_cases e:t'=t
  ·subst e; simp; trivial
  ·have:(t' == t)=false:=by simp [e]
   rw [this]; exact h
 | aggh t' ds =>
  simp only [D.frz1]
  by_cases e:t'=t
  ·subst e; simp; trivial
  ·have:(t' == t)=false:=by simp [e]
   rw [this]; exact h
 | clov f t' ds =>
  simp only [D.frz1]
  by_cases e:t'=t
  ·subst e; simp; trivial
  ·have:(t' == t)=false:=by simp [e]
   rw [this]; exact h
 | nap o =>
  simp only [D.frz1]
  by_cases e:NT=t
  ·subst e; simp; trivial
  ·have:(NT == t)=false:=by simp [e]
   rw [this]; exact h
 | opb t' b =>
  simp only [D.frz1]
  by_cases e:t'=t
  ·subst e; simp; trivial
  ·have:(t' == t)=false:=by simp [e]
   rw [this]; exact h
 | oe t' z i o =>
  simp only [D.frz1]
  by_cases e:t'=t
  ·subst e; simp; trivial
  ·have:(t' == t)=false:=by simp [e]
   rw [this]
   exact h
 | _=>exact h
end
end Go.Proofs.YtkmigbicabfodaaGreat.V
namespace Go.Proofs.YtkmigbicabfodaaGreat.V
open Go K
section
variable {F F':Frz} {ι ι':Gh} {s s':St} {ρ:List Value} {d:D} {v:Value} {t:Nat} {L0:List Blk} {h:Array Obj}
theorem purge1_purge1:∀ d:D,(d.purge1 t).purge1 t=d.purge1 t:=by
 intro d
 cases d with
 | own t'=>cases hb:(t' == t) <;> simp [hb,D.purge1]
 | op t' o=>cases hb:(t' == t) <;> simp [hb,D.purge1]
 | oe t' z i o=>cases hb:(t' == t) <;> simp [hb,D.purge1]
 | na i=>cases hb:(NT == t) <;> simp [hb,D.purge1]
 | nae z i j o=>cases hb:(NT == t) <;> simp [hb,D.purge1]
 | nas z i a b=>cases hb:(NT == t) <;> simp [hb,D.purge1]
 | aggo ds t'=>cases hb:(t' == t) <;> simp [hb,D.purge1]
 | aggh t' ds=>cases hb:(t' == t) <;> simp [hb,D.purge1]
 | clov f t' ds=>cases hb:(t' == t) <;> simp [hb,D.purge1]
 | opb t' b=>cases hb:(t' == t) <;> simp [hb,D.purge1]
 | nap o=>cases hb:(NT == t) <;> simp [hb,D.purge1]
 | _=>rfl
theorem RdW.other (h:RdW F ι d v) (hp:d.purge1 t=d) (he:∀ t',t'≠t→ι' t'=ι t'):RdW F ι' d v:=by
 have:=h.purge (t:=t) he
 rwa [hp] at this
theorem F2.map_l {α β γ:Type} {R:α→β→Prop} {R':γ→β→Prop} {f:α→γ} (hi:∀ a b,R a b→R' (f a) b):∀ {l:List α} {m:List β},F2 R l m→F2 R' (l.map f) m
 | _,_, .nil => .nil
 | _,_, .cons h t => .cons (hi _ _ h) (F2.map_l hi t)
theorem RdV.purge (h:RdV F ι d v) (he:∀ t',t'≠t→ι' t'=ι t'):RdV F ι' (d.purge t) v:=by
 cases d with
 | tup ds=>obtain ⟨vs,h1,h2⟩:=h; exact ⟨vs,h1,h2.map_l fun _ _ h=>h.purge he⟩
 | _=>exact .of_w ((RdV.to_w h (fun _ e=>by cases e)).purge he)
theorem RdV.frz {x:D} (h:RdV F ι d v) (hx:Rd F [x] [(ι t).1]):RdV F ι (d.frz t x) v:=by
 cases d with
 | tup ds=>obtain ⟨vs,h1,h2⟩:=h; exact ⟨vs,h1,h2.map_l fun _ _ h=>h.frz hx⟩
 | _=>exact .of_w ((RdV.to_w h (fun _ e=>by cases e)).frz hx)
theorem split_ow {b:OB} (hn:(s.ow.map (·.1)).Nodup) (hl:s.look t=some b):∃ A B,s.ow=A++(t,b)::B∧(∀ p∈A,p.1≠t)∧∀ p∈B,p.1≠t:=by
 obtain ⟨A,B,h⟩:=List.append_of_mem (look_mem hl)
 rw [h,List.map_append,List.map_cons,List.nodup_append,List.nodup_cons] at hn
 refine ⟨A,B,h,fun p hp e=>?_,fun p hp e=>?_⟩
 ·exact hn.2.2 p.1 (List.mem_map.2 ⟨p,hp,rfl⟩) t (by simp) e
 ·exact hn.2.1.1 (e ▸ List.mem_map.2 ⟨p,hp,rfl⟩)
theorem filter_ne {A:List (Nat×OB)} (h:∀ p∈A,p.1≠t):A.filter (fun p=>!(p.1 == t))=A:=List.filter_eq_self.2 fun p hp=>by simp [h p hp]
theorem lv_congr {A B:List (Nat×OB)} (h:A.map (·.1)=B.map (·.1)):lv ι A=lv ι B:=by
 have:∀ A:List (Nat×OB),lv ι A=(A.map (·.1)).flatMap fun t=>(ι t).2:=fun A=>by simp [lv,List.flatMap_map]
 rw [this,this,h]
theorem lv_other {A:List (Nat×OB)} (h:∀ p∈A,ι' p.1=ι p.1):lv ι' A=lv ι A:=by
 unfold lv
 induction A with
 | nil=>rfl
 | cons p A ih=>simp only [List.flatMap_cons]; rw [h p (by simp),ih fun q hq=>h q (by simp [hq])]
theorem lv_append (A B:List (Nat×OB)):lv ι (A++B)=lv ι A++lv ι B:=by simp [lv]
theorem lv_cons (p:Nat×OB) (B:List (Nat×OB)):lv ι (p::B)=(ι p.1).2++lv ι B:=by simp [lv]
theorem purge_keys (s:St) (t:Nat):(s.purge t).ow.map (·.1)=(s.ow.filter fun p=>!(p.1 == t)).map (·.1):=by simp [St.purge,List.map_map,Function.comp_def]
theorem purge_ne {p:Nat×OB} (hp:p∈(s.purge t).ow):p.1≠t:=by
 have:p.1∈(s.purge t).ow.map (·.1):=List.mem_map.2 ⟨p,hp,rfl⟩
 rw [purge_keys] at this
 obtain ⟨q,hq,he⟩:=List.mem_map.1 this
 rw [← he]
 simpa using (List.mem_filter.1 hq).2
theorem RdW.purgeC {k:Bool} (h:RdW F ι d v) (hk:k=true→(ι t).1.oneCell'=true) (he:∀ t',t'≠t→ι' t'=ι t'):RdW F ι' (d.purgeC k t) v:=by
 by_cases hd:d = .own t
 ·subst hd
  cases k with
  | false=>simp only [D.purgeC,beq_self_eq_true,cond_true,cond_false]; trivial
  | true =>
   simp only [D.purgeC,beq_self_eq_true,cond_true]
   have hv:v=(ι t).1:=h
   subst hv
   exact .of_rd (.any (hk rfl) .nil)
 ·have e:d.purgeC k t=d.purge1 t:=by
   cases d with
   | own t' =>
    have:(t' == t)=false:=by simp; exact fun e=>hd (by rw [e])
    simp only [D.purgeC,D.purge1,this,cond_false]
   | _=>rfl
  rw [e]
  exact h.purge he
theorem purge1_purgeC {k:Bool}:∀ d:D,(d.purgeC k t).purgeC false t=d.purgeC k t:=by
 intro d
 cases d with
 | own t'=>cases hb:(t' == t) <;> cases k <;> simp [hb,D.purgeC,D.purge1]
 | op t' o=>cases hb:(t' == t) <;> simp [hb,D.purgeC,D.purge1]
 | oe t' z i o=>cases hb:(t' == t) <;> simp [hb,D.purgeC,D.purge1]
 | na i=>cases hb:(NT == t) <;> simp [hb,D.purgeC,D.purge1]
 | nae z i j o=>cases hb:(NT == t) <;> simp [hb,D.purgeC,D.purge1]
 | nas z i a b=>cases hb:(NT == t) <;> simp [hb,D.purgeC,D.purge1]
 | aggo ds t'=>cases hb:(t' == t) <;> simp [hb,D.purgeC,D.purge1]
 | aggh t' ds=>cases hb:(t' == t) <;> simp [hb,D.purgeC,D.purge1]
 | clov f t' ds=>cases hb:(t' == t) <;> simp [hb,D.purgeC,D.purge1]
 | opb t' b=>cases hb:(t' == t) <;> simp [hb,D.purgeC,D.purge1]
 | nap o=>cases hb:(NT == t) <;> simp [hb,D.purgeC,D.purge1]
 | _=>rfl
theorem look_none {s:St} (h:∀ p∈s.ow,p.1≠t):s.look t=none:=by
 unfold St.look
 rw [Option.map_eq_none_iff,List.find?_eq_none]
 intro p hp
 simpa using h p hp
theorem look_in {s:St} {b:OB} (h:s.look t=some b):(t,b)∈s.ow:=by
 unfold St.look at h
 obtain ⟨p,hp,rfl⟩:=Option.map_eq_some_iff.1 h
 have h1:=List.mem_of_find?_eq_some hp
 have h2:=List.find?_some hp
 have:p.1=t:=by simpa using h2
 rw [← this]
 exact h1
theorem OwnR.purge {b:OB} {k:Bool} {t':Nat} (hne:t'≠t) (h:OwnR F ι t' b) (hk:k=true→(ι t).1.oneCell'=true) (he:∀ t',t'≠t→ι' t'=ι t'):OwnR F ι' t' (b.purge k t):=by
 cases b with
 | rows e T xs =>
  obtain ⟨q,n,cp,rows,h1,h2,h3⟩:=h
  exact ⟨q,n,cp,rows,by rw [he _ hne]; exact h1,by rw [he _ hne]; exact h2,h3⟩
 | cells T ds =>
  obtain ⟨B,cs,h1,h2,h3⟩:=h
  exact ⟨B,cs,by rw [he _ hne]; exact h1,by rw [he _ hne]; exact h2,h3.map_l fun a b hab=>hab.purgeC hk he⟩
 | nodes c T A hs hole =>
  obtain ⟨h0,hds,h1,h2,h3⟩:=h
  exact ⟨h0,hds,by rw [he _ hne]; exact h1,by rw [he _ hne]; exact h2,h3⟩
 | nodesR c hs=>exact ⟨by rw [he _ hne]; exact h.1,h.2⟩
 | mp l =>
  obtain ⟨B,cs,h1,h2,h3⟩:=h
  exact ⟨B,cs,by rw [he _ hne]; exact h1,by rw [he _ hne]; exact h2,h3⟩
 | sit l pos =>
  obtain ⟨B,h1,h2⟩:=h
  exact ⟨B,by rw [he _ hne]; exact h1,by rw [he _ hne]; exact h2⟩
theorem Rel.purge' (hr:Rel F ι s ρ) (he:∀ t',t'≠t→ι' t'=ι t'):Rel F ι' (s.purge t) ρ:=by
 refine ⟨hr.len,fun i=>(hr.sl i).purge he,fun p hp=>?_,?_⟩
 ·have hne:=purge_ne hp
  simp only [St.purge,List.mem_map,List.mem_filter] at hp
  obtain ⟨q,⟨hq,_⟩,rfl⟩:=hp
  refine (hr.ow q hq).purge hne (fun hg=>?_) he
  unfold St.gone at hg
  cases hl:s.look t with
  | none=>rw [hl] at hg; cases hg
  | some b =>
   rw [hl] at hg
   cases b with
   | rows e T xs =>
    obtain ⟨q0,n,cp,rows,h1,_⟩:=hr.ow _ (look_in hl)
    rw [h1]; rfl
   | _=>cases hg
 ·rw [purge_keys]
  exact hr.nd.sublist ((List.filter_sublist).map _)
theorem Rel.purge (hr:Rel F ι s ρ):Rel F ι (s.purge t) ρ:=hr.purge' fun _ _=>rfl
theorem filter_sub (s:St) (t:Nat):(lv ι (s.ow.filter fun p=>!(p.1 == t))).Sublist (lv ι s.ow):=by
 unfold lv
 induction s.ow with
 | nil=>exact .slnil
 | cons p A ih =>
  rw [List.filter_cons]
  split
  ·simp only [List.flatMap_cons]; exact (List.Sublist.refl _).append ih
  ·simp only [List.flatMap_cons]; exact ih.trans (List.sublist_append_right _ _)
theorem purge_sub (s:St) (t:Nat):(lv ι (s.purge t).ow).Sublist (lv ι s.ow):=by
 rw [lv_congr (purge_keys s t)]
 exact filter_sub s t
theorem purge_lv (he:∀ t',t'≠t→ι' t'=ι t'):lv ι' (s.purge t).ow=lv ι (s.purge t).ow:=lv_other fun _ hp=>he _ (purge_ne hp)
theorem Hp.purge (hm:Hp h F (lv ι s.ow++L0)):Hp h F (lv ι (s.purge t).ow++L0):=hm.sub ((purge_sub s t).append (List.Sublist.refl _))
def Gh.upd (ι:Gh) (t:Nat) (x:Value×List Blk):Gh:=fun t'=>if t'=t then x else ι t'
theorem Gh.upd_ne {x:Value×List Blk} {t':Nat} (h:t'≠t):ι.upd t x t'=ι t':=by simp [Gh.upd,h]
theorem Gh.upd_same {x:Value×List Blk}:ι.upd t x t=x:=by simp [Gh.upd]
theorem Rel.make {b:OB} {x:Value×List Blk} (hr:Rel F ι (s.purge t) ρ) (hb:OwnR F (ι.upd t x) t b):Rel F (ι.upd t x) ((s.purge t).make t b) ρ∧lv (ι.upd t x) ((s.purge t).make t b).ow=x.2++lv ι (s.purge t).ow:=by
 have h2:Rel F (ι.upd t x) ((s.purge t).purge t) ρ:=hr.purge' fun t' h=>Gh.upd_ne h
 have hs:(s.purge t).purge t=s.purge t:=by
  simp only [St.purge,St.mk.injEq,true_and]
  refine ⟨funext fun i=>?_,?_⟩
  ·cases s.sl i with
   | tup ds=>simp [D.purge,purge1_purge1]
   | own t'=>cases hb:(t' == t) <;> simp [hb,D.purge,D.purge1]
   | op t' o=>cases hb:(t' == t) <;> simp [hb,D.purge,D.purge1]
   | oe t' z i o=>cases hb:(t' == t) <;> simp [hb,D.purge,D.purge1]
   | na i=>cases hb:(NT == t) <;> simp [hb,D.purge,D.purge1]
   | nae z i j o=>cases hb:(NT == t) <;> simp [hb,D.purge,D.purge1]
   | nas z i a b=>cases hb:(NT == t) <;> simp [hb,D.purge,D.purge1]
   | aggo ds t'=>cases hb:(t' == t) <;> simp [hb,D.purge,D.purge1]
   | aggh t' ds=>cases hb:(t' == t) <;> simp [hb,D.purge,D.purge1]
   | clov f t' ds=>cases hb:(t' == t) <;> simp [hb,D.purge,D.purge1]
   | opb t' b=>cases hb:(t' == t) <;> simp [hb,D.purge,D.purge1]
   | nap o=>cases hb:(NT == t) <;> simp [hb,D.purge,D.purge1]
   | _=>rfl
  ·rw [List.filter_map,List.filter_filter]
   simp only [List.map_map,Function.comp_def]
   have hgo:(s.purge t).gone t=false:=by
    unfold St.gone
    rw [look_none fun p hp=>purge_ne hp]
   have hg2:St.gone ⟨s.n,s.np,s.nw,fun i=>(s.sl i).purge t,(s.ow.filter fun p=>!(p.1 == t)).map fun p=>(p.1,p.2.purge (s.gone t) t)⟩ t=false:=hgo
   have:∀ b:OB,(b.purge (s.gone t) t).purge false t=b.purge (s.gone t) t:=fun b=>by
    cases b with
    | rows e T xs=>rfl
    | cells T ds=>simp [OB.purge,purge1_purgeC]
    | nodes c T A hs hole=>rfl
    | nodesR c hs=>rfl
    | mp l=>rfl
    | sit l pos=>rfl
   simp [this]
   intro a b _ _
   exact (congrArg (fun k=>OB.purge k t (OB.purge (s.gone t) t b)) hg2).trans (this b)
 rw [hs] at h2
 refine ⟨⟨h2.len,h2.sl,fun p hp=>?_,?_⟩,?_⟩
 ·rcases List.mem_cons.1 hp with rfl | hp
  ·exact hb
  ·exact h2.ow p hp
 ·simp only [St.make,List.map_cons,List.nodup_cons]
  exact ⟨fun hin=>by obtain ⟨p,hp,he⟩:=List.mem_map.1 hin; exact purge_ne hp he,h2.nd⟩
 ·simp only [St.make,lv_cons,Gh.upd_same]
  rw [purge_lv fun t' h=>Gh.upd_ne h]
theorem Rel.upd {b b':OB} {x:Value×List Blk} (hr:Rel F ι s ρ) (hl:s.look t=some b) (hx:x.1=(ι t).1) (hb:OwnR F (ι.upd t x) t b'):Rel F (ι.upd t x) (s.upd t b') ρ∧∃ l1 l2,lv ι s.ow=l1++((ι t).2++l2)∧lv (ι.upd t x) (s.upd t b').ow=l1++(x.2++l2)∧lv ι (s.purge t).ow=l1++l2:=by
 have hW:∀ d v,RdW F ι d v→RdW F (ι.upd t x) d v:=fun d v h=>by
  have h1:∀ t',(ι.upd t x t').1=(ι t').1:=fun t'=>by
   by_cases e:t'=t
   ·subst e; rw [Gh.upd_same,hx]
   ·rw [Gh.upd_ne e]
  cases d with
  | own t'=>show v=_; rw [h1]; exact h
  | op t' o=>obtain ⟨B,a,c⟩:=h; exact ⟨B,by rw [h1]; exact a,c⟩
  | oe t' z i o=>obtain ⟨B,n,cp,a,c⟩:=h; exact ⟨B,n,cp,by rw [h1]; exact a,c⟩
  | na i=>obtain ⟨hd,a,c⟩:=h; exact ⟨hd,by rw [h1]; exact a,c⟩
  | nae z i j o=>obtain ⟨hd,B,n,cp,a,c⟩:=h; exact ⟨hd,B,n,cp,by rw [h1]; exact a,c⟩
  | nas z i x y=>obtain ⟨hd,B,n,cp,a,c⟩:=h; exact ⟨hd,B,n,cp,by rw [h1]; exact a,c⟩
  | aggo ds t'=>obtain ⟨cs,a,c⟩:=h; exact ⟨cs,by rw [h1]; exact a,c⟩
  | aggh t' ds=>obtain ⟨cs,a,c⟩:=h; exact ⟨cs,by rw [h1]; exact a,c⟩
  | clov f t' ds=>obtain ⟨B,cs,a,c⟩:=h; exact ⟨B,cs,by rw [h1]; exact a,c⟩
  | opb t' b=>obtain ⟨B,a,c⟩:=h; exact ⟨B,by rw [h1]; exact a,c⟩
  | nap o=>show NapR _ o v; rw [h1]; exact h
  | _=>exact h
 have hV:∀ d v,RdV F ι d v→RdV F (ι.upd t x) d v:=fun d v h=>by
  cases d with
  | tup ds=>obtain ⟨vs,a,c⟩:=h; exact ⟨vs,a,forall2_imp hW c⟩
  | _=>exact .of_w (hW _ _ (RdV.to_w h (fun _ e=>by cases e)))
 have hO:∀ t' b,t'≠t→OwnR F ι t' b→OwnR F (ι.upd t x) t' b:=fun t' b hne h=>by
  cases b with
  | rows e T xs=>obtain ⟨q,n,cp,rows,a,c,f⟩:=h; exact ⟨q,n,cp,rows,by rw [Gh.upd_ne hne]; exact a,by rw [Gh.upd_ne hne]; exact c,f⟩
  | cells T ds=>obtain ⟨B,cs,a,c,f⟩:=h; exact ⟨B,cs,by rw [Gh.upd_ne hne]; exact a,by rw [Gh.upd_ne hne]; exact c,forall2_imp hW f⟩
  | nodes cl T A hs hole=>obtain ⟨h0,hds,a,c,f⟩:=h; exact ⟨h0,hds,by rw [Gh.upd_ne hne]; exact a,by rw [Gh.upd_ne hne]; exact c,f⟩
  | nodesR c hs=>exact ⟨by rw [Gh.upd_ne hne]; exact h.1,h.2⟩
  | mp l=>obtain ⟨B,cs,a,c,f⟩:=h; exact ⟨B,cs,by rw [Gh.upd_ne hne]; exact a,by rw [Gh.upd_ne hne]; exact c,f⟩
  | sit l pos=>obtain ⟨B,a,c⟩:=h; exact ⟨B,by rw [Gh.upd_ne hne]; exact a,by rw [Gh.upd_ne hne]; exact c⟩
 obtain ⟨A,B,hs,hA,hB⟩:=split_ow hr.nd hl
 have hm:∀ A:List (Nat×OB),(∀ p∈A,p.1≠t)→A.map (fun p=>cond (p.1 == t) (t,b') p)=A:=fun A hA=>by
  refine (List.map_congr_left fun p hp=>?_).trans (List.map_id _)
  have:(p.1 == t)=false:=by simp [hA p hp]
  rw [this]
  rfl
 have hu:(s.upd t b').ow=A++(t,b')::B:=by
  simp only [St.upd,hs,List.map_append,List.map_cons,hm A hA,hm B hB]
  simp
 refine ⟨⟨hr.len,fun i=>hV _ _ (hr.sl i),fun p hp=>?_,?_⟩,lv ι A,lv ι B,?_,?_,?_⟩
 ·rw [hu] at hp
  rcases List.mem_append.1 hp with hp | hp
  ·exact hO _ _ (hA p hp) (hr.ow p (by rw [hs]; simp [hp]))
  ·rcases List.mem_cons.1 hp with rfl | hp
   ·exact hb
   ·exact hO _ _ (hB p hp) (hr.ow p (by rw [hs]; simp [hp]))
 ·have:=hr.nd
  rw [hs] at this
  rw [hu]
  simpa using this
 ·rw [hs,lv_append,lv_cons]
 ·rw [hu,lv_append,lv_cons,Gh.upd_same,lv_other fun p hp=>Gh.upd_ne (hA p hp),lv_other fun p hp=>Gh.upd_ne (hB p hp)]
 ·rw [lv_congr (purge_keys s t),hs,List.filter_append,List.filter_cons,filter_ne hA,filter_ne hB]
  simp [lv_append]
theorem cellsF_row {F:Frz} {B:Nat} {e:TypeId} {fz:Nat×Nat}:∀ (cs pre post:List Value) (off:Nat),F.m B=some (.cells (pre++cs++post).toArray e fz)→off=pre.length→cellsF F B off cs
 | [],_,_,_,_,_=>trivial
 | c::cs,pre,post,off,hb,ho=>by
  subst ho
  refine ⟨?_,cellsF_row cs (pre++[c]) post (pre.length+1) (by simpa using hb) (by simp)⟩
  unfold cellF
  rw [hb]
  simp
theorem freeze_keys (s:St) (t:Nat) (d:D):(s.freeze t d).ow.map (·.1)=(s.ow.filter fun p=>!(p.1 == t)).map (·.1):=by simp [St.freeze,List.map_map,Function.comp_def]
theorem own_rd {e:E} {T:TypeId} {xs:List e.T} (ho:OwnR F ι t (.rows e T xs)) (hf:F.le F') (hF:∀ p∈(ι t).2,isB (F'.m p.1) p):Rd F' [.lst e xs] [(ι t).1]:=by
 obtain ⟨q,n,cp,rows,h1,h2,h3⟩:=ho
 have hn:xs.length=n:=by rw [h2.len,← forall2_len h3]
 rw [h1,← hn]
 refine Rd.of_at (by rw [hn]; exact h2.le) fun i x hx=>?_
 obtain ⟨r,hr,hrd⟩:=forall2_get h3 hx
 obtain ⟨pre,post,e1,e2⟩:=flat_split h2.row hr
 rcases h2.sh with ⟨he,_,hv⟩ | ⟨B,n',cap,spare,he,hL,_,_,_⟩
 ·have hz:n=0:=by cases he; rfl
  have:=(List.getElem?_eq_some_iff.1 hx).1
  omega
 ·cases he
  refine ⟨r,rfl,?_,hrd.mono hf⟩
  obtain ⟨fz,_,this⟩:=(hF (B,rows.flatten++spare,BT.c T) (by rw [hL]; simp)).cells
  simp only at this
  rw [e1] at this
  exact cellsF_row r pre (post++spare) _ (by simpa [blk] using this) (by simp [offs,e2])
theorem OwnR.frz {b:OB} {t':Nat} {x:D} (h:OwnR F ι t' b) (hx:Rd F [x] [(ι t).1]):OwnR F ι t' (OB.frz t x b):=by
 cases b with
 | cells T ds =>
  obtain ⟨B,cs,a,c,f⟩:=h
  exact ⟨B,cs,a,c,f.map_l fun _ _ h=>h.frz hx⟩
 | rows e T xs=>exact h
 | nodes c T A hs hole=>exact h
 | nodesR c hs=>exact h
 | mp l=>exact h
 | sit l pos=>exact h
theorem Rel.freeze' {b:OB} {x:D} (hr:Rel F ι s ρ) (hm:Hp h F (lv ι s.ow++L0)) (hl:s.look t=some b) (hx:∀ F',F.le F'→(∀ p∈(ι t).2,isB (F'.m p.1) p)→Rd F' [x] [(ι t).1]):∃ F',F.le F'∧F'.nid=F.nid∧Hp h F' (lv ι (s.freeze t x).ow++L0)∧Rel F' ι (s.freeze t x) ρ∧Rd F' [x] [(ι t).1]:=by
 obtain ⟨A,B,hs,hA,hB⟩:=split_ow hr.nd hl
 have hf:s.ow.filter (fun p=>!(p.1 == t))=A++B:=by rw [hs,List.filter_append,List.filter_cons,filter_ne hA,filter_ne hB]; simp
 have hm1:Hp h F ((ι t).2++(lv ι (A++B)++L0)):=by
  refine hm.perm ?_
  rw [hs,lv_append,lv_append,lv_cons]
  simp only [List.append_assoc]
  refine (List.perm_append_comm_assoc _ _ _)
 have hn:=hm1.nodup
 rw [List.map_append,List.nodup_append] at hn
 obtain ⟨hm2,hle⟩:=hm1.freeze
 have hrd:=hx (F.add h (ι t).2) hle fun p hp=>add_get hm1 hp
 refine ⟨F.add h (ι t).2,hle,rfl,?_,⟨hr.len,fun i=>((hr.sl i).mono hle).frz hrd,fun p hp=>?_,?_⟩,hrd⟩
 ·rw [lv_congr (freeze_keys s t _),hf]
  exact hm2
 ·simp only [St.freeze,List.mem_map,List.mem_filter] at hp
  obtain ⟨q,⟨hq,_⟩,rfl⟩:=hp
  exact ((hr.ow q hq).mono hle fun _=>rfl).frz hrd
 ·rw [freeze_keys]
  exact hr.nd.sublist ((List.filter_sublist).map _)
theorem cells_fp {T:TypeId} {ds:List D} (ho:OwnR F ι t (.cells T ds)) (hp:ds.all D.plain=true) (hf:F.le F') (hF:∀ p∈(ι t).2,isB (F'.m p.1) p):Rd F' [.fp ds 0] [(ι t).1]:=by
 obtain ⟨B,cs,h1,h2,h3⟩:=ho
 rw [h1]
 have h4:Rd F ds cs:=by
  clear h1 h2 hF
  induction h3 with
  | nil=>exact .nil
  | cons h t ih =>
   simp only [List.all_cons,Bool.and_eq_true] at hp
   exact (h.to_rd hp.1).cons (ih hp.2)
 obtain ⟨fz,_,h5⟩:=(hF (B,cs,BT.c T) (by rw [h2]; simp)).cells
 have h5:F'.m B=some (.cells ([]++cs++[]).toArray T fz):=by simpa using h5
 exact .fp (o:=0) (off:=0) (cellsF_row cs [] [] 0 h5 rfl) (h4.mono hf) .nil
theorem Rel.freeze {e:E} {T:TypeId} {xs:List e.T} (hr:Rel F ι s ρ) (hm:Hp h F (lv ι s.ow++L0)) (hl:s.look t=some (.rows e T xs)):∃ F',F.le F'∧F'.nid=F.nid∧Hp h F' (lv ι (s.freeze t (.lst e xs)).ow++L0)∧Rel F' ι (s.freeze t (.lst e xs)) ρ∧Rd F' [.lst e xs] [(ι t).1] :=
 hr.freeze' hm hl fun F' hf hF=>own_rd (hr.look hl) hf hF
theorem Rel.freezeB {T:TypeId} {ds:List D} (hr:Rel F ι s ρ) (hm:Hp h F (lv ι s.ow++L0)) (hl:s.look t=some (.cells T ds)) (hp:ds.all D.plain=true):∃ F',F.le F'∧F'.nid=F.nid∧Hp h F' (lv ι (s.freeze t (.fp ds 0)).ow++L0)∧Rel F' ι (s.freeze t (.fp ds 0)) ρ∧Rd F' [.fp ds 0] [(ι t).1] :=
 hr.freeze' hm hl fun F' hf hF=>cells_fp (hr.look hl) hp hf hF
end
end Go.Proofs.YtkmigbicabfodaaGreat.V
