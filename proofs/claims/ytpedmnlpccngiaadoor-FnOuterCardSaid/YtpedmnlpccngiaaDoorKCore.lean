/-
  A walk for a function's code, rule by rule: what is asked of the machine's steps, over slots and memory alone. Nothing is claimed of the program here.
-/
import Derived.Deep.Quiet
import Derived.Tactics
import Derived.KernelRfl
import Derived.WalkKit
import Derived.Scope
set_option linter.unusedVariables false
set_option linter.unusedSimpArgs false
namespace Go.Proofs.YtpedmnlpccngiaaDoor.K
open Go

structure Env where
  os : Os
  out : Array (Nat × ByteArray)
  tape : Nat → Question → Nat

def At (E : Env) (h : Array Obj) (w : World) : Prop := w.heap = h ∧ w.os = E.os ∧ w.output = E.out ∧ w.tape = E.tape

def act (ρ : List Value) : Act := { tmps := ρ.toArray, defers := [] }

def ev (ρ : List Value) : Operand → Value
  | .tmp t => ρ.getD t undef
  | .const v => v
  | .global g => .pointer (some ⟨g, 0, none⟩)
  | .func f => .func (.func f) #[] #[]

theorem eval_mk (ρ : List Value) : (act ρ).eval = ev ρ := by
  funext x
  cases x <;> simp [Act.eval, ev, act]

def base (f : FuncId) : Frame := { (default : Frame) with fn := f, kind := .normal }

/-- From here on the function f comes to its end, with a result of which R holds. -/
structure TW (P : Program) (f : FuncId) (E : Env) (R : Value → Array Obj → Prop) (k : List Item) (ρ : List Value) (h : Array Obj) : Prop where
  out : ∀ w, At E h w → ∀ cs, ∃ v w' fr, (∃ h', At E h' w' ∧ R v h') ∧ Steps P (lone ((base f).at (act ρ) k) cs w) (lone fr cs w') ∧ fr.fn = f ∧ fr.leaving P w' (.returned v)

/-- The contract of a function: it returns, and of its result and the memory behind it R holds. -/
structure Ret (P : Program) (f : FuncId) (args : List Value) (h : Array Obj) (R : Value → Array Obj → Prop) : Prop where
  out : ∀ E w, At E h w → Calls P f args.toArray w fun e w' => ∃ v, e = .returned v ∧ ∃ h', At E h' w' ∧ R v h'

section
variable {P : Program} {f : FuncId} {E : Env} {R : Value → Array Obj → Prop} {k k' : List Item} {ρ ρ' : List Value} {h h' : Array Obj}

theorem TW.step (hs : ∀ cs w, At E h w → step P (lone ((base f).at (act ρ) k) cs w) = .next (lone ((base f).at (act ρ) k') cs w)) (ht : TW P f E R k' ρ h) : TW P f E R k ρ h := by
  refine ⟨fun w hw cs => ?_⟩
  obtain ⟨v, w', fr, hR, hst, hf, hl⟩ := ht.out w hw cs
  exact ⟨v, w', fr, hR, .head (hs cs w hw) hst, hf, hl⟩

theorem TW.of_wp {c : Code} (hw : ∀ w, At E h w → c.wp P (fun e a w' => e = .normal ∧ ∃ ρ' h', a = act ρ' ∧ At E h' w' ∧ TW P f E R k ρ' h') (act ρ) w) : TW P f E R (.code c :: k) ρ h := by
  refine ⟨fun w hA cs => ?_⟩
  obtain ⟨e, a', w', ⟨rfl, ρ', h', rfl, hA', hT⟩, harr⟩ := hw w hA (base f) k cs
  obtain ⟨v, w2, fr, hR, hst, hf, hl⟩ := hT.out w' hA' cs
  exact ⟨v, w2, fr, hR, Steps.trans harr hst, hf, hl⟩

theorem tw_skip (ht : TW P f E R k ρ h) : TW P f E R (.code .skip :: k) ρ h := ht.step fun _ _ _ => step_skip
theorem tw_inBlock {id : Nat} (ht : TW P f E R k ρ h) : TW P f E R (.inBlock id :: k) ρ h := ht.step fun _ _ _ => step_inBlock
theorem tw_seq {a b : Code} (ht : TW P f E R (.code a :: .code b :: k) ρ h) : TW P f E R (.code (.seq a b) :: k) ρ h := ht.step fun _ _ _ => step_seq
theorem tw_block {id : Nat} {c : Code} (ht : TW P f E R (.code c :: .inBlock id :: k) ρ h) : TW P f E R (.code (.block id c) :: k) ρ h := ht.step fun _ _ _ => step_block
theorem tw_scope {c : Code} (ht : TW P f E R (.code c :: .inScope c :: k) ρ h) : TW P f E R (.code (.scope c) :: k) ρ h := ht.step fun _ _ _ => step_scope
theorem tw_inScope {c : Code} (ht : TW P f E R k ρ h) : TW P f E R (.inScope c :: k) ρ h := ht.step fun _ _ _ => step_inScope
theorem tw_goto {l : Nat} (he : gotoIn l k = some k') (ht : TW P f E R k' ρ h) : TW P f E R (.code (.goto l) :: k) ρ h := ht.step fun _ _ _ => step_goto he
theorem tw_label {l : Nat} (ht : TW P f E R k ρ h) : TW P f E R (.code (.label l) :: k) ρ h := ht.step fun _ _ _ => step_label
theorem tw_exit {id : Nat} (he : exitTo id k = some k') (ht : TW P f E R k' ρ h) : TW P f E R (.code (.exit id) :: k) ρ h := ht.step fun _ _ _ => step_exit he
theorem tw_loop0 {c : Code} (ht : TW P f E R (.code c :: .inLoop c :: k) ρ h) : TW P f E R (.code (.loop c) :: k) ρ h := ht.step fun _ _ _ => step_loop
theorem tw_inLoop {c : Code} (ht : TW P f E R (.code c :: .inLoop c :: k) ρ h) : TW P f E R (.inLoop c :: k) ρ h := ht.step fun _ _ _ => step_inLoop

theorem tw_cond {x : Operand} {a b : Code} {t : Bool} (hx : ev ρ x = .bool t) (ht : TW P f E R (.code (if t then a else b) :: k) ρ h) : TW P f E R (.code (.cond x a b) :: k) ρ h :=
  ht.step fun _ _ _ => step_cond (by rw [eval_mk]; exact hx)
theorem tw_cond_t {x : Operand} {a b : Code} (hx : ev ρ x = .bool true) (ht : TW P f E R (.code a :: k) ρ h) : TW P f E R (.code (.cond x a b) :: k) ρ h := tw_cond hx ht
theorem tw_cond_f {x : Operand} {a b : Code} (hx : ev ρ x = .bool false) (ht : TW P f E R (.code b :: k) ρ h) : TW P f E R (.code (.cond x a b) :: k) ρ h := tw_cond hx ht
theorem tw_cond_d {x : Operand} {a b : Code} {p : Prop} [Decidable p] (hx : ev ρ x = .bool (decide p)) (ht : p → TW P f E R (.code a :: k) ρ h) (hf : ¬ p → TW P f E R (.code b :: k) ρ h) : TW P f E R (.code (.cond x a b) :: k) ρ h := by
  by_cases hp : p
  · exact tw_cond_t (by rw [hx]; simp [hp]) (ht hp)
  · exact tw_cond_f (by rw [hx]; simp [hp]) (hf hp)
theorem tw_cond_b {x : Operand} {a b : Code} {t : Bool} (hx : ev ρ x = .bool t) (ht : t = true → TW P f E R (.code a :: k) ρ h) (hf : t = false → TW P f E R (.code b :: k) ρ h) : TW P f E R (.code (.cond x a b) :: k) ρ h := by
  cases t
  · exact tw_cond_f hx (hf rfl)
  · exact tw_cond_t hx (ht rfl)

/-- What a function hands back, out of its slots. -/
theorem tw_ret_any {fn : Func} {v : Value} (hf : P.funcs[f]? = some fn) (hr : ∀ w, At E h w → (results fn ρ.toArray).run P w = .ok v w) (hR : R v h) : TW P f E R (.code .ret :: k) ρ h := by
  refine ⟨fun w hw cs => ?_⟩
  exact ⟨v, w, { (base f).at (act ρ) (.code .ret :: k) with mode := .returning }, ⟨h, hw, hR⟩, .one step_ret, rfl, rfl, rfl, rfl, fn, hf, hr w hw⟩
theorem tw_end_any {fn : Func} {v : Value} (hf : P.funcs[f]? = some fn) (hr : ∀ w, At E h w → (results fn ρ.toArray).run P w = .ok v w) (hR : R v h) : TW P f E R [] ρ h := by
  refine ⟨fun w hw cs => ?_⟩
  exact ⟨v, w, { (base f).at (act ρ) [] with mode := .returning }, ⟨h, hw, hR⟩, .one step_end, rfl, rfl, rfl, rfl, fn, hf, hr w hw⟩

theorem results_one {fn : Func} {t : Tmp} (h : fn.results = #[.tmp t]) (ρ : List Value) (w : World) : (results fn ρ.toArray).run P w = .ok (ev ρ (.tmp t)) w := by
  simp [results, h, ev]
theorem results_zero {fn : Func} (h : fn.results = #[]) (ρ : List Value) (w : World) : (results fn ρ.toArray).run P w = .ok (.tuple #[]) w := by
  simp [results, h]
theorem results_two {fn : Func} {t u : Tmp} (h : fn.results = #[.tmp t, .tmp u]) (ρ : List Value) (w : World) : (results fn ρ.toArray).run P w = .ok (.tuple #[ev ρ (.tmp t), ev ρ (.tmp u)]) w := by
  simp [results, h, ev]
theorem results_three {fn : Func} {t u s : Tmp} (h : fn.results = #[.tmp t, .tmp u, .tmp s]) (ρ : List Value) (w : World) : (results fn ρ.toArray).run P w = .ok (.tuple #[ev ρ (.tmp t), ev ρ (.tmp u), ev ρ (.tmp s)]) w := by
  simp [results, h, ev]
theorem results_four {fn : Func} {t u s r : Tmp} (h : fn.results = #[.tmp t, .tmp u, .tmp s, .tmp r]) (ρ : List Value) (w : World) : (results fn ρ.toArray).run P w = .ok (.tuple #[ev ρ (.tmp t), ev ρ (.tmp u), ev ρ (.tmp s), ev ρ (.tmp r)]) w := by
  simp [results, h, ev]

theorem tw_ret1 {fn : Func} {t : Tmp} {v : Value} (hf : P.funcs[f]? = some fn) (hr : fn.results = #[.tmp t]) (hv : ev ρ (.tmp t) = v) (hR : R v h) : TW P f E R (.code .ret :: k) ρ h :=
  tw_ret_any hf (fun w _ => by rw [results_one hr, hv]) hR
theorem tw_ret0 {fn : Func} (hf : P.funcs[f]? = some fn) (hr : fn.results = #[]) (hR : R (.tuple #[]) h) : TW P f E R (.code .ret :: k) ρ h :=
  tw_ret_any hf (fun w _ => by rw [results_zero hr]) hR
theorem tw_end0 {fn : Func} (hf : P.funcs[f]? = some fn) (hr : fn.results = #[]) (hR : R (.tuple #[]) h) : TW P f E R [] ρ h :=
  tw_end_any hf (fun w _ => by rw [results_zero hr]) hR
theorem tw_ret2 {fn : Func} {t u : Tmp} {v1 v2 : Value} (hf : P.funcs[f]? = some fn) (hr : fn.results = #[.tmp t, .tmp u]) (h1 : ev ρ (.tmp t) = v1) (h2 : ev ρ (.tmp u) = v2) (hR : R (.tuple #[v1, v2]) h) : TW P f E R (.code .ret :: k) ρ h :=
  tw_ret_any hf (fun w _ => by rw [results_two hr, h1, h2]) hR
theorem tw_ret3 {fn : Func} {t u s : Tmp} {v1 v2 v3 : Value} (hf : P.funcs[f]? = some fn) (hr : fn.results = #[.tmp t, .tmp u, .tmp s]) (h1 : ev ρ (.tmp t) = v1) (h2 : ev ρ (.tmp u) = v2) (h3 : ev ρ (.tmp s) = v3) (hR : R (.tuple #[v1, v2, v3]) h) : TW P f E R (.code .ret :: k) ρ h :=
  tw_ret_any hf (fun w _ => by rw [results_three hr, h1, h2, h3]) hR
theorem tw_ret4 {fn : Func} {t u s r : Tmp} {v1 v2 v3 v4 : Value} (hf : P.funcs[f]? = some fn) (hr : fn.results = #[.tmp t, .tmp u, .tmp s, .tmp r]) (h1 : ev ρ (.tmp t) = v1) (h2 : ev ρ (.tmp u) = v2) (h3 : ev ρ (.tmp s) = v3) (h4 : ev ρ (.tmp r) = v4) (hR : R (.tuple #[v1, v2, v3, v4]) h) : TW P f E R (.code .ret :: k) ρ h :=
  tw_ret_any hf (fun w _ => by rw [results_four hr, h1, h2, h3, h4]) hR

/-- A function's contract, out of its body. -/
theorem ret_of_tw {fn : Func} {c : Code} {args : List Value} (hf : P.funcs[f]? = some fn) (hb : fn.body = some c) (hρ : args ++ List.replicate (fn.ntmps - args.length) undef = ρ)
    (ht : ∀ E, TW P f E R [.code c] ρ h) : Ret P f args h R := by
  refine ⟨fun E w hw cs => ?_⟩
  obtain ⟨v, w', fr, hR, hst, hf', hl⟩ := (ht E).out w hw cs
  have henter : Frame.enter P f args.toArray .normal = (base f).at (act ρ) [.code c] := by
    simp [Frame.enter, Frame.at, hf, hb, base, act, ← hρ]
  refine ⟨.returned v, w', fr, ⟨v, rfl, hR⟩, ?_, hf', hl⟩
  rw [henter]
  exact hst

theorem Ret.mono {args : List Value} {R R' : Value → Array Obj → Prop} (hr : Ret P f args h R) (hm : ∀ v h', R v h' → R' v h') : Ret P f args h R' :=
  ⟨fun E w hw => (hr.out E w hw).mono fun _ _ ⟨v, he, h', hA, hR⟩ => ⟨v, he, h', hA, hm _ _ hR⟩⟩

/-- A loop, by induction: I holds of what is told by x at each round's head. -/
theorem tw_loop {X : Type} {c : Code} (μ : X → Nat) (I : X → List Value → Array Obj → Prop)
    (round : ∀ x ρ h, I x ρ h → (∀ y ρ' h', μ y < μ x → I y ρ' h' → TW P f E R (.inLoop c :: k) ρ' h') → TW P f E R (.code c :: .inLoop c :: k) ρ h)
    (x : X) (hI : I x ρ h) : TW P f E R (.code (.loop c) :: k) ρ h := by
  refine tw_loop0 ?_
  have key : ∀ n x ρ h, μ x = n → I x ρ h → TW P f E R (.code c :: .inLoop c :: k) ρ h := by
    intro n
    induction n using Nat.strongRecOn with
    | _ n ih =>
      intro x ρ h hn hI
      exact round x ρ h hI fun y ρ' h' hlt hI' => tw_inLoop (ih (μ y) (hn ▸ hlt) y ρ' h' rfl hI')
  exact key _ x ρ h rfl hI
/-- The same, the frame told slot by slot: what a slot holds that nobody needs is J of its number. -/
theorem tw_loopJ {X : Type} {c : Code} (μ : X → Nat) (fr : X → (Nat → Value) → List Value) (I : X → Array Obj → Prop) (x : X) (hfr : fr x (fun n => ev ρ (.tmp n)) = ρ) (hI : I x h)
    (round : ∀ x J h, I x h → (∀ y ρ' h', μ y < μ x → fr y (fun n => ev ρ' (.tmp n)) = ρ' → I y h' → TW P f E R (.inLoop c :: k) ρ' h') → TW P f E R (.code c :: .inLoop c :: k) (fr x J) h) : TW P f E R (.code (.loop c) :: k) ρ h :=
  tw_loop μ (fun x ρ h => (∃ J, ρ = fr x J) ∧ I x h) (fun x ρ h ⟨⟨J, hJ⟩, hx⟩ ih => by
    subst hJ
    exact round x J h hx fun y ρ' h' hlt hf hy => ih y ρ' h' hlt ⟨⟨_, hf.symm⟩, hy⟩) x ⟨⟨_, hfr.symm⟩, hI⟩
end

/-! ### Regions -/
structure LW (P : Program) (E : Env) (ops : List Oper) (K : List Value → Array Obj → Prop) (l : List Oper) (ρ : List Value) (h : Array Obj) : Prop where
  out : ∀ w, At E h w → wpList P ops.toArray (fun e a w' => e = .normal ∧ ∃ ρ' h', a = act ρ' ∧ At E h' w' ∧ K ρ' h') l (act ρ) w

def setD (ρ : List Value) (d : Option Tmp) (v : Value) : List Value :=
  match d with
  | some t => ρ.set t v
  | none => ρ

theorem put_mk (ρ : List Value) (d : Option Tmp) (v : Value) : (act ρ).put d v = act (setD ρ d v) := by
  cases d <;> simp [Act.put, act, setD]

section
variable {P : Program} {f : FuncId} {E : Env} {R : Value → Array Obj → Prop} {k : List Item} {ρ ρ' : List Value} {h h' : Array Obj} {ops : List Oper} {K : List Value → Array Obj → Prop} {o : Oper} {rest : List Oper} {v : Value}

theorem tw_region {id : Nat} (hl : ∀ K : List Value → Array Obj → Prop, (∀ ρ h, TW P f E R k ρ h → K ρ h) → LW P E ops K ops ρ h) : TW P f E R (.code (.region id ops.toArray false) :: k) ρ h :=
  TW.of_wp fun w hw => wp_region_lit ((hl _ (fun _ _ h => h)).out w hw)

theorem lw_nil (hk : K ρ h) : LW P E ops K [] ρ h := ⟨fun _ hw => wpList_nil ⟨rfl, ρ, h, rfl, hw, hk⟩⟩

/-- One operation: what it yields, and the memory behind it. -/
structure Ex (P : Program) (ρ : List Value) (o : Oper) (h : Array Obj) (v : Value) (h' : Array Obj) : Prop where
  out : ∀ E w, At E h w → ∃ n w', (execOp (ev ρ) o).run P w = .ok n w' ∧ At E h' w' ∧ (n = .value v ∨ (n = .skip ∧ v = undef))

theorem lw_wanted (hg : Region.wanted o (yielded ops.toArray (act ρ).tmps) = true) (hx : Ex P ρ o h v h') (hs : setD ρ o.dst v = ρ') (hk : LW P E ops K rest ρ' h') : LW P E ops K (o :: rest) ρ h := by
  refine ⟨fun w hw => ?_⟩
  unfold wpList
  rw [if_pos hg]
  refine .inl ?_
  obtain ⟨n, w', hr, hA, hn⟩ := hx.out E w hw
  unfold Oper.wp
  rw [eval_mk, hr]
  rcases hn with rfl | ⟨rfl, rfl⟩
  · rw [Oper.upon_value, put_mk, hs]; exact hk.out w' hA
  · rw [Oper.upon_skip, put_mk, hs]; exact hk.out w' hA
theorem lw_op (hg : o.guard = none) (hx : Ex P ρ o h v h') (hs : setD ρ o.dst v = ρ') (hk : LW P E ops K rest ρ' h') : LW P E ops K (o :: rest) ρ h :=
  lw_wanted (by simp [Region.wanted, hg]) hx hs hk
theorem lw_skip (hg : Region.wanted o (yielded ops.toArray (act ρ).tmps) = false) (hs : setD ρ o.dst undef = ρ') (hk : LW P E ops K rest ρ' h) : LW P E ops K (o :: rest) ρ h := by
  refine ⟨fun w hw => ?_⟩
  unfold wpList
  rw [if_neg (by rw [hg]; exact Bool.false_ne_true), put_mk, hs]
  exact hk.out w hw

/-- A call, by the callee's contract. -/
theorem lw_call {g : FuncId} {args : List Value} {S : Value → Array Obj → Prop} (hg : Region.wanted o (yielded ops.toArray (act ρ).tmps) = true) (hx : ∀ w, At E h w → (execOp (ev ρ) o).run P w = .ok (.enter g args.toArray) w)
    (hc : Ret P g args h S) (hk : ∀ v h', S v h' → LW P E ops K rest (setD ρ o.dst v) h') : LW P E ops K (o :: rest) ρ h := by
  refine ⟨fun w hw => ?_⟩
  unfold wpList
  rw [if_pos hg]
  refine .inl ?_
  unfold Oper.wp
  rw [eval_mk, hx w hw, Oper.upon_enter]
  refine (hc.out E w hw).mono fun e w' ⟨v, he, h', hA, hS⟩ => ?_
  subst he
  show wpList _ _ _ _ _ _
  rw [put_mk]
  exact (hk v h' hS).out w' hA
end
/-! ### Guards -/
structure Wan (ops : List Oper) (ρ : List Value) (o : Oper) : Prop where
  out : Region.wanted o (yielded ops.toArray (act ρ).tmps) = true
section
variable {P : Program} {f : FuncId} {E : Env} {R : Value → Array Obj → Prop} {k : List Item} {ρ ρ' ρ'' : List Value} {h h' : Array Obj} {ops : List Oper} {K : List Value → Array Obj → Prop} {o : Oper} {rest : List Oper} {v : Value} {j t : Nat} {b : Bool}

theorem wan_none (hg : o.guard = none) : Wan ops ρ o := ⟨by simp [Region.wanted, hg]⟩
theorem yielded_mk (hd : (ops[j]?).bind (·.dst) = some t) (hv : ev ρ (.tmp t) = .bool b) : yielded ops.toArray (act ρ).tmps j = some b := by
  simp only [ev, List.getD_eq_getElem?_getD] at hv
  cases ht : ρ[t]? with
  | none => rw [ht] at hv; simp [undef] at hv
  | some u =>
    rw [ht] at hv
    simp only [Option.getD_some] at hv
    subst hv
    simp [yielded, hd, act, ht]
theorem yielded_undef (hd : (ops[j]?).bind (·.dst) = some t) (hv : ev ρ (.tmp t) = undef) : yielded ops.toArray (act ρ).tmps j = none := by
  simp only [ev, List.getD_eq_getElem?_getD] at hv
  cases ht : ρ[t]? with
  | none => simp [yielded, hd, act, ht]
  | some u =>
    rw [ht] at hv
    simp only [Option.getD_some] at hv
    subst hv
    simp [yielded, hd, act, ht, undef]
theorem wan_some (hg : o.guard = some (j, b)) (hd : (ops[j]?).bind (·.dst) = some t) (hv : ev ρ (.tmp t) = .bool b) : Wan ops ρ o := ⟨by
  simp [Region.wanted, hg, yielded_mk hd hv]⟩
theorem lw_skip_b (hg : o.guard = some (j, b)) (hd : (ops[j]?).bind (·.dst) = some t) (hv : ev ρ (.tmp t) = .bool (!b)) (hs : setD ρ o.dst undef = ρ') (hk : LW P E ops K rest ρ' h) : LW P E ops K (o :: rest) ρ h :=
  lw_skip (by cases b <;> simp [Region.wanted, hg, yielded_mk hd hv]) hs hk
theorem lw_skip_u (hg : o.guard = some (j, b)) (hd : (ops[j]?).bind (·.dst) = some t) (hv : ev ρ (.tmp t) = undef) (hs : setD ρ o.dst undef = ρ') (hk : LW P E ops K rest ρ' h) : LW P E ops K (o :: rest) ρ h :=
  lw_skip (by simp [Region.wanted, hg, yielded_undef hd hv]) hs hk
theorem set_self {q : Bool} (hv : ev ρ (.tmp t) = .bool q) : ρ.set t (.bool q) = ρ := by
  simp only [ev, List.getD_eq_getElem?_getD] at hv
  cases ht : ρ[t]? with
  | none => rw [ht] at hv; simp [undef] at hv
  | some u =>
    rw [ht] at hv
    simp only [Option.getD_some] at hv
    subst hv
    obtain ⟨hlt, he⟩ := List.getElem?_eq_some_iff.1 ht
    rw [← he]
    exact List.set_getElem_self hlt
/-- A guard that is not decided: both ways. -/
theorem lw_split_d {q : Prop} [Decidable q] (_hg : o.guard = some (j, b)) (_hd : (ops[j]?).bind (·.dst) = some t) (hv : ev ρ (.tmp t) = .bool (decide q)) (hs : ρ.set t (.bool true) = ρ') (hs' : ρ.set t (.bool false) = ρ'')
    (ht : q → LW P E ops K (o :: rest) ρ' h) (hf : ¬ q → LW P E ops K (o :: rest) ρ'' h) : LW P E ops K (o :: rest) ρ h := by
  by_cases hq : q
  · have h1 := ht hq
    rw [← hs] at h1
    rwa [set_self (by rw [hv]; simp [hq])] at h1
  · have h1 := hf hq
    rw [← hs'] at h1
    rwa [set_self (by rw [hv]; simp [hq])] at h1
theorem lw_split_b {q : Bool} (hg : o.guard = some (j, b)) (hd : (ops[j]?).bind (·.dst) = some t) (hv : ev ρ (.tmp t) = .bool q) (hs : ρ.set t (.bool true) = ρ') (hs' : ρ.set t (.bool false) = ρ'')
    (ht : q = true → LW P E ops K (o :: rest) ρ' h) (hf : q = false → LW P E ops K (o :: rest) ρ'' h) : LW P E ops K (o :: rest) ρ h :=
  lw_split_d (q := q = true) hg hd (by rw [hv]; simp) hs hs' ht (fun hq => hf (by simpa using hq))

end

section
variable {P : Program} {f : FuncId} {E : Env} {R : Value → Array Obj → Prop} {k : List Item} {ρ ρ' ρ'' : List Value} {h : Array Obj} {t : Nat}
/-- A test whose slot is told behind it. -/
theorem tw_cond_ds {a b : Code} {q : Prop} [Decidable q] (hx : ev ρ (.tmp t) = .bool (decide q)) (hs : ρ.set t (.bool true) = ρ') (hs' : ρ.set t (.bool false) = ρ'') (ht : q → TW P f E R (.code a :: k) ρ' h) (hf : ¬ q → TW P f E R (.code b :: k) ρ'' h) : TW P f E R (.code (.cond (.tmp t) a b) :: k) ρ h := by
  refine tw_cond_d hx (fun hq => ?_) (fun hq => ?_)
  · have h1 := ht hq
    rw [← hs] at h1
    rwa [set_self (by rw [hx]; simp [hq])] at h1
  · have h1 := hf hq
    rw [← hs'] at h1
    rwa [set_self (by rw [hx]; simp [hq])] at h1
theorem tw_cond_bs {a b : Code} {q : Bool} (hx : ev ρ (.tmp t) = .bool q) (hs : ρ.set t (.bool true) = ρ') (hs' : ρ.set t (.bool false) = ρ'') (ht : q = true → TW P f E R (.code a :: k) ρ' h) (hf : q = false → TW P f E R (.code b :: k) ρ'' h) : TW P f E R (.code (.cond (.tmp t) a b) :: k) ρ h :=
  tw_cond_ds (q := q = true) (by rw [hx]; simp) hs hs' ht (fun hq => hf (by simpa using hq))
end

/-- That a function can be called, by its number. -/
class Cal (P : Program) (g : FuncId) : Prop where
  out : ∀ (args : Array Value) (w : World), (callFunc g args).run P w = .ok (.enter g args) w

section
variable {P : Program} {E : Env} {ρ ρ' : List Value} {h h' : Array Obj} {ops : List Oper} {K : List Value → Array Obj → Prop} {rest : List Oper} {v : Value} {g : FuncId} {xs : List Operand} {ta : Array TypeId} {d : Option Tmp} {ty : TypeId} {p : String} {af : Array Edge} {gd : Option (Nat × Bool)}

theorem run_cal [Cal P g] (w : World) : (execOp (ev ρ) ⟨d, .call ⟨.value (.func g), xs.toArray, ta⟩, ty, p, af, gd⟩).run P w = .ok (.enter g (xs.map (ev ρ)).toArray) w := by
  simp [execOp, resolve, ev, Deferred.ofValue, invoke, Cal.out]
/-- The callee by its contract. -/
theorem lw_cal [Cal P g] {S : Value → Array Obj → Prop} (hw : Wan ops ρ ⟨d, .call ⟨.value (.func g), xs.toArray, ta⟩, ty, p, af, gd⟩) (hc : Ret P g (xs.map (ev ρ)) h S)
    (hk : ∀ v h', S v h' → LW P E ops K rest (setD ρ d v) h') : LW P E ops K (⟨d, .call ⟨.value (.func g), xs.toArray, ta⟩, ty, p, af, gd⟩ :: rest) ρ h :=
  lw_call hw.out (fun w _ => run_cal w) hc hk
/-- A callee that leaves the memory as it is and hands back v. -/
theorem lw_calp [Cal P g] (hw : Wan ops ρ ⟨d, .call ⟨.value (.func g), xs.toArray, ta⟩, ty, p, af, gd⟩) (hc : Ret P g (xs.map (ev ρ)) h fun v' h' => v' = v ∧ h' = h)
    (hs : setD ρ d v = ρ') (hk : LW P E ops K rest ρ' h) : LW P E ops K (⟨d, .call ⟨.value (.func g), xs.toArray, ta⟩, ty, p, af, gd⟩ :: rest) ρ h :=
  lw_cal hw hc fun v' h' ⟨hv, hh⟩ => by subst hv; subst hh; rw [hs]; exact hk
end

end Go.Proofs.YtpedmnlpccngiaaDoor.K
namespace Go.Proofs.YtpedmnlpccngiaaDoor.K
open Go

/-- The program's type facts, by instances: found by the type's number. -/
class Und (P : Program) (t : TypeId) (D : outParam TypeDesc) : Prop where
  out : P.underlying t = some D
class Siz (P : Program) (t : TypeId) (n : outParam Nat) : Prop where
  out : ∀ w, (sizeOf t).run P w = .ok n w
class Zer (P : Program) (t : TypeId) (z : outParam Value) : Prop where
  out : ∀ w, (zeroValue t).run P w = .ok z w
class Agg (P : Program) (t : TypeId) (b : outParam Bool) : Prop where
  out : ∀ w, (isAgg t).run P w = .ok b w
class Inf (P : Program) (t : TypeId) (i : outParam TypeInfo) : Prop where
  out : ∀ w, (typeInfo t).run P w = .ok i w

/-- The i-th field of a struct type: its type and its first cell. -/
class Fld (P : Program) (t : TypeId) (i : Nat) (ft : outParam TypeId) (fo : outParam Nat) : Prop where
  out : ∃ fs f, P.underlying t = some (.struct fs) ∧ fs[i]? = some f ∧ f.type = ft ∧ f.offset = fo
theorem und {P : Program} (t : TypeId) {D : TypeDesc} [i : Und P t D] (w : World) : (underlying t).run P w = .ok D w := run_underlying i.out w
theorem siz {P : Program} (t : TypeId) {D : Nat} [i : Siz P t D] (w : World) : (sizeOf t).run P w = .ok D w := i.out w
theorem zer {P : Program} (t : TypeId) {D : Value} [i : Zer P t D] (w : World) : (zeroValue t).run P w = .ok D w := i.out w
theorem agg {P : Program} (t : TypeId) {D : Bool} [i : Agg P t D] (w : World) : (isAgg t).run P w = .ok D w := i.out w
theorem inf {P : Program} (t : TypeId) {D : TypeInfo} [i : Inf P t D] (w : World) : (typeInfo t).run P w = .ok D w := i.out w

abbrev bs (l : List UInt8) : Value := .string ⟨l.toArray⟩

/-- An operation that only reads: its value, in every world with this memory. -/
structure Pu (P : Program) (ρ : List Value) (o : Oper) (h : Array Obj) (v : Value) : Prop where
  out : ∀ w, w.heap = h → (execOp (ev ρ) o).run P w = .ok (.value v) w

theorem Pu.ex {P : Program} {ρ : List Value} {o : Oper} {h : Array Obj} {v : Value} (hp : Pu P ρ o h v) : Ex P ρ o h v h :=
  ⟨fun _ w hw => ⟨_, w, hp.out w hw.1, hw, .inl rfl⟩⟩

def cell (h : Array Obj) (a : Addr) : Option Value :=
  match h[a.block]? with
  | some (.cells c _ _) => if a.spot.isSome then none else c[a.off]?
  | _ => none

theorem cell_eq (w : World) (a : Addr) : w.cell? a = cell w.heap a := rfl

section
variable {P : Program} {E : Env} {ops : List Oper} {K : List Value → Array Obj → Prop} {rest : List Oper} {ρ ρ' : List Value} {o : Oper} {h h' : Array Obj} {v : Value} {d : Option Tmp} {T ty U : TypeId} {p : String} {af : Array Edge} {g : Option (Nat × Bool)} {x y c : Operand}

theorem lw_pu (hg : Wan ops ρ o) (hx : Pu P ρ o h v) (hs : setD ρ o.dst v = ρ') (hk : LW P E ops K rest ρ' h) : LW P E ops K (o :: rest) ρ h := lw_wanted hg.out hx.ex hs hk

/-! moves -/
theorem pu_move (hx : ev ρ x = v) : Pu P ρ ⟨d, .move x, ty, p, af, g⟩ h v := ⟨fun w _ => by simp [execOp, hx]⟩
theorem pu_assign (hx : ev ρ x = v) : Pu P ρ ⟨d, .assign x, ty, p, af, g⟩ h v := ⟨fun w _ => by simp [execOp, hx]⟩
theorem pu_pick_t (hc : ev ρ c = .bool true) (hx : ev ρ x = v) : Pu P ρ ⟨d, .pick c x y, ty, p, af, g⟩ h v := ⟨fun w _ => by simp [execOp, hc, hx, asBool]⟩
theorem pu_pick_f (hc : ev ρ c = .bool false) (hy : ev ρ y = v) : Pu P ρ ⟨d, .pick c x y, ty, p, af, g⟩ h v := ⟨fun w _ => by simp [execOp, hc, hy, asBool]⟩

/-! integers -/
variable {k : IntKind} {a b : Int}
theorem beq_dec {α : Type} [BEq α] [LawfulBEq α] [DecidableEq α] (a b : α) : (a == b) = decide (a = b) := by
  by_cases h : a = b <;> simp [h]
theorem guard_int (op : BinOp) (v2 : Value) (w : World) : (eqGuard op T x y (.int k a) v2).run P w = .ok () w := by
  unfold eqGuard
  split <;> simp
theorem guard_bool (op : BinOp) (t : Bool) (v2 : Value) (w : World) : (eqGuard op T x y (.bool t) v2).run P w = .ok () w := by
  unfold eqGuard
  split <;> simp
theorem guard_str (op : BinOp) (s : ByteArray) (v2 : Value) (w : World) : (eqGuard op T x y (.string s) v2).run P w = .ok () w := by
  unfold eqGuard
  split <;> simp
theorem guard_ptr (op : BinOp) (q : Option Addr) (v2 : Value) (w : World) : (eqGuard op T x y (.pointer q) v2).run P w = .ok () w := by
  unfold eqGuard
  split <;> simp
theorem pu_add (hx : ev ρ x = .int k a) (hy : ev ρ y = .int k b) : Pu P ρ ⟨d, .binOp .add T x y U, ty, p, af, g⟩ h (.int k (k.wrap (a + b))) := ⟨fun w _ => by
  simp [execOp, guard_int, hx, hy, binOp, Op.intArith]⟩
theorem pu_sub (hx : ev ρ x = .int k a) (hy : ev ρ y = .int k b) : Pu P ρ ⟨d, .binOp .sub T x y U, ty, p, af, g⟩ h (.int k (k.wrap (a - b))) := ⟨fun w _ => by
  simp [execOp, guard_int, hx, hy, binOp, Op.intArith]⟩
theorem pu_mul (hx : ev ρ x = .int k a) (hy : ev ρ y = .int k b) : Pu P ρ ⟨d, .binOp .mul T x y U, ty, p, af, g⟩ h (.int k (k.wrap (a * b))) := ⟨fun w _ => by
  simp [execOp, guard_int, hx, hy, binOp, Op.intArith]⟩
theorem wrap_in (a : Int) (h1 : -9223372036854775808 ≤ a) (h2 : a ≤ 9223372036854775807) : IntKind.wrap .i64 a = a := by
  simp only [IntKind.wrap, IntKind.signed, IntKind.bits]
  simp
  omega
theorem pu_addi (hx : ev ρ x = .int .i64 a) (hy : ev ρ y = .int .i64 b) (h1 : -9223372036854775808 ≤ a + b) (h2 : a + b ≤ 9223372036854775807) : Pu P ρ ⟨d, .binOp .add T x y U, ty, p, af, g⟩ h (.int .i64 (a + b)) := by
  have := pu_add (P := P) (h := h) (d := d) (T := T) (U := U) (ty := ty) (p := p) (af := af) (g := g) hx hy
  rwa [wrap_in _ h1 h2] at this
theorem pu_subi (hx : ev ρ x = .int .i64 a) (hy : ev ρ y = .int .i64 b) (h1 : -9223372036854775808 ≤ a - b) (h2 : a - b ≤ 9223372036854775807) : Pu P ρ ⟨d, .binOp .sub T x y U, ty, p, af, g⟩ h (.int .i64 (a - b)) := by
  have := pu_sub (P := P) (h := h) (d := d) (T := T) (U := U) (ty := ty) (p := p) (af := af) (g := g) hx hy
  rwa [wrap_in _ h1 h2] at this
theorem pu_muli (hx : ev ρ x = .int .i64 a) (hy : ev ρ y = .int .i64 b) (h1 : -9223372036854775808 ≤ a * b) (h2 : a * b ≤ 9223372036854775807) : Pu P ρ ⟨d, .binOp .mul T x y U, ty, p, af, g⟩ h (.int .i64 (a * b)) := by
  have := pu_mul (P := P) (h := h) (d := d) (T := T) (U := U) (ty := ty) (p := p) (af := af) (g := g) hx hy
  rwa [wrap_in _ h1 h2] at this
/-- Sums and differences of counters stay casts of naturals. -/
theorem pu_addn {m n : Nat} (hx : ev ρ x = .int .i64 (m : Int)) (hy : ev ρ y = .int .i64 (n : Int)) (h2 : m + n ≤ 9223372036854775807) : Pu P ρ ⟨d, .binOp .add T x y U, ty, p, af, g⟩ h (.int .i64 ((m + n : Nat) : Int)) := by
  have := pu_addi (P := P) (h := h) (d := d) (T := T) (U := U) (ty := ty) (p := p) (af := af) (g := g) hx hy (by omega) (by omega)
  simpa using this
theorem pu_subn {m n : Nat} (hx : ev ρ x = .int .i64 (m : Int)) (hy : ev ρ y = .int .i64 (n : Int)) (h1 : n ≤ m) (h2 : m ≤ 9223372036854775807) : Pu P ρ ⟨d, .binOp .sub T x y U, ty, p, af, g⟩ h (.int .i64 ((m - n : Nat) : Int)) := by
  have := pu_subi (P := P) (h := h) (d := d) (T := T) (U := U) (ty := ty) (p := p) (af := af) (g := g) hx hy (by omega) (by omega)
  rwa [show (m : Int) - n = ((m - n : Nat) : Int) by omega] at this

theorem pu_eql (hx : ev ρ x = .int k a) (hy : ev ρ y = .int k b) : Pu P ρ ⟨d, .binOp .eql T x y U, ty, p, af, g⟩ h (.bool (decide (a = b))) := ⟨fun w _ => by
  simp [execOp, guard_int, hx, hy, binOp, Op.intCmp, beq_dec]⟩
theorem pu_neq (hx : ev ρ x = .int k a) (hy : ev ρ y = .int k b) : Pu P ρ ⟨d, .binOp .neq T x y U, ty, p, af, g⟩ h (.bool (decide (a ≠ b))) := ⟨fun w _ => by
  simp only [execOp, Sem.run_bind, guard_int, hx, hy, binOp, Op.intCmp, Result.andThen_ok]
  simp [bne, beq_dec]⟩
theorem pu_lss (hx : ev ρ x = .int k a) (hy : ev ρ y = .int k b) : Pu P ρ ⟨d, .binOp .lss T x y U, ty, p, af, g⟩ h (.bool (decide (a < b))) := ⟨fun w _ => by
  simp [execOp, guard_int, hx, hy, binOp, Op.intCmp]⟩
theorem pu_leq (hx : ev ρ x = .int k a) (hy : ev ρ y = .int k b) : Pu P ρ ⟨d, .binOp .leq T x y U, ty, p, af, g⟩ h (.bool (decide (a ≤ b))) := ⟨fun w _ => by
  simp [execOp, guard_int, hx, hy, binOp, Op.intCmp]⟩
theorem pu_gtr (hx : ev ρ x = .int k a) (hy : ev ρ y = .int k b) : Pu P ρ ⟨d, .binOp .gtr T x y U, ty, p, af, g⟩ h (.bool (decide (b < a))) := ⟨fun w _ => by
  simp [execOp, guard_int, hx, hy, binOp, Op.intCmp]⟩
theorem pu_geq (hx : ev ρ x = .int k a) (hy : ev ρ y = .int k b) : Pu P ρ ⟨d, .binOp .geq T x y U, ty, p, af, g⟩ h (.bool (decide (b ≤ a))) := ⟨fun w _ => by
  simp [execOp, guard_int, hx, hy, binOp, Op.intCmp]⟩
theorem pu_and (hx : ev ρ x = .int k a) (hy : ev ρ y = .int k b) : Pu P ρ ⟨d, .binOp .and T x y U, ty, p, af, g⟩ h (.int k (k.wrap (((a % 2 ^ k.bits).toNat &&& (b % 2 ^ k.bits).toNat : Nat) : Int))) := ⟨fun w _ => by
  simp [execOp, guard_int, hx, hy, binOp, Op.intBits]⟩
theorem pu_or (hx : ev ρ x = .int k a) (hy : ev ρ y = .int k b) : Pu P ρ ⟨d, .binOp .or T x y U, ty, p, af, g⟩ h (.int k (k.wrap (((a % 2 ^ k.bits).toNat ||| (b % 2 ^ k.bits).toNat : Nat) : Int))) := ⟨fun w _ => by
  simp [execOp, guard_int, hx, hy, binOp, Op.intBits]⟩

/-! comparisons that are decided -/
theorem pu_true {q : Prop} [Decidable q] (hp : Pu P ρ o h (.bool (decide q))) (hq : q) : Pu P ρ o h (.bool true) := by rw [decide_eq_true hq] at hp; exact hp
theorem pu_false {q : Prop} [Decidable q] (hp : Pu P ρ o h (.bool (decide q))) (hq : ¬ q) : Pu P ρ o h (.bool false) := by rw [decide_eq_false hq] at hp; exact hp

/-! bools -/
theorem pu_not {t : Bool} (hx : ev ρ x = .bool t) : Pu P ρ ⟨d, .unOp .not T x, ty, p, af, g⟩ h (.bool (!t)) := ⟨fun w _ => by
  simp [execOp, hx, Op.unary]⟩
theorem pu_notd {q : Prop} [Decidable q] (hx : ev ρ x = .bool (decide q)) : Pu P ρ ⟨d, .unOp .not T x, ty, p, af, g⟩ h (.bool (decide (¬ q))) := ⟨fun w _ => by
  simp [execOp, hx, Op.unary]⟩
theorem run_eq_bool [i : Und P T .bool] (s t : Bool) (w : World) : (Op.equal T (.bool s) (.bool t)).run P w = .ok (s == t) w := by
  unfold Op.equal Op.maxDepth
  exact run_equalIn_bool' w 9999 T s t i.out
theorem pu_eqb {s t : Bool} [Und P T .bool] (hx : ev ρ x = .bool s) (hy : ev ρ y = .bool t) : Pu P ρ ⟨d, .binOp .eql T x y U, ty, p, af, g⟩ h (.bool (decide (s = t))) := ⟨fun w _ => by
  simp [execOp, guard_bool, hx, hy, binOp, run_eq_bool, beq_dec]⟩
theorem pu_neqb {s t : Bool} [Und P T .bool] (hx : ev ρ x = .bool s) (hy : ev ρ y = .bool t) : Pu P ρ ⟨d, .binOp .neq T x y U, ty, p, af, g⟩ h (.bool (decide (s ≠ t))) := ⟨fun w _ => by
  simp [execOp, guard_bool, hx, hy, binOp, run_eq_bool, beq_dec]⟩

/-! strings -/
variable {l m : List UInt8}
theorem pu_eqs (hx : ev ρ x = bs l) (hy : ev ρ y = bs m) : Pu P ρ ⟨d, .binOp .eql T x y U, ty, p, af, g⟩ h (.bool (decide (l = m))) := ⟨fun w _ => by
  simp [execOp, guard_str, hx, hy, binOp_string_eql, beq_dec]⟩
theorem pu_neqs (hx : ev ρ x = bs l) (hy : ev ρ y = bs m) : Pu P ρ ⟨d, .binOp .neq T x y U, ty, p, af, g⟩ h (.bool (decide (l ≠ m))) := ⟨fun w _ => by
  simp [execOp, guard_str, hx, hy, binOp_string_neq, beq_dec]⟩
theorem size_mk (l : List UInt8) : (ByteArray.mk l.toArray).size = l.length := by simp [ByteArray.size]
theorem append_mk (l m : List UInt8) : ByteArray.mk l.toArray ++ ByteArray.mk m.toArray = ByteArray.mk (l ++ m).toArray := by
  apply ByteArray.ext
  simp
theorem pu_adds (hx : ev ρ x = bs l) (hy : ev ρ y = bs m) (hl : l.length + m.length ≤ 9223372036854775807) : Pu P ρ ⟨d, .binOp .add T x y U, ty, p, af, g⟩ h (bs (l ++ m)) := ⟨fun w _ => by
  simp only [execOp, Sem.run_bind, guard_str, hx, hy, binOp, Op.stringOp, size_mk, append_mk, Result.andThen_ok]
  have : ¬ (IntKind.max .i64 < ((l.length + m.length : Nat) : Int)) := by simp [IntKind.max, IntKind.signed, IntKind.bits]; omega
  simp only [gt_iff_lt, this, if_false]
  simp⟩
theorem pu_index {n : Nat} [Und P T .string] (hx : ev ρ x = bs l) (hy : ev ρ y = .int k (n : Int)) (hn : n < l.length) : Pu P ρ ⟨d, .index T x y, ty, p, af, g⟩ h (.int .u8 (((l.getD n 0).toNat : Nat) : Int)) := ⟨fun w _ => by
  have e : (ByteArray.mk l.toArray)[n]? = some (l.getD n 0) := by
    rw [getElem?_pos (ByteArray.mk l.toArray) n (by rw [size_mk]; exact hn)]
    simp [ByteArray.getElem_eq_getElem_data, hn]
  simp [execOp, hx, hy, Instr.index, asIntOf, und T w, e]⟩
theorem pu_lens [Und P T .string] {ta : Array TypeId} {ta' : TypeId} (hx : ev ρ x = bs l) (hT : ta = #[T]) : Pu P ρ ⟨d, .call ⟨.builtin .len, #[x], ta⟩, ta', p, af, g⟩ h (.int .i64 (l.length : Int)) := ⟨fun w _ => by
  subst hT
  simp [execOp, resolve, hx, invoke, builtin, Builtin.len_, und T w, goInt, size_mk]⟩
theorem pu_lensl {e : TypeId} {q : Option Addr} {n cp : Nat} [Und P T (.slice e)] {ta : Array TypeId} {ta' : TypeId} (hx : ev ρ x = .slice q n cp) (hT : ta = #[T]) : Pu P ρ ⟨d, .call ⟨.builtin .len, #[x], ta⟩, ta', p, af, g⟩ h (.int .i64 (n : Int)) := ⟨fun w _ => by
  subst hT
  simp [execOp, resolve, hx, invoke, builtin, Builtin.len_, und T w, goInt]⟩
theorem pu_min {ta : Array TypeId} {ta' : TypeId} (hx : ev ρ x = .int k a) (hy : ev ρ y = .int k b) : Pu P ρ ⟨d, .call ⟨.builtin .min, #[x, y], ta⟩, ta', p, af, g⟩ h (.int k (if b < a then b else a)) := ⟨fun w _ => by
  simp [execOp, resolve, hx, hy, invoke, builtin, Builtin.min_, Builtin.min2]⟩
theorem pu_max {ta : Array TypeId} {ta' : TypeId} (hx : ev ρ x = .int k a) (hy : ev ρ y = .int k b) : Pu P ρ ⟨d, .call ⟨.builtin .max, #[x, y], ta⟩, ta', p, af, g⟩ h (.int k (if a < b then b else a)) := ⟨fun w _ => by
  simp [execOp, resolve, hx, hy, invoke, builtin, Builtin.max_, Builtin.max2]⟩

/-! tuples -/
theorem pu_extract {vs : Array Value} {i : Nat} (hx : ev ρ x = .tuple vs) (hi : vs[i]? = some v) : Pu P ρ ⟨d, .extract x i, ty, p, af, g⟩ h v := ⟨fun w _ => by
  simp [execOp, hx, Instr.extract, hi]⟩

/-! addresses -/
variable {B off : Nat}
theorem add_at (B off n : Nat) : (⟨B, off, none⟩ : Addr).add n = ⟨B, off + n, none⟩ := by
  unfold Addr.add
  by_cases hn : n = 0 <;> simp [hn]
theorem pu_nilCheck_p {q : Addr} (hx : ev ρ x = .pointer (some q)) : Pu P ρ ⟨d, .nilCheck x, ty, p, af, g⟩ h (.pointer (some q)) := ⟨fun w _ => by
  simp [execOp, hx]⟩
theorem pu_indexAddr {e : TypeId} {n len cp sz : Nat} [Und P T (.slice e)] [Siz P e sz] (hx : ev ρ x = .slice (some ⟨B, off, none⟩) len cp) (hy : ev ρ y = .int k (n : Int)) (hn : n < len) : Pu P ρ ⟨d, .indexAddr T x y, ty, p, af, g⟩ h (.pointer (some ⟨B, off + n * sz, none⟩)) := ⟨fun w _ => by
  simp [execOp, hx, hy, Instr.indexAt, asIntOf, und T w, siz e w, hn, add_at]⟩
theorem pu_indexAddr_arr {e : TypeId} {n len sz : Nat} [Und P T (.array len e)] [Siz P e sz] (hx : ev ρ x = .pointer (some ⟨B, off, none⟩)) (hy : ev ρ y = .int k (n : Int)) (hn : n < len) : Pu P ρ ⟨d, .indexAddr T x y, ty, p, af, g⟩ h (.pointer (some ⟨B, off + n * sz, none⟩)) := ⟨fun w _ => by
  simp [execOp, hx, hy, Instr.indexAt, asIntOf, und T w, siz e w, hn, add_at, Instr.sureAddr]⟩
theorem pu_fieldAddr {i sz ft fo : Nat} [F : Fld P T i ft fo] (hx : ev ρ x = .pointer (some ⟨B, off, none⟩)) (hz : ∀ w, (sizeOf ft).run P w = .ok (sz + 1) w) : Pu P ρ ⟨d, .fieldAddr T x i, ty, p, af, g⟩ h (.pointer (some ⟨B, off + fo, none⟩)) := ⟨fun w _ => by
  obtain ⟨fs, f, hu, hf, rfl, rfl⟩ := F.out
  simp [execOp, hx, Instr.fieldAt, run_underlying hu, hf, Instr.sureAddr, fieldPlace, hz, add_at]⟩
theorem pu_load [Agg P T false] {q : Addr} (hx : ev ρ x = .pointer (some q)) (hc : cell h q = some v) : Pu P ρ ⟨d, .load T x, ty, p, af, g⟩ h v := ⟨fun w hw => by
  subst hw
  simp [execOp, hx, Instr.loadAt, Instr.sureAddr, loadVar, agg T w, cell_eq, hc]⟩
/-- n cells from an address on. -/
def cellsFrom (h : Array Obj) (B : Nat) : Nat → List Value → Prop
  | _, [] => True
  | off, c :: cs => cell h ⟨B, off, none⟩ = some c ∧ cellsFrom h B (off + 1) cs
theorem run_loadCellsFrom (w : World) (B off : Nat) : ∀ (cs : List Value) (i : Nat) (acc : Array Value), cellsFrom w.heap B (off + i) cs → (loadCellsFrom ⟨B, off, none⟩ i cs.length acc).run P w = .ok (acc ++ cs.toArray) w
  | [], i, acc, _ => by simp [loadCellsFrom]
  | c :: cs, i, acc, hc => by
    simp only [List.length_cons, loadCellsFrom, Sem.run_bind, add_at, run_load, cell_eq, hc.1, Result.andThen_ok]
    rw [run_loadCellsFrom w B off cs (i + 1) (acc.push c) hc.2]
    simp
theorem pu_loadAgg [Agg P T true] {n : Nat} {cs : List Value} [Siz P T n] (hx : ev ρ x = .pointer (some ⟨B, off, none⟩)) (hn : cs.length = n) (hc : cellsFrom h B off cs) : Pu P ρ ⟨d, .load T x, ty, p, af, g⟩ h (.agg cs.toArray) := ⟨fun w hw => by
  subst hw
  subst hn
  have := run_loadCellsFrom (P := P) w B off cs 0 #[] (by simpa using hc)
  simp [execOp, hx, Instr.loadAt, Instr.sureAddr, loadVar, agg T w, siz T w, loadCells, this]⟩
end
end Go.Proofs.YtpedmnlpccngiaaDoor.K
namespace Go.Proofs.YtpedmnlpccngiaaDoor.K
open Go

/-! ### Slices -/
section
variable {P : Program} {E : Env} {ops : List Oper} {K : List Value → Array Obj → Prop} {rest : List Oper} {ρ ρ' : List Value} {o : Oper} {h h' : Array Obj} {v : Value} {d : Option Tmp} {T ty U : TypeId} {p : String} {af : Array Edge} {g : Option (Nat × Bool)} {x y z : Operand} {l : List UInt8} {k k' : IntKind} {m n : Nat}

theorem extract_mk (l : List UInt8) (m n : Nat) : (ByteArray.mk l.toArray).extract m n = ByteArray.mk ((l.take n).drop m).toArray := by
  apply ByteArray.ext
  rw [ByteArray.data_extract]
  simp [List.extract_eq_take_drop, List.drop_take]
theorem pu_slices_lo [Und P T .string] (hx : ev ρ x = bs l) (hy : ev ρ y = .int k (m : Int)) (hm : m ≤ l.length) : Pu P ρ ⟨d, .slice T x (some y) none none, ty, p, af, g⟩ h (bs (l.drop m)) := ⟨fun w _ => by
  simp [execOp, hx, hy, Instr.sliceAt, Instr.slice, und T w, Instr.sliceBounds, Instr.sliceBound, asIntOf, size_mk, hm, extract_mk, List.take_of_length_le]⟩
theorem pu_slices_hi [Und P T .string] (hx : ev ρ x = bs l) (hy : ev ρ y = .int k (n : Int)) (hn : n ≤ l.length) : Pu P ρ ⟨d, .slice T x none (some y) none, ty, p, af, g⟩ h (bs (l.take n)) := ⟨fun w _ => by
  simp [execOp, hx, hy, Instr.sliceAt, Instr.slice, und T w, Instr.sliceBounds, Instr.sliceBound, asIntOf, size_mk, hn, extract_mk]⟩
theorem pu_slices [Und P T .string] (hx : ev ρ x = bs l) (hy : ev ρ y = .int k (m : Int)) (hz : ev ρ z = .int k' (n : Int)) (hm : m ≤ n) (hn : n ≤ l.length) : Pu P ρ ⟨d, .slice T x (some y) (some z) none, ty, p, af, g⟩ h (bs ((l.take n).drop m)) := ⟨fun w _ => by
  simp [execOp, hx, hy, hz, Instr.sliceAt, Instr.slice, und T w, Instr.sliceBounds, Instr.sliceBound, asIntOf, size_mk, hn, hm, extract_mk]⟩

/-! ### Regions that draw their order and only read: S holds of the memory throughout -/
def Sin (E : Env) (S : Array Obj → Prop) (w : World) : Prop := ∃ h, At E h w ∧ S h
structure QW (P : Program) (E : Env) (S : Array Obj → Prop) (ops : List Oper) (K : List Value → Prop) (l : List Oper) (ρ : List Value) : Prop where
  out : wpQuiet P ops.toArray (Sin E S) (fun a => ∃ ρ', a = act ρ' ∧ K ρ') l (act ρ)
variable {f : FuncId} {R : Value → Array Obj → Prop} {kk : List Item} {Kq : List Value → Prop} {S : Array Obj → Prop}

theorem tw_quiet (S : Array Obj → Prop) {id : Nat} (hm : P.follows .mixedOrders = true) (hB : Region.lexB .any ops.toArray = true) (hS : S h) (hl : ∀ K : List Value → Prop, (∀ ρ, (∀ h, S h → TW P f E R kk ρ h) → K ρ) → QW P E S ops K ops ρ) : TW P f E R (.code (.region id ops.toArray true) :: kk) ρ h :=
  TW.of_wp fun w hw => by
    refine wp_region_quiet (C := Sin E S) hm hB ⟨h, ⟨hw.1, hw.2.1, hw.2.2.1, hw.2.2.2⟩, hS⟩ ?_
    have h1 := (hl (fun ρ => ∀ h, S h → TW P f E R kk ρ h) (fun _ h => h)).out
    have h2 : ∀ (l : List Oper) (a : Act), wpQuiet P ops.toArray (Sin E S) (fun a => ∃ ρ', a = act ρ' ∧ ∀ h, S h → TW P f E R kk ρ' h) l a → wpQuiet P ops.toArray (Sin E S) (fun a' => ∀ w', Sin E S w' → (fun e a w' => e = Exit.normal ∧ ∃ ρ' h', a = act ρ' ∧ At E h' w' ∧ TW P f E R kk ρ' h') Exit.normal a' w') l a := by
      intro l
      induction l with
      | nil => exact fun a ⟨ρ', ha, hT⟩ w' ⟨h', hA', hS'⟩ => ⟨rfl, ρ', h', ha, hA', hT h' hS'⟩
      | cons o l ih =>
        intro a hh
        unfold wpQuiet at hh ⊢
        split
        · rename_i hq
          rw [if_pos hq] at hh
          obtain ⟨v, h1, h2⟩ := hh
          exact ⟨v, h1, ih _ h2⟩
        · rename_i hq
          rw [if_neg hq] at hh
          exact ih _ hh
    exact h2 _ _ h1
theorem qw_nil (hk : Kq ρ) : QW P E S ops Kq [] ρ := ⟨⟨ρ, rfl, hk⟩⟩
theorem qw_pu (hg : Wan ops ρ o) (hx : ∀ h, S h → Pu P ρ o h v) (hs : setD ρ o.dst v = ρ') (hk : QW P E S ops Kq rest ρ') : QW P E S ops Kq (o :: rest) ρ := by
  refine ⟨?_⟩
  unfold wpQuiet
  rw [if_pos hg.out]
  refine ⟨v, fun w ⟨h, hw, hS⟩ => ?_, ?_⟩
  · unfold Oper.quietAt
    rw [eval_mk, (hx h hS).out w hw.1]
    exact ⟨rfl, rfl⟩
  · rw [put_mk, hs]; exact hk.out
theorem qw_skip (hg : Region.wanted o (yielded ops.toArray (act ρ).tmps) = false) (hs : setD ρ o.dst undef = ρ') (hk : QW P E S ops Kq rest ρ') : QW P E S ops Kq (o :: rest) ρ := by
  refine ⟨?_⟩
  unfold wpQuiet
  rw [if_neg (by rw [hg]; exact Bool.false_ne_true), put_mk, hs]
  exact hk.out
theorem qw_skip_b {j t : Nat} {b : Bool} (hg : o.guard = some (j, b)) (hd : (ops[j]?).bind (·.dst) = some t) (hv : ev ρ (.tmp t) = .bool (!b)) (hs : setD ρ o.dst undef = ρ') (hk : QW P E S ops Kq rest ρ') : QW P E S ops Kq (o :: rest) ρ :=
  qw_skip (by cases b <;> simp [Region.wanted, hg, yielded_mk hd hv]) hs hk
theorem qw_skip_u {j t : Nat} {b : Bool} (hg : o.guard = some (j, b)) (hd : (ops[j]?).bind (·.dst) = some t) (hv : ev ρ (.tmp t) = undef) (hs : setD ρ o.dst undef = ρ') (hk : QW P E S ops Kq rest ρ') : QW P E S ops Kq (o :: rest) ρ :=
  qw_skip (by simp [Region.wanted, hg, yielded_undef hd hv]) hs hk
theorem qw_split_d {ρ'' : List Value} {j t : Nat} {b : Bool} {q : Prop} [Decidable q] (_hg : o.guard = some (j, b)) (_hd : (ops[j]?).bind (·.dst) = some t) (hv : ev ρ (.tmp t) = .bool (decide q)) (hs : ρ.set t (.bool true) = ρ') (hs' : ρ.set t (.bool false) = ρ'')
    (ht : q → QW P E S ops Kq (o :: rest) ρ') (hf : ¬ q → QW P E S ops Kq (o :: rest) ρ'') : QW P E S ops Kq (o :: rest) ρ := by
  by_cases hq : q
  · have h1 := ht hq
    rw [← hs] at h1
    rwa [set_self (by rw [hv]; simp [hq])] at h1
  · have h1 := hf hq
    rw [← hs'] at h1
    rwa [set_self (by rw [hv]; simp [hq])] at h1
theorem qw_split_b {ρ'' : List Value} {j t : Nat} {b : Bool} {q : Bool} (hg : o.guard = some (j, b)) (hd : (ops[j]?).bind (·.dst) = some t) (hv : ev ρ (.tmp t) = .bool q) (hs : ρ.set t (.bool true) = ρ') (hs' : ρ.set t (.bool false) = ρ'')
    (ht : q = true → QW P E S ops Kq (o :: rest) ρ') (hf : q = false → QW P E S ops Kq (o :: rest) ρ'') : QW P E S ops Kq (o :: rest) ρ :=
  qw_split_d (q := q = true) hg hd (by rw [hv]; simp) hs hs' ht (fun hq => hf (by simpa using hq))
theorem qw_calp {g : FuncId} {xs : List Operand} {ta : Array TypeId} {gd : Option (Nat × Bool)} [Cal P g] (hw : Wan ops ρ ⟨d, .call ⟨.value (.func g), xs.toArray, ta⟩, ty, p, af, gd⟩) (hc : ∀ h, S h → Ret P g (xs.map (ev ρ)) h fun v' h' => v' = v ∧ S h')
    (hs : setD ρ d v = ρ') (hk : QW P E S ops Kq rest ρ') : QW P E S ops Kq (⟨d, .call ⟨.value (.func g), xs.toArray, ta⟩, ty, p, af, gd⟩ :: rest) ρ := by
  refine ⟨?_⟩
  unfold wpQuiet
  rw [if_pos hw.out]
  refine ⟨v, fun w ⟨h, hA, hS⟩ => ?_, ?_⟩
  · unfold Oper.quietAt
    rw [eval_mk, run_cal w]
    refine ⟨rfl, ((hc h hS).out E w hA).mono fun e w' ⟨v', he, h', hA', hv', hh⟩ => ?_⟩
    subst hv'
    exact ⟨he, h', hA', hh⟩
  · show wpQuiet _ _ _ _ _ _
    rw [put_mk, hs]; exact hk.out

/-! ### Operations that make or write memory -/
theorem lw_ex (hg : Wan ops ρ o) (hx : Ex P ρ o h v h') (hs : setD ρ o.dst v = ρ') (hk : LW P E ops K rest ρ' h') : LW P E ops K (o :: rest) ρ h := lw_wanted hg.out hx hs hk
theorem At.push {w : World} {ob : Obj} (hw : At E h w) : At E (h.push ob) { w with heap := w.heap.push ob } := ⟨by rw [← hw.1], hw.2.1, hw.2.2.1, hw.2.2.2⟩
theorem ex_box {u : Value} (hx : ev ρ x = u) : Ex P ρ ⟨d, .box T x, ty, p, af, g⟩ h (.pointer (some ⟨h.size, 0, none⟩)) (h.push (.cells u.cells T (0, 0))) := ⟨fun E w hw => by
  refine ⟨_, _, by simp only [execOp, hx, Instr.box, newVar, newRow, Sem.run_bind, run_newObj, Result.andThen_ok, Sem.run_pure]; rfl, hw.push, .inl ?_⟩
  rw [hw.1]⟩
theorem ex_alloc {u : Value} [Zer P T u] : Ex P ρ ⟨d, .alloc T, ty, p, af, g⟩ h (.pointer (some ⟨h.size, 0, none⟩)) (h.push (.cells u.cells T (0, 0))) := ⟨fun E w hw => by
  refine ⟨_, _, by simp only [execOp, Instr.alloc, newVar, newRow, zer T w, Sem.run_bind, run_newObj, Result.andThen_ok, Sem.run_pure]; rfl, hw.push, .inl ?_⟩
  rw [hw.1]⟩
def hset (h : Array Obj) (B off : Nat) (v : Value) : Array Obj :=
  h.modify B fun | .cells c e fz => .cells (c.setIfInBounds off v) e fz | ob => ob
theorem hset_size (h : Array Obj) (B off : Nat) (v : Value) : (hset h B off v).size = h.size := by simp [hset]
theorem hset_same {h : Array Obj} {B off : Nat} {v : Value} {c : Array Value} {e : TypeId} {fz : Nat × Nat} (hb : h[B]? = some (.cells c e fz)) : (hset h B off v)[B]? = some (.cells (c.setIfInBounds off v) e fz) := by
  simp [hset, Array.getElem?_modify, hb]
theorem hset_other {h : Array Obj} {B B' off : Nat} {v : Value} (hb : B ≠ B') : (hset h B off v)[B']? = h[B']? := by
  simp [hset, Array.getElem?_modify, hb]
theorem ex_store {B off : Nat} {c : Array Value} {e : TypeId} (hx : ev ρ x = .pointer (some ⟨B, off, none⟩)) (hy : ev ρ y = v) (hv : v.oneCell' = true) [Siz P T 1] (hb : h[B]? = some (.cells c e (0, 0))) (ho : off < c.size) :
    Ex P ρ ⟨d, .store T x y, ty, p, af, g⟩ h undef (hset h B off v) := ⟨fun E w hw => by
  have hc : w.cell? ⟨B, off, none⟩ = some c[off] := by
    unfold World.cell?
    rw [hw.1, hb]
    simp [ho]
  have hf : w.frozen? ⟨B, off, none⟩ = false := by
    unfold World.frozen?
    rw [hw.1, hb]
    simp
  have hcells : v.cells = #[v] := by cases v <;> first | rfl | (simp [Value.oneCell'] at hv; done)
  refine ⟨.skip, w.setCell ⟨B, off, none⟩ v, ?_, ⟨?_, hw.2.1, hw.2.2.1, hw.2.2.2⟩, .inr ⟨rfl, rfl⟩⟩
  · simp [execOp, hx, hy, Instr.storeAt, Instr.sureAddr, storeVar, siz T w, hcells, storeCells, add_at, run_store _ _ _ _ _ hv, hc, hf]
  · simp only [World.setCell, hset, hw.1]
    congr 1⟩
end

/-! ### Memory: what was there at h0, but for M, is as it was; M and L are blocks known whole, L's are new -/
/-- Nothing within may not be written. -/
def fzok (fz : Nat × Nat) (n : Nat) : Prop := ∀ i, i < n → ¬ (fz.1 ≤ i ∧ i < fz.2)
theorem fzok0 (n : Nat) : fzok (0, 0) n := fun i _ h => by simp at h
/-- What kind of object a block is: cells of a type, a map, a text that is gone over. -/
inductive BT | c (T : TypeId) | map | sit
instance : Coe TypeId BT := ⟨BT.c⟩
@[simp] def BT.ty : BT → TypeId
  | .c T => T
  | _ => 0
abbrev Blk := Nat × List Value × BT
structure Mem (h0 h : Array Obj) (M L : List Blk) : Prop where
  size : h0.size ≤ h.size
  old : ∀ b, b < h0.size → (∀ p ∈ M, p.1 ≠ b) → h[b]? = h0[b]?
  at_ : ∀ p ∈ M ++ L, h[p.1]? = some (.cells p.2.1.toArray p.2.2.ty (0, 0))
  new : ∀ p ∈ L, h0.size ≤ p.1
  nodup : ((M ++ L).map (·.1)).Nodup
def Ext (h0 h : Array Obj) : Prop := h0.size ≤ h.size ∧ ∀ b, b < h0.size → h[b]? = h0[b]?

theorem Ext.refl (h : Array Obj) : Ext h h := ⟨Nat.le_refl _, fun _ _ => rfl⟩
theorem Ext.trans {a b c : Array Obj} (h1 : Ext a b) (h2 : Ext b c) : Ext a c := ⟨Nat.le_trans h1.1 h2.1, fun i hi => (h2.2 i (Nat.lt_of_lt_of_le hi h1.1)).trans (h1.2 i hi)⟩
theorem Mem.refl (h : Array Obj) : Mem h h [] [] := ⟨Nat.le_refl _, fun _ _ _ => rfl, by simp, by simp, by simp⟩
theorem Mem.ext {h0 h : Array Obj} {L : List Blk} (hm : Mem h0 h [] L) : Ext h0 h := ⟨hm.size, fun b hb => hm.old b hb (by simp)⟩
theorem Mem.of_ext {h0 h : Array Obj} (he : Ext h0 h) : Mem h0 h [] [] := ⟨he.1, fun b hb _ => he.2 b hb, by simp, by simp, by simp⟩
theorem Mem.lt {h0 h : Array Obj} {M L : List Blk} (hm : Mem h0 h M L) {p : Blk} (hp : p ∈ M ++ L) : p.1 < h.size := by
  have := hm.at_ p hp
  exact (Array.getElem?_eq_some_iff.1 this).1
/-- Behind a call that leaves what was there as it is. -/
theorem Mem.call {h0 h h' : Array Obj} {M L : List Blk} (hm : Mem h0 h M L) (he : Ext h h') : Mem h0 h' M L :=
  ⟨Nat.le_trans hm.size he.1, fun b hb hM => (he.2 b (Nat.lt_of_lt_of_le hb hm.size)).trans (hm.old b hb hM), fun p hp => (he.2 _ (hm.lt hp)).trans (hm.at_ p hp), hm.new, hm.nodup⟩
theorem Mem.push {h0 h : Array Obj} {M L : List Blk} (hm : Mem h0 h M L) (cs : List Value) (T : TypeId) : Mem h0 (h.push (.cells cs.toArray T (0, 0))) M ((h.size, cs, BT.c T) :: L) := by
  refine ⟨by simp; have := hm.size; omega, fun b hb hM => ?_, fun p hp => ?_, fun p hp => ?_, ?_⟩
  · rw [Array.getElem?_push, if_neg (by have := hm.size; omega)]
    exact hm.old b hb hM
  · simp only [List.mem_append, List.mem_cons] at hp
    rcases hp with hp | rfl | hp
    · have h1 := hm.lt (p := p) (by simp [hp])
      rw [Array.getElem?_push, if_neg (by omega)]
      exact hm.at_ p (by simp [hp])
    · simp
    · have h1 := hm.lt (p := p) (by simp [hp])
      rw [Array.getElem?_push, if_neg (by omega)]
      exact hm.at_ p (by simp [hp])
  · simp only [List.mem_cons] at hp
    rcases hp with rfl | hp
    · exact hm.size
    · exact hm.new p hp
  · have h1 : ∀ q ∈ M ++ L, q.1 ≠ h.size := fun q hq => by have := hm.lt hq; omega
    have h2 := hm.nodup
    simp only [List.map_append, List.map_cons] at h2 ⊢
    rw [List.nodup_append] at h2 ⊢
    refine ⟨h2.1, ?_, ?_⟩
    · rw [List.nodup_cons]
      refine ⟨fun hin => ?_, h2.2.1⟩
      obtain ⟨q, hq, he⟩ := List.mem_map.1 hin
      exact h1 q (by simp [hq]) he
    · intro a ha b hb hab
      simp only [List.mem_cons] at hb
      rcases hb with rfl | hb
      · obtain ⟨q, hq, he⟩ := List.mem_map.1 ha
        exact h1 q (by simp [hq]) (by omega)
      · exact h2.2.2 a ha b hb hab
theorem Mem.own {h0 h : Array Obj} {M L : List Blk} (hm : Mem h0 h M L) {B off j : Nat} {cs : List Value} {T : TypeId} {v : Value} (hj : L[j]? = some (B, cs, BT.c T)) (hc : cs[off]? = some v) : cell h ⟨B, off, none⟩ = some v := by
  have h1 := hm.at_ (B, cs, BT.c T) (by simp [List.mem_of_getElem? hj])
  simp only at h1
  simp [K.cell, h1, hc]
theorem Mem.mut {h0 h : Array Obj} {M L : List Blk} (hm : Mem h0 h M L) {B off j : Nat} {cs : List Value} {T : TypeId} {v : Value} (hj : M[j]? = some (B, cs, BT.c T)) (hc : cs[off]? = some v) : cell h ⟨B, off, none⟩ = some v := by
  have h1 := hm.at_ (B, cs, BT.c T) (by simp [List.mem_of_getElem? hj])
  simp only at h1
  simp [K.cell, h1, hc]
theorem nodup_keys {L : List Blk} (hn : (L.map (·.1)).Nodup) {j : Nat} {B : Nat} {cs : List Value} {T : BT} (hj : L[j]? = some (B, cs, T)) {i : Nat} {q : Blk} (hi : L[i]? = some q) (hij : i ≠ j) : q.1 ≠ B := by
  intro he
  have h1 : (L.map (·.1))[i]? = some q.1 := by simp [hi]
  have h2 : (L.map (·.1))[j]? = some B := by simp [hj]
  rw [he] at h1
  obtain ⟨hi', hi''⟩ := List.getElem?_eq_some_iff.1 h1
  obtain ⟨hj', hj''⟩ := List.getElem?_eq_some_iff.1 h2
  exact hij ((List.getElem_inj (h₀ := hi') (h₁ := hj') hn).1 (hi''.trans hj''.symm))
/-- A block of M ++ L is written whole: j is its place in M ++ L. -/
theorem Mem.put {h0 h h' : Array Obj} {M L M' L' : List Blk} (hm : Mem h0 h M L) {j B : Nat} {cs cs' : List Value} {T : TypeId} (hj : (M ++ L)[j]? = some (B, cs, BT.c T)) (hz : h'.size = h.size) (ho : ∀ b, b ≠ B → h'[b]? = h[b]?) (hb : h'[B]? = some (.cells cs'.toArray T (0, 0)))
    (hML : (M ++ L).set j (B, cs', BT.c T) = M' ++ L') (hlen : M'.length = M.length) : Mem h0 h' M' L' := by
  have hjl : j < (M ++ L).length := (List.getElem?_eq_some_iff.1 hj).1
  have hkeys : (M' ++ L').map (·.1) = (M ++ L).map (·.1) := by
    rw [← hML, List.map_set]
    apply List.ext_getElem?
    intro i
    by_cases e : j = i
    · subst e
      rw [List.getElem?_set_self (by simpa using hjl), List.getElem?_map, hj]
      rfl
    · rw [List.getElem?_set_ne e]
  have hM : M'.map (·.1) = M.map (·.1) := by
    have := congrArg (List.take M.length) hkeys
    simpa [hlen, List.take_append_of_le_length] using this
  have hL : L'.map (·.1) = L.map (·.1) := by
    have := congrArg (List.drop M.length) hkeys
    simpa [hlen] using this
  refine ⟨by rw [hz]; exact hm.size, fun b hb' hMb => ?_, fun p hp => ?_, fun p hp => ?_, by rw [hkeys]; exact hm.nodup⟩
  · have hMb' : ∀ p ∈ M, p.1 ≠ b := fun p hp he => by
      have : b ∈ M'.map (·.1) := by rw [hM]; exact List.mem_map.2 ⟨p, hp, he⟩
      obtain ⟨q, hq, hqe⟩ := List.mem_map.1 this
      exact hMb q hq hqe
    by_cases hbB : b = B
    · subst hbB
      have hmem : (b, cs, BT.c T) ∈ M ++ L := List.mem_of_getElem? hj
      rcases List.mem_append.1 hmem with h1 | h1
      · exact absurd rfl (hMb' _ h1)
      · have := hm.new _ h1
        simp only at this
        omega
    · rw [ho b hbB]; exact hm.old b hb' hMb'
  · obtain ⟨i, hi⟩ := List.mem_iff_getElem?.1 hp
    rw [← hML] at hi
    by_cases e : j = i
    · subst e
      rw [List.getElem?_set_self hjl] at hi
      obtain rfl := Option.some.inj hi
      exact hb
    · rw [List.getElem?_set_ne e] at hi
      have hne := nodup_keys hm.nodup hj hi (fun h => e h.symm)
      rw [ho _ hne]
      exact hm.at_ p (List.mem_of_getElem? hi)
  · have : p.1 ∈ L.map (·.1) := by rw [← hL]; exact List.mem_map.2 ⟨p, hp, rfl⟩
    obtain ⟨q, hq, he⟩ := List.mem_map.1 this
    rw [← he]
    exact hm.new q hq

section
variable {P : Program} {E : Env} {ops : List Oper} {K : List Value → Array Obj → Prop} {rest : List Oper} {ρ ρ' : List Value} {o : Oper} {h0 h h' : Array Obj} {M L M' L' : List Blk} {v u : Value} {d : Option Tmp} {T ty U : TypeId} {p : String} {af : Array Edge} {g : Option (Nat × Bool)} {x y z : Operand} {cs : List Value}

theorem lw_box (hw : Wan ops ρ ⟨d, .box T x, ty, p, af, g⟩) (hx : ev ρ x = u) (hc : u.cells = cs.toArray) (hm : Mem h0 h M L)
    (hk : ∀ B h, Mem h0 h M ((B, cs, BT.c T) :: L) → LW P E ops K rest (setD ρ d (.pointer (some ⟨B, 0, none⟩))) h) : LW P E ops K (⟨d, .box T x, ty, p, af, g⟩ :: rest) ρ h :=
  lw_ex hw (ex_box hx) rfl (hk _ _ (by rw [hc]; exact hm.push cs T))
theorem lw_alloc [Zer P T u] (hw : Wan ops ρ ⟨d, .alloc T, ty, p, af, g⟩) (hc : u.cells = cs.toArray) (hm : Mem h0 h M L)
    (hk : ∀ B h, Mem h0 h M ((B, cs, BT.c T) :: L) → LW P E ops K rest (setD ρ d (.pointer (some ⟨B, 0, none⟩))) h) : LW P E ops K (⟨d, .alloc T, ty, p, af, g⟩ :: rest) ρ h :=
  lw_ex hw (ex_alloc (P := P) (T := T) (u := u)) rfl (hk _ _ (by rw [hc]; exact hm.push cs T))
/-- A store of one cell into a block that is known whole. -/
theorem lw_store [Siz P T 1] {B off j : Nat} {e : TypeId} (hw : Wan ops ρ ⟨d, .store T x y, ty, p, af, g⟩) (hx : ev ρ x = .pointer (some ⟨B, off, none⟩)) (hy : ev ρ y = v) (hv : v.oneCell' = true) (hm : Mem h0 h M L)
    (hj : (M ++ L)[j]? = some (B, cs, BT.c e)) (ho : off < cs.length) (hML : (M ++ L).set j (B, cs.set off v, BT.c e) = M' ++ L') (hlen : M'.length = M.length)
    (hk : ∀ h, Mem h0 h M' L' → LW P E ops K rest (setD ρ d undef) h) : LW P E ops K (⟨d, .store T x y, ty, p, af, g⟩ :: rest) ρ h := by
  have hb := hm.at_ _ (List.mem_of_getElem? hj)
  simp only at hb
  refine lw_ex hw (ex_store hx hy hv hb (by simpa using ho)) rfl (hk _ ?_)
  refine hm.put hj (hset_size _ _ _ _) (fun b hb' => hset_other (fun e => hb' e.symm)) ?_ hML hlen
  rw [hset_same hb]
  simp
/-- The callee changes nothing that was there. -/
theorem lw_calx {gg : FuncId} {xs : List Operand} {ta : Array TypeId} [Cal P gg] (hw : Wan ops ρ ⟨d, .call ⟨.value (.func gg), xs.toArray, ta⟩, ty, p, af, g⟩) (hc : Ret P gg (xs.map (ev ρ)) h fun v' h' => v' = v ∧ Ext h h') (hm : Mem h0 h M L)
    (hs : setD ρ d v = ρ') (hk : ∀ h, Mem h0 h M L → LW P E ops K rest ρ' h) : LW P E ops K (⟨d, .call ⟨.value (.func gg), xs.toArray, ta⟩, ty, p, af, g⟩ :: rest) ρ h :=
  lw_cal hw hc fun v' h' ⟨hv, hh⟩ => by subst hv; rw [hs]; exact hk _ (hm.call hh)
/-- A callee whose result is told by a relation. -/
theorem lw_calr {gg : FuncId} {xs : List Operand} {ta : Array TypeId} {Q : Value → Prop} [Cal P gg] (hw : Wan ops ρ ⟨d, .call ⟨.value (.func gg), xs.toArray, ta⟩, ty, p, af, g⟩) (hc : Ret P gg (xs.map (ev ρ)) h fun v' h' => Q v' ∧ Ext h h') (hm : Mem h0 h M L)
    (hk : ∀ v h, Q v → Mem h0 h M L → LW P E ops K rest (setD ρ d v) h) : LW P E ops K (⟨d, .call ⟨.value (.func gg), xs.toArray, ta⟩, ty, p, af, g⟩ :: rest) ρ h :=
  lw_cal hw hc fun _ _ ⟨hv, hh⟩ => hk _ _ hv (hm.call hh)
theorem lw_norm (hs : ρ = ρ') (hk : LW P E ops K rest ρ' h) : LW P E ops K rest ρ h := by rw [hs]; exact hk
theorem lw_store_own [Siz P T 1] {B off j : Nat} {e : TypeId} (hw : Wan ops ρ ⟨d, .store T x y, ty, p, af, g⟩) (hx : ev ρ x = .pointer (some ⟨B, off, none⟩)) (hy : ev ρ y = v) (hv : v.oneCell' = true) (hm : Mem h0 h M L)
    (hj : L[j]? = some (B, cs, BT.c e)) (ho : off < cs.length) (hL : L.set j (B, cs.set off v, BT.c e) = L') (hs : setD ρ d undef = ρ')
    (hk : ∀ h, Mem h0 h M L' → LW P E ops K rest ρ' h) : LW P E ops K (⟨d, .store T x y, ty, p, af, g⟩ :: rest) ρ h := by
  refine lw_store (j := M.length + j) hw hx hy hv hm (by simpa [List.getElem?_append_right] using hj) ho (M' := M) (L' := L') ?_ rfl (by rw [hs]; exact hk)
  rw [← hL, List.set_append_right _ _ (by omega)]
  simp
theorem lw_store_mut [Siz P T 1] {B off j : Nat} {e : TypeId} (hw : Wan ops ρ ⟨d, .store T x y, ty, p, af, g⟩) (hx : ev ρ x = .pointer (some ⟨B, off, none⟩)) (hy : ev ρ y = v) (hv : v.oneCell' = true) (hm : Mem h0 h M L)
    (hj : M[j]? = some (B, cs, BT.c e)) (ho : off < cs.length) (hM : M.set j (B, cs.set off v, BT.c e) = M') (hs : setD ρ d undef = ρ')
    (hk : ∀ h, Mem h0 h M' L → LW P E ops K rest ρ' h) : LW P E ops K (⟨d, .store T x y, ty, p, af, g⟩ :: rest) ρ h := by
  have hjl : j < M.length := (List.getElem?_eq_some_iff.1 hj).1
  refine lw_store (j := j) hw hx hy hv hm (by rw [List.getElem?_append_left hjl]; exact hj) ho (M' := M') (L' := L) ?_ (by rw [← hM]; simp) (by rw [hs]; exact hk)
  rw [← hM, List.set_append_left _ _ hjl]
variable {f : FuncId} {R : Value → Array Obj → Prop} {kk : List Item} {Kq : List Value → Prop}
/-- A region that draws its order and changes nothing that is told. -/
theorem tw_quietM {id : Nat} (hm : Mem h0 h M L) (hmo : P.follows .mixedOrders = true) (hB : Region.lexB .any ops.toArray = true) (hl : ∀ K : List Value → Prop, (∀ ρ, (∀ h, Mem h0 h M L → TW P f E R kk ρ h) → K ρ) → QW P E (fun h => Mem h0 h M L) ops K ops ρ) : TW P f E R (.code (.region id ops.toArray true) :: kk) ρ h :=
  tw_quiet _ hmo hB hm hl
theorem qw_calx {gg : FuncId} {xs : List Operand} {ta : Array TypeId} [Cal P gg] (hw : Wan ops ρ ⟨d, .call ⟨.value (.func gg), xs.toArray, ta⟩, ty, p, af, g⟩) (hc : ∀ h, Mem h0 h M L → Ret P gg (xs.map (ev ρ)) h fun v' h' => v' = v ∧ Ext h h')
    (hs : setD ρ d v = ρ') (hk : QW P E (fun h => Mem h0 h M L) ops Kq rest ρ') : QW P E (fun h => Mem h0 h M L) ops Kq (⟨d, .call ⟨.value (.func gg), xs.toArray, ta⟩, ty, p, af, g⟩ :: rest) ρ :=
  qw_calp hw (fun h hm => (hc h hm).mono fun _ _ ⟨hv, he⟩ => ⟨hv, hm.call he⟩) hs hk
/-- What the callee does to a block that it is handed (the first of M). -/
theorem Mem.after {h' : Array Obj} {j B : Nat} {cs' : List Value} (hm : Mem h0 h M L) (hj : L[j]? = some (B, cs, BT.c T)) (hc : Mem h h' [(B, cs', BT.c T)] []) (hL : L.set j (B, cs', BT.c T) = L') : Mem h0 h' M L' := by
  have hjl : j < L.length := (List.getElem?_eq_some_iff.1 hj).1
  subst hL
  have hoth : ∀ b, b < h.size → b ≠ B → h'[b]? = h[b]? := fun b hb hne => hc.old b hb (by simpa using fun e => hne e.symm)
  have hBnew : h0.size ≤ B := hm.new (B, cs, BT.c T) (List.mem_of_getElem? hj)
  have hkeys : (L.set j (B, cs', BT.c T)).map (·.1) = L.map (·.1) := by
    rw [List.map_set]
    apply List.ext_getElem?
    intro i
    by_cases e : j = i
    · subst e
      rw [List.getElem?_set_self (by simpa using hjl), List.getElem?_map, hj]
      rfl
    · rw [List.getElem?_set_ne e]
  refine ⟨Nat.le_trans hm.size hc.size, fun b hb hM => ?_, fun p hp => ?_, fun p hp => ?_, ?_⟩
  · have := hm.size
    rw [hoth b (by omega) (by omega)]
    exact hm.old b hb hM
  · rcases List.mem_append.1 hp with hp | hp
    · have hlt := hm.lt (p := p) (by simp [hp])
      have hne : p.1 ≠ B := by
        have hn := hm.nodup
        rw [List.map_append, List.nodup_append] at hn
        exact hn.2.2 p.1 (List.mem_map.2 ⟨p, hp, rfl⟩) B (List.mem_map.2 ⟨_, List.mem_of_getElem? hj, rfl⟩)
      rw [hoth _ hlt hne]
      exact hm.at_ p (by simp [hp])
    · obtain ⟨i, hi⟩ := List.mem_iff_getElem?.1 hp
      by_cases e : j = i
      · subst e
        rw [List.getElem?_set_self hjl] at hi
        obtain rfl := Option.some.inj hi
        exact hc.at_ (B, cs', BT.c T) (by simp)
      · rw [List.getElem?_set_ne e] at hi
        have hn := hm.nodup
        rw [List.map_append, List.nodup_append] at hn
        have hne := nodup_keys hn.2.1 hj hi (fun h => e h.symm)
        have hin : p ∈ L := List.mem_of_getElem? hi
        rw [hoth _ (hm.lt (p := p) (by simp [hin])) hne]
        exact hm.at_ p (by simp [hin])
  · have : p.1 ∈ L.map (·.1) := by rw [← hkeys]; exact List.mem_map.2 ⟨p, hp, rfl⟩
    obtain ⟨q, hq, he⟩ := List.mem_map.1 this
    rw [← he]
    exact hm.new q hq
  · rw [List.map_append, hkeys, ← List.map_append]
    exact hm.nodup
/-- A callee that is handed one of the caller's own blocks (the j-th of L), and changes it alone. -/
theorem lw_calm {gg : FuncId} {xs : List Operand} {ta : Array TypeId} {j B : Nat} {cs' : List Value} [Cal P gg] (hw : Wan ops ρ ⟨d, .call ⟨.value (.func gg), xs.toArray, ta⟩, ty, p, af, g⟩) (hm : Mem h0 h M L) (hj : L[j]? = some (B, cs, BT.c T))
    (hc : h[B]? = some (.cells cs.toArray T (0, 0)) → Ret P gg (xs.map (ev ρ)) h fun v' h' => v' = v ∧ Mem h h' [(B, cs', BT.c T)] []) (hL : L.set j (B, cs', BT.c T) = L')
    (hs : setD ρ d v = ρ') (hk : ∀ h, Mem h0 h M L' → LW P E ops K rest ρ' h) : LW P E ops K (⟨d, .call ⟨.value (.func gg), xs.toArray, ta⟩, ty, p, af, g⟩ :: rest) ρ h :=
  lw_cal hw (hc (hm.at_ (B, cs, BT.c T) (by simp [List.mem_of_getElem? hj]))) fun v' h' ⟨hv, hh⟩ => by subst hv; rw [hs]; exact hk _ (hm.after hj hh hL)
/-- The same for one that changes the j-th of the caller's own blocks. -/
theorem lw_calrm {X : Type} {gg : FuncId} {xs : List Operand} {ta : Array TypeId} {j B : Nat} {val : X → Value} {cs' : X → List Value} {Q : X → Prop} [Cal P gg] (hw : Wan ops ρ ⟨d, .call ⟨.value (.func gg), xs.toArray, ta⟩, ty, p, af, g⟩) (hm : Mem h0 h M L) (hj : L[j]? = some (B, cs, BT.c T))
    (hc : h[B]? = some (.cells cs.toArray T (0, 0)) → Ret P gg (xs.map (ev ρ)) h fun v' h' => ∃ x, Q x ∧ v' = val x ∧ Mem h h' [(B, cs' x, BT.c T)] [])
    (hk : ∀ x h, Q x → Mem h0 h M (L.set j (B, cs' x, BT.c T)) → LW P E ops K rest (setD ρ d (val x)) h) : LW P E ops K (⟨d, .call ⟨.value (.func gg), xs.toArray, ta⟩, ty, p, af, g⟩ :: rest) ρ h :=
  lw_cal hw (hc (hm.at_ (B, cs, BT.c T) (by simp [List.mem_of_getElem? hj]))) fun _ _ ⟨x, hq, hv, hh⟩ => by subst hv; exact hk x _ hq (hm.after hj hh rfl)
theorem Mem.one {B : Nat} (hb : h[B]? = some (.cells cs.toArray T (0, 0))) : Mem h h [(B, cs, BT.c T)] [] := ⟨Nat.le_refl _, fun _ _ _ => rfl, by simpa using hb, by simp, by simp⟩
theorem Mem.drop (hm : Mem h0 h M L) : Mem h0 h M [] :=
  ⟨hm.size, hm.old, fun p hp => hm.at_ p (by simp at hp; simp [hp]), by simp, by have := hm.nodup; rw [List.map_append, List.nodup_append] at this; simpa using this.1⟩
end

/-! ### Struct literals whose parts are of one cell each -/
class Bld (P : Program) (T : TypeId) (pl : outParam (List (Nat × Nat))) (z : outParam (List Value)) : Prop where
  out : ∀ (parts : Array (Nat × Value)) (cells : Array Value) (w : World), Instr.fill (fun i => pl[i]?) z.toArray parts.toList = some cells → (Instr.build T parts).run P w = .ok (.agg cells) w
theorem bld_of {P : Program} {T : TypeId} {pl : List (Nat × Nat)} {z : List Value} {fs : Array Field} (hz : ∀ w, (zeroValue T).run P w = .ok (.agg z.toArray) w) (hu : ∀ w, (underlying T).run P w = .ok (.struct fs) w)
    (hm : ∀ w, (fs.mapM (m := Sem) fun f => do pure (f.offset, ← sizeOf f.type)).run P w = .ok pl.toArray w) : Bld P T pl z := ⟨fun parts cells w h => by
  have h' : Instr.fill (fun i => pl.toArray[i]?) z.toArray parts.toList = some cells := by simpa using h
  simp only [Instr.build, Sem.run_bind, hz, Result.andThen_ok, hu, Value.cells, hm, h']
  rfl⟩
def put1 (pl : List (Nat × Nat)) : List Value → List (Nat × Value) → List Value
  | z, [] => z
  | z, (i, v) :: r => put1 pl (z.set (pl.getD i (0, 0)).1 v) r
theorem fill_put1 (pl : List (Nat × Nat)) : ∀ (z : List Value) (parts : List (Nat × Value)), (parts.all fun q => match pl[q.1]? with | some (off, s) => s == 1 && decide (off < z.length) | none => false) = true → (parts.all fun q => q.2.oneCell') = true →
    Instr.fill (fun i => pl[i]?) z.toArray parts = some (put1 pl z parts).toArray
  | z, [], _, _ => by simp [Instr.fill, put1]
  | z, (i, v) :: r, h1, h2 => by
    simp only [List.all_cons, Bool.and_eq_true] at h1 h2
    obtain ⟨h1, h1'⟩ := h1
    obtain ⟨h2, h2'⟩ := h2
    have hc : v.cells = #[v] := by cases v <;> first | rfl | (simp [Value.oneCell'] at h2; done)
    cases hp : pl[i]? with
    | none => rw [hp] at h1; cases h1
    | some q =>
      obtain ⟨off, sz⟩ := q
      rw [hp] at h1
      simp only [Bool.and_eq_true, beq_iff_eq, decide_eq_true_eq] at h1
      obtain ⟨rfl, ho⟩ := h1
      simp only [Instr.fill, put1, hp, hc]
      have hlt : ¬ (off + (#[v] : Array Value).size > z.toArray.size) := by simp; omega
      simp only [List.getD_eq_getElem?_getD, hp, Option.getD_some]
      simp only [List.size_toArray, List.length_cons, List.length_nil, Nat.zero_add, ne_eq, not_true_eq_false, decide_false, Bool.false_or, decide_eq_true_eq]
      rw [if_neg (by simp at hlt; simp; omega)]
      have := fill_put1 pl (z.set off v) r (by simpa using h1') h2'
      rw [← this]
      congr 1
      simp
section
variable {P : Program} {ρ : List Value} {h : Array Obj} {d : Option Tmp} {T ty : TypeId} {p : String} {af : Array Edge} {g : Option (Nat × Bool)} {cs : List Value}
theorem pu_build {pl : List (Nat × Nat)} {z : List Value} [Bld P T pl z] {ps : List (Nat × Operand)} (hok : (ps.all fun q => match pl[q.1]? with | some (off, s) => s == 1 && decide (off < z.length) | none => false) = true) (hone : (ps.all fun q => (ev ρ q.2).oneCell') = true)
    (hv : put1 pl z (ps.map fun q => (q.1, ev ρ q.2)) = cs) : Pu P ρ ⟨d, .build T ps.toArray, ty, p, af, g⟩ h (.agg cs.toArray) := ⟨fun w _ => by
  have := Bld.out (P := P) (T := T) (ps.map fun q => (q.1, ev ρ q.2)).toArray cs.toArray w (by
    rw [← hv]
    exact fill_put1 pl z _ (by simpa [List.all_map, Function.comp_def] using hok) (by simpa [List.all_map, Function.comp_def] using hone))
  simp only [execOp, Sem.run_bind]
  simp only [List.map_toArray]
  rw [this]
  simp⟩
end
end Go.Proofs.YtpedmnlpccngiaaDoor.K
