/-
  A walk for a function's code, rule by rule: what is asked of the machine's steps, over slots and memory alone. Nothing is claimed of the program here.
-/
import Derived.Deep.Quiet
import Derived.Tactics
import Derived.KernelRfl
namespace Go.Proofs.Ytchhjooifjcnkaa.K
open Go

structure Env where
  os : Os
  out : Array (Nat × ByteArray)
  tape : Nat → Question → Nat

def At (E : Env) (h : Array Obj) (w : World) : Prop := w.heap = h ∧ w.os = E.os ∧ w.output = E.out ∧ w.tape = E.tape

def act (ρ : List Value) : Act := { tmps := ρ.toArray, defers := [] }

def ev (ρ : List Value) : Operand → Value
  | .tmp t => ρ.getD t undef
  | .const v => v
  | .global g => .pointer (some ⟨g, 0, none⟩)
  | .func f => .func (.func f) #[] #[]

theorem eval_mk (ρ : List Value) : (act ρ).eval = ev ρ := by
  funext x
  cases x <;> simp [Act.eval, ev, act]

def base (f : FuncId) : Frame := { (default : Frame) with fn := f, kind := .normal }

/-- From here on the function f comes to its end, with a result of which R holds. -/
structure TW (P : Program) (f : FuncId) (E : Env) (R : Value → Array Obj → Prop) (k : List Item) (ρ : List Value) (h : Array Obj) : Prop where
  out : ∀ w, At E h w → ∀ cs, ∃ v w' fr, (∃ h', At E h' w' ∧ R v h') ∧ Steps P (lone ((base f).at (act ρ) k) cs w) (lone fr cs w') ∧ fr.fn = f ∧ fr.leaving P w' (.returned v)

/-- The contract of a function: it returns, and of its result and the memory behind it R holds. -/
structure Ret (P : Program) (f : FuncId) (args : List Value) (h : Array Obj) (R : Value → Array Obj → Prop) : Prop where
  out : ∀ E w, At E h w → Calls P f args.toArray w fun e w' => ∃ v, e = .returned v ∧ ∃ h', At E h' w' ∧ R v h'

section
variable {P : Program} {f : FuncId} {E : Env} {R : Value → Array Obj → Prop} {k k' : List Item} {ρ ρ' : List Value} {h h' : Array Obj}

theorem TW.step (hs : ∀ cs w, At E h w → step P (lone ((base f).at (act ρ) k) cs w) = .next (lone ((base f).at (act ρ) k') cs w)) (ht : TW P f E R k' ρ h) : TW P f E R k ρ h := by
  refine ⟨fun w hw cs => ?_⟩
  obtain ⟨v, w', fr, hR, hst, hf, hl⟩ := ht.out w hw cs
  exact ⟨v, w', fr, hR, .head (hs cs w hw) hst, hf, hl⟩

theorem TW.of_wp {c : Code} (hw : ∀ w, At E h w → c.wp P (fun e a w' => e = .normal ∧ ∃ ρ' h', a = act ρ' ∧ At E h' w' ∧ TW P f E R k ρ' h') (act ρ) w) : TW P f E R (.code c :: k) ρ h := by
  refine ⟨fun w hA cs => ?_⟩
  obtain ⟨e, a', w', ⟨rfl, ρ', h', rfl, hA', hT⟩, harr⟩ := hw w hA (base f) k cs
  obtain ⟨v, w2, fr, hR, hst, hf, hl⟩ := hT.out w' hA' cs
  exact ⟨v, w2, fr, hR, Steps.trans harr hst, hf, hl⟩

theorem tw_skip (ht : TW P f E R k ρ h) : TW P f E R (.code .skip :: k) ρ h := ht.step fun _ _ _ => step_skip
theorem tw_inBlock {id : Nat} (ht : TW P f E R k ρ h) : TW P f E R (.inBlock id :: k) ρ h := ht.step fun _ _ _ => step_inBlock
theorem tw_seq {a b : Code} (ht : TW P f E R (.code a :: .code b :: k) ρ h) : TW P f E R (.code (.seq a b) :: k) ρ h := ht.step fun _ _ _ => step_seq
theorem tw_block {id : Nat} {c : Code} (ht : TW P f E R (.code c :: .inBlock id :: k) ρ h) : TW P f E R (.code (.block id c) :: k) ρ h := ht.step fun _ _ _ => step_block
theorem tw_exit {id : Nat} (he : exitTo id k = some k') (ht : TW P f E R k' ρ h) : TW P f E R (.code (.exit id) :: k) ρ h := ht.step fun _ _ _ => step_exit he
theorem tw_loop0 {c : Code} (ht : TW P f E R (.code c :: .inLoop c :: k) ρ h) : TW P f E R (.code (.loop c) :: k) ρ h := ht.step fun _ _ _ => step_loop
theorem tw_inLoop {c : Code} (ht : TW P f E R (.code c :: .inLoop c :: k) ρ h) : TW P f E R (.inLoop c :: k) ρ h := ht.step fun _ _ _ => step_inLoop

theorem tw_cond {x : Operand} {a b : Code} {t : Bool} (hx : ev ρ x = .bool t) (ht : TW P f E R (.code (if t then a else b) :: k) ρ h) : TW P f E R (.code (.cond x a b) :: k) ρ h :=
  ht.step fun _ _ _ => step_cond (by rw [eval_mk]; exact hx)
theorem tw_cond_t {x : Operand} {a b : Code} (hx : ev ρ x = .bool true) (ht : TW P f E R (.code a :: k) ρ h) : TW P f E R (.code (.cond x a b) :: k) ρ h := tw_cond hx ht
theorem tw_cond_f {x : Operand} {a b : Code} (hx : ev ρ x = .bool false) (ht : TW P f E R (.code b :: k) ρ h) : TW P f E R (.code (.cond x a b) :: k) ρ h := tw_cond hx ht
theorem tw_cond_d {x : Operand} {a b : Code} {p : Prop} [Decidable p] (hx : ev ρ x = .bool (decide p)) (ht : p → TW P f E R (.code a :: k) ρ h) (hf : ¬ p → TW P f E R (.code b :: k) ρ h) : TW P f E R (.code (.cond x a b) :: k) ρ h := by
  by_cases hp : p
  · exact tw_cond_t (by rw [hx]; simp [hp]) (ht hp)
  · exact tw_cond_f (by rw [hx]; simp [hp]) (hf hp)
theorem tw_cond_b {x : Operand} {a b : Code} {t : Bool} (hx : ev ρ x = .bool t) (ht : t = true → TW P f E R (.code a :: k) ρ h) (hf : t = false → TW P f E R (.code b :: k) ρ h) : TW P f E R (.code (.cond x a b) :: k) ρ h := by
  cases t
  · exact tw_cond_f hx (hf rfl)
  · exact tw_cond_t hx (ht rfl)

/-- What a function hands back, out of its slots. -/
theorem tw_ret_any {fn : Func} {v : Value} (hf : P.funcs[f]? = some fn) (hr : ∀ w, At E h w → (results fn ρ.toArray).run P w = .ok v w) (hR : R v h) : TW P f E R (.code .ret :: k) ρ h := by
  refine ⟨fun w hw cs => ?_⟩
  exact ⟨v, w, { (base f).at (act ρ) (.code .ret :: k) with mode := .returning }, ⟨h, hw, hR⟩, .one step_ret, rfl, rfl, rfl, rfl, fn, hf, hr w hw⟩
theorem tw_end_any {fn : Func} {v : Value} (hf : P.funcs[f]? = some fn) (hr : ∀ w, At E h w → (results fn ρ.toArray).run P w = .ok v w) (hR : R v h) : TW P f E R [] ρ h := by
  refine ⟨fun w hw cs => ?_⟩
  exact ⟨v, w, { (base f).at (act ρ) [] with mode := .returning }, ⟨h, hw, hR⟩, .one step_end, rfl, rfl, rfl, rfl, fn, hf, hr w hw⟩

theorem results_one {fn : Func} {t : Tmp} (h : fn.results = #[.tmp t]) (ρ : List Value) (w : World) : (results fn ρ.toArray).run P w = .ok (ev ρ (.tmp t)) w := by
  simp [results, h, ev]
theorem results_zero {fn : Func} (h : fn.results = #[]) (ρ : List Value) (w : World) : (results fn ρ.toArray).run P w = .ok (.tuple #[]) w := by
  simp [results, h]
theorem results_two {fn : Func} {t u : Tmp} (h : fn.results = #[.tmp t, .tmp u]) (ρ : List Value) (w : World) : (results fn ρ.toArray).run P w = .ok (.tuple #[ev ρ (.tmp t), ev ρ (.tmp u)]) w := by
  simp [results, h, ev]
theorem results_three {fn : Func} {t u s : Tmp} (h : fn.results = #[.tmp t, .tmp u, .tmp s]) (ρ : List Value) (w : World) : (results fn ρ.toArray).run P w = .ok (.tuple #[ev ρ (.tmp t), ev ρ (.tmp u), ev ρ (.tmp s)]) w := by
  simp [results, h, ev]
theorem results_four {fn : Func} {t u s r : Tmp} (h : fn.results = #[.tmp t, .tmp u, .tmp s, .tmp r]) (ρ : List Value) (w : World) : (results fn ρ.toArray).run P w = .ok (.tuple #[ev ρ (.tmp t), ev ρ (.tmp u), ev ρ (.tmp s), ev ρ (.tmp r)]) w := by
  simp [results, h, ev]

theorem tw_ret1 {fn : Func} {t : Tmp} {v : Value} (hf : P.funcs[f]? = some fn) (hr : fn.results = #[.tmp t]) (hv : ev ρ (.tmp t) = v) (hR : R v h) : TW P f E R (.code .ret :: k) ρ h :=
  tw_ret_any hf (fun w _ => by rw [results_one hr, hv]) hR
theorem tw_ret0 {fn : Func} (hf : P.funcs[f]? = some fn) (hr : fn.results = #[]) (hR : R (.tuple #[]) h) : TW P f E R (.code .ret :: k) ρ h :=
  tw_ret_any hf (fun w _ => by rw [results_zero hr]) hR
theorem tw_end0 {fn : Func} (hf : P.funcs[f]? = some fn) (hr : fn.results = #[]) (hR : R (.tuple #[]) h) : TW P f E R [] ρ h :=
  tw_end_any hf (fun w _ => by rw [results_zero hr]) hR
theorem tw_ret2 {fn : Func} {t u : Tmp} {v1 v2 : Value} (hf : P.funcs[f]? = some fn) (hr : fn.results = #[.tmp t, .tmp u]) (h1 : ev ρ (.tmp t) = v1) (h2 : ev ρ (.tmp u) = v2) (hR : R (.tuple #[v1, v2]) h) : TW P f E R (.code .ret :: k) ρ h :=
  tw_ret_any hf (fun w _ => by rw [results_two hr, h1, h2]) hR
theorem tw_ret3 {fn : Func} {t u s : Tmp} {v1 v2 v3 : Value} (hf : P.funcs[f]? = some fn) (hr : fn.results = #[.tmp t, .tmp u, .tmp s]) (h1 : ev ρ (.tmp t) = v1) (h2 : ev ρ (.tmp u) = v2) (h3 : ev ρ (.tmp s) = v3) (hR : R (.tuple #[v1, v2, v3]) h) : TW P f E R (.code .ret :: k) ρ h :=
  tw_ret_any hf (fun w _ => by rw [results_three hr, h1, h2, h3]) hR
theorem tw_ret4 {fn : Func} {t u s r : Tmp} {v1 v2 v3 v4 : Value} (hf : P.funcs[f]? = some fn) (hr : fn.results = #[.tmp t, .tmp u, .tmp s, .tmp r]) (h1 : ev ρ (.tmp t) = v1) (h2 : ev ρ (.tmp u) = v2) (h3 : ev ρ (.tmp s) = v3) (h4 : ev ρ (.tmp r) = v4) (hR : R (.tuple #[v1, v2, v3, v4]) h) : TW P f E R (.code .ret :: k) ρ h :=
  tw_ret_any hf (fun w _ => by rw [results_four hr, h1, h2, h3, h4]) hR

/-- A function's contract, out of its body. -/
theorem ret_of_tw {fn : Func} {c : Code} {args : List Value} (hf : P.funcs[f]? = some fn) (hb : fn.body = some c) (hρ : args ++ List.replicate (fn.ntmps - args.length) undef = ρ)
    (ht : ∀ E, TW P f E R [.code c] ρ h) : Ret P f args h R := by
  refine ⟨fun E w hw cs => ?_⟩
  obtain ⟨v, w', fr, hR, hst, hf', hl⟩ := (ht E).out w hw cs
  have henter : Frame.enter P f args.toArray .normal = (base f).at (act ρ) [.code c] := by
    simp [Frame.enter, Frame.at, hf, hb, base, act, ← hρ]
  refine ⟨.returned v, w', fr, ⟨v, rfl, hR⟩, ?_, hf', hl⟩
  rw [henter]
  exact hst

theorem Ret.mono {args : List Value} {R R' : Value → Array Obj → Prop} (hr : Ret P f args h R) (hm : ∀ v h', R v h' → R' v h') : Ret P f args h R' :=
  ⟨fun E w hw => (hr.out E w hw).mono fun _ _ ⟨v, he, h', hA, hR⟩ => ⟨v, he, h', hA, hm _ _ hR⟩⟩

/-- A loop, by induction: I holds of what is told by x at each round's head. -/
theorem tw_loop {X : Type} {c : Code} (μ : X → Nat) (I : X → List Value → Array Obj → Prop)
    (round : ∀ x ρ h, I x ρ h → (∀ y ρ' h', μ y < μ x → I y ρ' h' → TW P f E R (.inLoop c :: k) ρ' h') → TW P f E R (.code c :: .inLoop c :: k) ρ h)
    (x : X) (hI : I x ρ h) : TW P f E R (.code (.loop c) :: k) ρ h := by
  refine tw_loop0 ?_
  have key : ∀ n x ρ h, μ x = n → I x ρ h → TW P f E R (.code c :: .inLoop c :: k) ρ h := by
    intro n
    induction n using Nat.strongRecOn with
    | _ n ih =>
      intro x ρ h hn hI
      exact round x ρ h hI fun y ρ' h' hlt hI' => tw_inLoop (ih (μ y) (hn ▸ hlt) y ρ' h' rfl hI')
  exact key _ x ρ h rfl hI
/-- The same, the frame told slot by slot: what a slot holds that nobody needs is J of its number. -/
theorem tw_loopJ {X : Type} {c : Code} (μ : X → Nat) (fr : X → (Nat → Value) → List Value) (I : X → Array Obj → Prop) (x : X) (hfr : fr x (fun n => ev ρ (.tmp n)) = ρ) (hI : I x h)
    (round : ∀ x J h, I x h → (∀ y ρ' h', μ y < μ x → fr y (fun n => ev ρ' (.tmp n)) = ρ' → I y h' → TW P f E R (.inLoop c :: k) ρ' h') → TW P f E R (.code c :: .inLoop c :: k) (fr x J) h) : TW P f E R (.code (.loop c) :: k) ρ h :=
  tw_loop μ (fun x ρ h => (∃ J, ρ = fr x J) ∧ I x h) (fun x ρ h ⟨⟨J, hJ⟩, hx⟩ ih => by
    subst hJ
    exact round x J h hx fun y ρ' h' hlt hf hy => ih y ρ' h' hlt ⟨⟨_, hf.symm⟩, hy⟩) x ⟨⟨_, hfr.symm⟩, hI⟩
end

/-! ### Regions -/
structure LW (P : Program) (E : Env) (ops : List Oper) (K : List Value → Array Obj → Prop) (l : List Oper) (ρ : List Value) (h : Array Obj) : Prop where
  out : ∀ w, At E h w → wpList P ops.toArray (fun e a w' => e = .normal ∧ ∃ ρ' h', a = act ρ' ∧ At E h' w' ∧ K ρ' h') l (act ρ) w

def setD (ρ : List Value) (d : Option Tmp) (v : Value) : List Value :=
  match d with
  | some t => ρ.set t v
  | none => ρ

theorem put_mk (ρ : List Value) (d : Option Tmp) (v : Value) : (act ρ).put d v = act (setD ρ d v) := by
  cases d <;> simp [Act.put, act, setD]

section
variable {P : Program} {f : FuncId} {E : Env} {R : Value → Array Obj → Prop} {k : List Item} {ρ ρ' : List Value} {h h' : Array Obj} {ops : List Oper} {K : List Value → Array Obj → Prop} {o : Oper} {rest : List Oper} {v : Value}

theorem tw_region {id : Nat} (hl : ∀ K : List Value → Array Obj → Prop, (∀ ρ h, TW P f E R k ρ h → K ρ h) → LW P E ops K ops ρ h) : TW P f E R (.code (.region id ops.toArray false) :: k) ρ h :=
  TW.of_wp fun w hw => wp_region_lit ((hl _ (fun _ _ h => h)).out w hw)

theorem lw_nil (hk : K ρ h) : LW P E ops K [] ρ h := ⟨fun _ hw => wpList_nil ⟨rfl, ρ, h, rfl, hw, hk⟩⟩

/-- One operation: what it yields, and the memory behind it. -/
structure Ex (P : Program) (ρ : List Value) (o : Oper) (h : Array Obj) (v : Value) (h' : Array Obj) : Prop where
  out : ∀ E w, At E h w → ∃ n w', (execOp (ev ρ) o).run P w = .ok n w' ∧ At E h' w' ∧ (n = .value v ∨ (n = .skip ∧ v = undef))

theorem lw_wanted (hg : Region.wanted o (yielded ops.toArray (act ρ).tmps) = true) (hx : Ex P ρ o h v h') (hs : setD ρ o.dst v = ρ') (hk : LW P E ops K rest ρ' h') : LW P E ops K (o :: rest) ρ h := by
  refine ⟨fun w hw => ?_⟩
  unfold wpList
  rw [if_pos hg]
  refine .inl ?_
  obtain ⟨n, w', hr, hA, hn⟩ := hx.out E w hw
  unfold Oper.wp
  rw [eval_mk, hr]
  rcases hn with rfl | ⟨rfl, rfl⟩
  · rw [Oper.upon_value, put_mk, hs]; exact hk.out w' hA
  · rw [Oper.upon_skip, put_mk, hs]; exact hk.out w' hA
theorem lw_op (hg : o.guard = none) (hx : Ex P ρ o h v h') (hs : setD ρ o.dst v = ρ') (hk : LW P E ops K rest ρ' h') : LW P E ops K (o :: rest) ρ h :=
  lw_wanted (by simp [Region.wanted, hg]) hx hs hk
theorem lw_skip (hg : Region.wanted o (yielded ops.toArray (act ρ).tmps) = false) (hs : setD ρ o.dst undef = ρ') (hk : LW P E ops K rest ρ' h) : LW P E ops K (o :: rest) ρ h := by
  refine ⟨fun w hw => ?_⟩
  unfold wpList
  rw [if_neg (by rw [hg]; exact Bool.false_ne_true), put_mk, hs]
  exact hk.out w hw

/-- A call, by the callee's contract. -/
theorem lw_call {g : FuncId} {args : List Value} {S : Value → Array Obj → Prop} (hg : Region.wanted o (yielded ops.toArray (act ρ).tmps) = true) (hx : ∀ w, At E h w → (execOp (ev ρ) o).run P w = .ok (.enter g args.toArray) w)
    (hc : Ret P g args h S) (hk : ∀ v h', S v h' → LW P E ops K rest (setD ρ o.dst v) h') : LW P E ops K (o :: rest) ρ h := by
  refine ⟨fun w hw => ?_⟩
  unfold wpList
  rw [if_pos hg]
  refine .inl ?_
  unfold Oper.wp
  rw [eval_mk, hx w hw, Oper.upon_enter]
  refine (hc.out E w hw).mono fun e w' ⟨v, he, h', hA, hS⟩ => ?_
  subst he
  show wpList _ _ _ _ _ _
  rw [put_mk]
  exact (hk v h' hS).out w' hA
end
/-! ### Guards -/
structure Wan (ops : List Oper) (ρ : List Value) (o : Oper) : Prop where
  out : Region.wanted o (yielded ops.toArray (act ρ).tmps) = true
section
variable {P : Program} {f : FuncId} {E : Env} {R : Value → Array Obj → Prop} {k : List Item} {ρ ρ' ρ'' : List Value} {h h' : Array Obj} {ops : List Oper} {K : List Value → Array Obj → Prop} {o : Oper} {rest : List Oper} {v : Value} {j t : Nat} {b : Bool}

theorem wan_none (hg : o.guard = none) : Wan ops ρ o := ⟨by simp [Region.wanted, hg]⟩
theorem yielded_mk (hd : (ops[j]?).bind (·.dst) = some t) (hv : ev ρ (.tmp t) = .bool b) : yielded ops.toArray (act ρ).tmps j = some b := by
  simp only [ev, List.getD_eq_getElem?_getD] at hv
  cases ht : ρ[t]? with
  | none => rw [ht] at hv; simp [undef] at hv
  | some u =>
    rw [ht] at hv
    simp only [Option.getD_some] at hv
    subst hv
    simp [yielded, hd, act, ht]
theorem yielded_undef (hd : (ops[j]?).bind (·.dst) = some t) (hv : ev ρ (.tmp t) = undef) : yielded ops.toArray (act ρ).tmps j = none := by
  simp only [ev, List.getD_eq_getElem?_getD] at hv
  cases ht : ρ[t]? with
  | none => simp [yielded, hd, act, ht]
  | some u =>
    rw [ht] at hv
    simp only [Option.getD_some] at hv
    subst hv
    simp [yielded, hd, act, ht, undef]
theorem wan_some (hg : o.guard = some (j, b)) (hd : (ops[j]?).bind (·.dst) = some t) (hv : ev ρ (.tmp t) = .bool b) : Wan ops ρ o := ⟨by
  simp [Region.wanted, hg, yielded_mk hd hv]⟩
theorem lw_skip_b (hg : o.guard = some (j, b)) (hd : (ops[j]?).bind (·.dst) = some t) (hv : ev ρ (.tmp t) = .bool (!b)) (hs : setD ρ o.dst undef = ρ') (hk : LW P E ops K rest ρ' h) : LW P E ops K (o :: rest) ρ h :=
  lw_skip (by cases b <;> simp [Region.wanted, hg, yielded_mk hd hv]) hs hk
theorem lw_skip_u (hg : o.guard = some (j, b)) (hd : (ops[j]?).bind (·.dst) = some t) (hv : ev ρ (.tmp t) = undef) (hs : setD ρ o.dst undef = ρ') (hk : LW P E ops K rest ρ' h) : LW P E ops K (o :: rest) ρ h :=
  lw_skip (by simp [Region.wanted, hg, yielded_undef hd hv]) hs hk
theorem set_self {q : Bool} (hv : ev ρ (.tmp t) = .bool q) : ρ.set t (.bool q) = ρ := by
  simp only [ev, List.getD_eq_getElem?_getD] at hv
  cases ht : ρ[t]? with
  | none => rw [ht] at hv; simp [undef] at hv
  | some u =>
    rw [ht] at hv
    simp only [Option.getD_some] at hv
    subst hv
    obtain ⟨hlt, he⟩ := List.getElem?_eq_some_iff.1 ht
    rw [← he]
    exact List.set_getElem_self hlt
/-- A guard that is not decided: both ways. -/
theorem lw_split_d {q : Prop} [Decidable q] (_hg : o.guard = some (j, b)) (_hd : (ops[j]?).bind (·.dst) = some t) (hv : ev ρ (.tmp t) = .bool (decide q)) (hs : ρ.set t (.bool true) = ρ') (hs' : ρ.set t (.bool false) = ρ'')
    (ht : q → LW P E ops K (o :: rest) ρ' h) (hf : ¬ q → LW P E ops K (o :: rest) ρ'' h) : LW P E ops K (o :: rest) ρ h := by
  by_cases hq : q
  · have h1 := ht hq
    rw [← hs] at h1
    rwa [set_self (by rw [hv]; simp [hq])] at h1
  · have h1 := hf hq
    rw [← hs'] at h1
    rwa [set_self (by rw [hv]; simp [hq])] at h1
theorem lw_split_b {q : Bool} (hg : o.guard = some (j, b)) (hd : (ops[j]?).bind (·.dst) = some t) (hv : ev ρ (.tmp t) = .bool q) (hs : ρ.set t (.bool true) = ρ') (hs' : ρ.set t (.bool false) = ρ'')
    (ht : q = true → LW P E ops K (o :: rest) ρ' h) (hf : q = false → LW P E ops K (o :: rest) ρ'' h) : LW P E ops K (o :: rest) ρ h :=
  lw_split_d (q := q = true) hg hd (by rw [hv]; simp) hs hs' ht (fun hq => hf (by simpa using hq))

end

section
variable {P : Program} {f : FuncId} {E : Env} {R : Value → Array Obj → Prop} {k : List Item} {ρ ρ' ρ'' : List Value} {h : Array Obj} {t : Nat}
/-- A test whose slot is told behind it. -/
theorem tw_cond_ds {a b : Code} {q : Prop} [Decidable q] (hx : ev ρ (.tmp t) = .bool (decide q)) (hs : ρ.set t (.bool true) = ρ') (hs' : ρ.set t (.bool false) = ρ'') (ht : q → TW P f E R (.code a :: k) ρ' h) (hf : ¬ q → TW P f E R (.code b :: k) ρ'' h) : TW P f E R (.code (.cond (.tmp t) a b) :: k) ρ h := by
  refine tw_cond_d hx (fun hq => ?_) (fun hq => ?_)
  · have h1 := ht hq
    rw [← hs] at h1
    rwa [set_self (by rw [hx]; simp [hq])] at h1
  · have h1 := hf hq
    rw [← hs'] at h1
    rwa [set_self (by rw [hx]; simp [hq])] at h1
theorem tw_cond_bs {a b : Code} {q : Bool} (hx : ev ρ (.tmp t) = .bool q) (hs : ρ.set t (.bool true) = ρ') (hs' : ρ.set t (.bool false) = ρ'') (ht : q = true → TW P f E R (.code a :: k) ρ' h) (hf : q = false → TW P f E R (.code b :: k) ρ'' h) : TW P f E R (.code (.cond (.tmp t) a b) :: k) ρ h :=
  tw_cond_ds (q := q = true) (by rw [hx]; simp) hs hs' ht (fun hq => hf (by simpa using hq))
end

/-- That a function can be called, by its number. -/
class Cal (P : Program) (g : FuncId) : Prop where
  out : ∀ (args : Array Value) (w : World), (callFunc g args).run P w = .ok (.enter g args) w

section
variable {P : Program} {E : Env} {ρ ρ' : List Value} {h h' : Array Obj} {ops : List Oper} {K : List Value → Array Obj → Prop} {rest : List Oper} {v : Value} {g : FuncId} {xs : List Operand} {ta : Array TypeId} {d : Option Tmp} {ty : TypeId} {p : String} {af : Array Edge} {gd : Option (Nat × Bool)}

theorem run_cal [Cal P g] (w : World) : (execOp (ev ρ) ⟨d, .call ⟨.value (.func g), xs.toArray, ta⟩, ty, p, af, gd⟩).run P w = .ok (.enter g (xs.map (ev ρ)).toArray) w := by
  simp [execOp, resolve, ev, Deferred.ofValue, invoke, Cal.out]
/-- The callee by its contract. -/
theorem lw_cal [Cal P g] {S : Value → Array Obj → Prop} (hw : Wan ops ρ ⟨d, .call ⟨.value (.func g), xs.toArray, ta⟩, ty, p, af, gd⟩) (hc : Ret P g (xs.map (ev ρ)) h S)
    (hk : ∀ v h', S v h' → LW P E ops K rest (setD ρ d v) h') : LW P E ops K (⟨d, .call ⟨.value (.func g), xs.toArray, ta⟩, ty, p, af, gd⟩ :: rest) ρ h :=
  lw_call hw.out (fun w _ => run_cal w) hc hk
/-- A callee that leaves the memory as it is and hands back v. -/
theorem lw_calp [Cal P g] (hw : Wan ops ρ ⟨d, .call ⟨.value (.func g), xs.toArray, ta⟩, ty, p, af, gd⟩) (hc : Ret P g (xs.map (ev ρ)) h fun v' h' => v' = v ∧ h' = h)
    (hs : setD ρ d v = ρ') (hk : LW P E ops K rest ρ' h) : LW P E ops K (⟨d, .call ⟨.value (.func g), xs.toArray, ta⟩, ty, p, af, gd⟩ :: rest) ρ h :=
  lw_cal hw hc fun v' h' ⟨hv, hh⟩ => by subst hv; subst hh; rw [hs]; exact hk
end

end Go.Proofs.Ytchhjooifjcnkaa.K
