/-
  Operations that only read: what the evaluator says of them is what the machine does.
-/
import Derived.Test.YtpedmnlpccngiaaDoorKState
set_option linter.unusedVariables false
set_option linter.unusedSimpArgs false
namespace Go.Proofs.YtpedmnlpccngiaaDoor.V
open Go K

def UndOK (P : Program) (T : TypeId) : Sh → Prop
  | .bool => P.underlying T = some .bool
  | .int k => P.underlying T = some (.int k)
  | .str => P.underlying T = some .string
  | .slice e => P.underlying T = some (.slice e)
  | .struct fs => ∃ a : Array Field, P.underlying T = some (.struct a) ∧ fs = a.toList.map fun f => (f.type, f.offset)
  | .ptr e => P.underlying T = some (.pointer e)
  | .map k v => P.underlying T = some (.map k v)
  | .iface => ∃ ms, P.underlying T = some (.interface ms)
  | .func => ∃ a b c, P.underlying T = some (.func a b c)
  | .other => True
/-- A struct of two texts, and what '==' of such asks. -/
def AttrEq (P : Program) (T : TypeId) : Prop := ∃ (S : TypeId) (f0 f1 : Field), P.underlying T = some (.struct #[f0, f1]) ∧ f0.name ≠ "_" ∧ f1.name ≠ "_" ∧ f0.type = S ∧ f1.type = S ∧ f0.offset = 0 ∧ f1.offset = 1 ∧ P.underlying S = some .string ∧ (∀ w, (isAgg S).run P w = .ok false w) ∧ P.stoodInHeld T = false ∧ P.eqGuardType P.depth T = false
/-- A struct of texts and numbers, and what '==' of such asks. -/
def SelEq (P : Program) (T : TypeId) : Prop := ∃ (I S : TypeId) (f0 f1 f2 f3 f4 f5 f6 f7 : Field), P.underlying T = some (.struct #[f0, f1, f2, f3, f4, f5, f6, f7]) ∧ f0.name ≠ "_" ∧ f1.name ≠ "_" ∧ f2.name ≠ "_" ∧ f3.name ≠ "_" ∧ f4.name ≠ "_" ∧ f5.name ≠ "_" ∧ f6.name ≠ "_" ∧ f7.name ≠ "_" ∧ f0.type = I ∧ f1.type = I ∧ f2.type = S ∧ f3.type = S ∧ f4.type = I ∧ f5.type = I ∧ f6.type = I ∧ f7.type = I ∧ f0.offset = 0 ∧ f1.offset = 1 ∧ f2.offset = 2 ∧ f3.offset = 3 ∧ f4.offset = 4 ∧ f5.offset = 5 ∧ f6.offset = 6 ∧ f7.offset = 7 ∧ P.underlying I = some (.int .i64) ∧ P.underlying S = some .string ∧ (∀ w, (isAgg I).run P w = .ok false w) ∧ (∀ w, (isAgg S).run P w = .ok false w) ∧ P.stoodInHeld T = false ∧ P.eqGuardType P.depth T = false
structure TIok (P : Program) (T : TypeId) (t : TI) : Prop where
  und : UndOK P T t.sh
  siz : ∀ w, (sizeOf T).run P w = .ok t.size w
  agg : ∀ w, (isAgg T).run P w = .ok t.agg w
  zer : ∀ w, (zeroValue T).run P w = .ok t.zv w
  zc : t.zv.cells.size = t.size
  inf : ∃ i : TypeInfo, (∀ w, (typeInfo T).run P w = .ok i w) ∧ i.bytes = t.bytes
  eqa : t.el = some .attr → AttrEq P T
  eqs : t.el = some .sel → SelEq P T
def TbOK (P : Program) (tb : List (Option TI)) : Prop := ∀ T t, tb[T]? = some (some t) → TIok P T t
/-- A method of a type of which interfaces' values are made; an interface that such a type has. -/
def MtOK (P : Program) (T : TypeId) (n : String) (f : FuncId) : Prop := ∃ (i : TypeInfo) (m : Method) (e : TypeId), (∀ w, (typeInfo T).run P w = .ok i w) ∧ i.methods.find? (fun x => x.name == n) = some m ∧ m.path = #[] ∧ m.func = some (f, true) ∧ P.underlying T = some (.pointer e)
def AsOK (P : Program) (T U : TypeId) : Prop := ∃ (i : TypeInfo) (want : Array (String × TypeId)), (∀ w, (typeInfo T).run P w = .ok i w) ∧ P.underlying U = some (.interface want) ∧ Instr.missingMethod want i.methods = none
def IfOK (P : Program) (C : Cx) : Prop := (∀ q ∈ C.mth, MtOK P q.1 q.2.1 q.2.2) ∧ ∀ q ∈ C.ast, AsOK P q.1 q.2
def CtOK (P : Program) (C : Cx) : Prop := TbOK P C.tb ∧ IfOK P C
theorem mfind_ok {P : Program} {C : Cx} (hT : CtOK P C) {f : Nat} {n : String} {q : TypeId × String × FuncId} (h : mfind C f n = some q) : MtOK P q.1 n q.2.2 ∧ f = ifN q.1 := by
  unfold mfind at h
  have h1 := List.find?_some h
  simp only [Bool.and_eq_true, beq_iff_eq] at h1
  have h2 := hT.2.1 q (List.mem_of_find?_eq_some h)
  rw [h1.2] at h2
  exact ⟨h2, h1.1.symm⟩
theorem isIf_ok {C : Cx} {f : Nat} (h : isIf C f = true) : ∃ T, f = ifN T := by
  unfold isIf at h
  obtain ⟨q, _, h⟩ := List.any_eq_true.1 h
  exact ⟨q.1, by simpa using (beq_iff_eq.1 h).symm⟩
theorem isMt_ok {P : Program} {C : Cx} (hT : CtOK P C) {f : Nat} (h : isMt C f = true) : ∃ T c g, f = mtN T c ∧ c < 16 ∧ MtOK P T (mname c) g := by
  unfold isMt at h
  obtain ⟨q, hq, h⟩ := List.any_eq_true.1 h
  simp only [Bool.and_eq_true, beq_iff_eq] at h
  refine ⟨q.1, mcode q.2.1, q.2.2, h.1.symm, ?_, by rw [h.2]; exact hT.2.1 q hq⟩
  unfold mcode
  split
  · decide
  · split <;> decide
theorem ifN_inj {T T' : Nat} (h : ifN T = ifN T') : T = T' := by unfold ifN at h; omega
theorem CloV.of_if {T B : Nat} {cs : List Value} {v : Value} (h : CloV (ifN T) B cs v) : v = .iface T (.pointer (some ⟨B, 0, none⟩)) := by
  rcases h with ⟨h, _⟩ | ⟨T', h, rfl⟩ | ⟨T', c, h, _⟩
  · have : IFB ≤ ifN T := by unfold ifN; omega
    have h2 : (1000000 : Nat) ≤ IFB := by decide
    omega
  · rw [ifN_inj h]
  · unfold ifN mtN at h
    omega
theorem CloV.of_mt {T c B : Nat} {cs : List Value} {v : Value} (hc : c < 16) (h : CloV (mtN T c) B cs v) : v = .func (.method (mname c)) #[.iface T (.pointer (some ⟨B, 0, none⟩))] #[] := by
  rcases h with ⟨h, _⟩ | ⟨T', h, rfl⟩ | ⟨T', c', h, h2, rfl⟩
  · have : IFB ≤ mtN T c := by unfold mtN; omega
    have h2 : (1000000 : Nat) ≤ IFB := by decide
    omega
  · unfold ifN mtN at h
    omega
  · unfold mtN at h
    have h1 : T = T' := by omega
    have h3 : c = c' := by omega
    rw [h1, h3]
theorem CloV.of_fn {f B : Nat} {cs : List Value} {v : Value} (hf : f < 1000000) (h : CloV f B cs v) : v = .func (.func f) #[] (Value.pointer (some ⟨B, 0, none⟩) :: cs).toArray := by
  have h2 : (1000000 : Nat) ≤ IFB := by decide
  rcases h with ⟨_, h⟩ | ⟨T', h, rfl⟩ | ⟨T', c, h, _⟩
  · exact h
  · unfold ifN at h; omega
  · unfold mtN at h; omega
theorem CloV.mk_fn {f B : Nat} {cs : List Value} (hf : f < 1000000) : CloV f B cs (.func (.func f) #[] (Value.pointer (some ⟨B, 0, none⟩) :: cs).toArray) := .inl ⟨hf, rfl⟩
theorem CloV.mk_if {T B : Nat} {cs : List Value} : CloV (ifN T) B cs (.iface T (.pointer (some ⟨B, 0, none⟩))) := .inr (.inl ⟨T, rfl, rfl⟩)
theorem CloV.mk_mt {T c B : Nat} {cs : List Value} (hc : c < 16) : CloV (mtN T c) B cs (.func (.method (mname c)) #[.iface T (.pointer (some ⟨B, 0, none⟩))] #[]) := .inr (.inr ⟨T, c, rfl, hc, rfl⟩)
theorem mcode_lt (n : String) : mcode n < 16 := by
  unfold mcode
  split
  · decide
  · split <;> decide
theorem types_succ (P : Program) : ∃ k, P.types.size + Made.depth = k + 1 := by
  have : 0 < Made.depth := by decide
  exact ⟨P.types.size + (Made.depth - 1), by omega⟩
theorem bs_beq (x y : List UInt8) : ((ByteArray.mk x.toArray) == (ByteArray.mk y.toArray)) = decide (x = y) := by
  rw [Bool.eq_iff_iff]
  constructor
  · intro h
    have h : (x.toArray == y.toArray) = true := h
    simpa using h
  · intro h
    have h : x = y := by simpa using h
    subst h
    show (x.toArray == x.toArray) = true
    simp
theorem findNow_yes (k : List UInt8) : ∀ (es : List MapEntry) (i : Nat), (∀ x ∈ es, ∃ kb : List UInt8, x.key = .string ⟨kb.toArray⟩ ∧ x.val = .bool true) → (∃ x ∈ es, x.key = .string ⟨k.toArray⟩) → ∃ j, Instr.findNow .string (.string ⟨k.toArray⟩) es i = some (some (j, .bool true))
  | [], _, _, h => by obtain ⟨x, hx, _⟩ := h; cases hx
  | e :: es, i, ha, h => by
    obtain ⟨kb, e1, e2⟩ := ha e (by simp)
    rw [Instr.findNow, e1, Instr.sameNow, bs_beq]
    cases hb : decide (k = kb) with
    | true => exact ⟨i, by rw [e2]⟩
    | false =>
      refine findNow_yes k es (i + 1) (fun x hx => ha x (by simp [hx])) ?_
      obtain ⟨x, hx, hk⟩ := h
      rcases List.mem_cons.1 hx with rfl | hx
      · rw [e1] at hk
        have : kb = k := by
          injection hk with hk
          injection hk with hk
          have := congrArg Array.toList hk
          simpa using this
        exact absurd this.symm (of_decide_eq_false hb)
      · exact ⟨x, hx, hk⟩
theorem findNow_no (k : List UInt8) : ∀ (es : List MapEntry) (i : Nat), (∀ x ∈ es, ∃ kb : List UInt8, x.key = .string ⟨kb.toArray⟩ ∧ x.val = .bool true) → (∀ x ∈ es, x.key ≠ .string ⟨k.toArray⟩) → Instr.findNow .string (.string ⟨k.toArray⟩) es i = some none
  | [], _, _, _ => rfl
  | e :: es, i, ha, h => by
    obtain ⟨kb, e1, e2⟩ := ha e (by simp)
    rw [Instr.findNow, e1, Instr.sameNow, bs_beq]
    cases hb : decide (k = kb) with
    | true => exact absurd (by rw [e1, of_decide_eq_true hb]) (h e (by simp))
    | false => exact findNow_no k es (i + 1) (fun x hx => ha x (by simp [hx])) fun x hx => h x (by simp [hx])
theorem pu_lookup_str {P : Program} {ρ : List Value} {T kt vt : TypeId} {x y : Operand} {h : Array Obj} {d : Option Tmp} {ty : TypeId} {p : String} {af : Array Edge} {g : Option (Nat × Bool)} [Und P T (.map kt vt)] [Und P kt .string] [Zer P vt (.bool false)] {B : Nat} {k : List UInt8} {es : Array MapEntry} {ck : Nat} {b : Bool}
    (hx : ev ρ x = .map (some B)) (hy : ev ρ y = .string ⟨k.toArray⟩) (hb : h[B]? = some (.map es ck)) (ha : ∀ x ∈ es.toList, ∃ kb : List UInt8, x.key = .string ⟨kb.toArray⟩ ∧ x.val = .bool true) (h1 : b = true → ∃ x ∈ es.toList, x.key = .string ⟨k.toArray⟩) (h2 : b = false → ∀ x ∈ es.toList, x.key ≠ .string ⟨k.toArray⟩) :
    Pu P ρ ⟨d, .lookup T x y false, ty, p, af, g⟩ h (.bool b) := ⟨fun w hw => by
  have e1 : (getObj B).run P w = .ok (.map es ck) w := by simp [getObj, Sem.run, hw, hb]
  have hck : ∀ b n, (Instr.checkKey b (n + 1) kt (.string ⟨k.toArray⟩)).run P w = .ok () w := fun b n => by simp [Instr.checkKey, und kt w]
  cases b with
  | true =>
    obtain ⟨j, hj⟩ := findNow_yes k es.toList 0 ha (h1 rfl)
    simp [execOp, hx, hy, Instr.lookup, und T w, e1, hck _ 9999, Instr.findKey, und kt w, hj]
  | false =>
    have hj := findNow_no k es.toList 0 ha (h2 rfl)
    simp [execOp, hx, hy, Instr.lookup, und T w, e1, hck _ 9999, Instr.findKey, und kt w, hj, zer vt w]⟩
theorem method_run {P : Program} {T : TypeId} {n : String} {f : FuncId} (h : MtOK P T n f) (k : Nat) (v : Value) (w : World) : (method (k + 1) T v n).run P w = .ok (f, v) w := by
  obtain ⟨i, m, e, h1, h2, h3, h4, h5⟩ := h
  simp [method, h1, h2, h3, h4, follow, receiverAt, run_underlying h5, Place.get]
theorem nilAhead_run {P : Program} {T : TypeId} {n : String} {f : FuncId} (h : MtOK P T n f) (k : Nat) (v : Value) (w : World) : (nilAhead (k + 1) T v n).run P w = .ok (some false) w := by
  obtain ⟨i, m, e, h1, h2, h3, h4, h5⟩ := h
  simp [nilAhead, h1, h2, h3, h4, followBlind]
theorem ti_ok {P : Program} {C : Cx} (hT : CtOK P C) {T : TypeId} {t : TI} (h : ti C T = some t) : TIok P T t := by
  unfold ti at h
  cases h1 : C.tb[T]? with
  | none => rw [h1] at h; cases h
  | some x =>
    rw [h1] at h
    cases x with
    | none => cases h
    | some y => cases h; exact hT.1 T _ h1

section
variable {P : Program} {C : Cx} {R : Type} {F F' : Frz} {ι ι' : Gh} {s s' : St} {ρ : List Value} {d : D} {v : Value} {t : Nat} {L0 : List Blk} {r : R} {dst : Option Tmp} {ty : TypeId} {p : String} {af : Array Edge} {gd : Option (Nat × Bool)}

theorem Rd.f2 : ∀ {ds : List D} {vs : List Value}, Rd F ds vs → F2 (RdW F ι) ds vs
  | [], vs, h => by cases h; exact .nil
  | d :: ds, vs, h => by obtain ⟨v, vs', rfl, h1, h2⟩ := h.inv_cons; exact .cons (.of_rd h1) h2.f2
theorem F2.rd : ∀ {ds : List D} {vs : List Value}, F2 (RdW F ι) ds vs → ds.all D.plain = true → Rd F ds vs
  | _, _, .nil, _ => .nil
  | _, _, .cons h t, hp => by
    simp only [List.all_cons, Bool.and_eq_true] at hp
    exact (h.to_rd hp.1).cons (t.rd hp.2)
theorem F2.drop {α β : Type} {R : α → β → Prop} : ∀ {l : List α} {m : List β} (n : Nat), F2 R l m → F2 R (l.drop n) (m.drop n)
  | _, _, 0, h => h
  | _, _, _ + 1, .nil => .nil
  | _, _, n + 1, .cons _ t => t.drop n
theorem F2.take {α β : Type} {R : α → β → Prop} : ∀ {l : List α} {m : List β} (n : Nat), F2 R l m → F2 R (l.take n) (m.take n)
  | _, _, 0, _ => .nil
  | _, _, _ + 1, .nil => .nil
  | _, _, n + 1, .cons h t => .cons h (t.take n)
theorem F2.append {α β : Type} {R : α → β → Prop} : ∀ {l l' : List α} {m m' : List β}, F2 R l m → F2 R l' m' → F2 R (l ++ l') (m ++ m')
  | _, _, _, _, .nil, h => h
  | _, _, _, _, .cons h t, h' => .cons h (t.append h')
theorem cellsFrom_drop {h : Array Obj} {B : Nat} : ∀ {cs : List Value} {off n : Nat}, cellsFrom h B off cs → cellsFrom h B (off + n) (cs.drop n)
  | cs, off, 0, hc => hc
  | [], off, n + 1, _ => trivial
  | c :: cs, off, n + 1, hc => by
    rw [show off + (n + 1) = off + 1 + n by omega]
    exact cellsFrom_drop hc.2
theorem cellsFrom_take {h : Array Obj} {B : Nat} : ∀ {cs : List Value} {off n : Nat}, cellsFrom h B off cs → cellsFrom h B off (cs.take n)
  | cs, off, 0, hc => trivial
  | [], off, n + 1, _ => trivial
  | c :: cs, off, n + 1, hc => ⟨hc.1, cellsFrom_take hc.2⟩
theorem cellsFrom_get {h : Array Obj} {B : Nat} {cs : List Value} {off i : Nat} {v : Value} (hc : cellsFrom h B off cs) (hi : cs[i]? = some v) : K.cell h ⟨B, off + i, none⟩ = some v := cellsFrom_iff.1 hc i v hi

theorem rdCells_sound {T : TypeId} {x : Operand} {K : D → Option R} {ds : List D} {off o B : Nat} {ti0 : TI} {cs : List Value} (hk : TIok P T ti0) (hcs : F2 (RdW F ι) ds cs) (hx : ev ρ x = .pointer (some ⟨B, o + off, none⟩)) (hB : ∀ h, Hp h F (lv ι s.ow ++ L0) → cellsFrom h B o cs) (h : rdCells ds off ti0 K = some r) :
    ∃ v d, (∀ h, Hp h F (lv ι s.ow ++ L0) → Pu P ρ ⟨dst, .load T x, ty, p, af, gd⟩ h v) ∧ RdV F ι d v ∧ K d = some r := by
  unfold rdCells at h
  cases ha : ti0.agg with
  | true =>
    rw [ha] at h
    simp only [cond_true] at h
    cases hc : (Nat.ble (off + ti0.size) ds.length && ((ds.drop off).take ti0.size).all D.plain) with
    | false => rw [hc] at h; cases h
    | true =>
      rw [hc] at h
      simp only [cond_true] at h
      rw [Bool.and_eq_true, Nat.ble_eq] at hc
      have hl := forall2_len hcs
      haveI : Agg P T true := ⟨fun w => by rw [hk.agg w, ha]⟩
      haveI : Siz P T ti0.size := ⟨hk.siz⟩
      refine ⟨.agg ((cs.drop off).take ti0.size).toArray, _, fun hh hm => ?_, .of_rd (.agg ((hcs.drop off).take ti0.size |>.rd hc.2) .nil), h⟩
      exact pu_loadAgg hx (by simp; omega) (cellsFrom_take (cellsFrom_drop (hB hh hm)))
  | false =>
    rw [ha] at h
    simp only [cond_false] at h
    cases hd : ds[off]? with
    | none => rw [hd] at h; cases h
    | some d =>
      rw [hd] at h
      obtain ⟨v, hv, hr⟩ := forall2_get hcs hd
      haveI : Agg P T false := ⟨fun w => by rw [hk.agg w, ha]⟩
      exact ⟨v, d, fun hh hm => pu_load hx (cellsFrom_get (hB hh hm) hv), .of_w hr, h⟩
theorem fld_of {T ft fo : Nat} {i : Nat} {fs : List (TypeId × Nat)} (hu : UndOK P T (.struct fs)) (hi : fs[i]? = some (ft, fo)) : Fld P T i ft fo := by
  obtain ⟨a, h1, rfl⟩ := hu
  rw [List.getElem?_map] at hi
  cases hf : a.toList[i]? with
  | none => rw [hf] at hi; cases hi
  | some f =>
    rw [hf] at hi
    cases hi
    exact ⟨a, f, h1, by simpa using hf, rfl, rfl⟩
theorem Rd.agg_inv {ds : List D} (h : Rd F [.agg ds] [v]) : ∃ cs : List Value, v = .agg cs.toArray ∧ Rd F ds cs := by
  cases h with
  | agg h1 _ => exact ⟨_, rfl, h1⟩
theorem Rd.int_inv {k : IntKind} {n : Int} (h : Rd F [.int k n] [v]) : v = .int k n := by cases h; rfl
theorem Rd.bool_inv {b : Bool} (h : Rd F [.bool b] [v]) : v = .bool b := by cases h; rfl
theorem Rd.u8_inv {c : UInt8} {vs : List Value} (h : Rd F (E.u8.enc c) vs) : vs = [byteV c] := by
  obtain ⟨v, vs', rfl, h1, h2⟩ := h.inv_cons
  cases h2
  rw [Rd.int_inv h1]
  rfl
theorem cells_of_get {h : Array Obj} {B : Nat} : ∀ {l : List UInt8} {off : Nat}, (∀ i c, l[i]? = some c → K.cell h ⟨B, off + i, none⟩ = some (byteV c)) → cellsFrom h B off (l.map byteV)
  | [], _, _ => trivial
  | c :: l, off, hc => ⟨by have := hc 0 c rfl; simpa using this, cells_of_get fun i c' hi => by
    have := hc (i + 1) c' (by simpa using hi)
    rwa [show off + 1 + i = off + (i + 1) by omega]⟩
theorem bytes_at {S T e : TypeId} [Und P S (.slice e)] [Und P T .string] [Und P e (.int .u8)] {h : Array Obj} {x : Operand} {q : Option Addr} {cp : Nat} {l : List UInt8} (hx : ev ρ x = .slice q l.length cp) (hc : ∀ i c, l[i]? = some c → q = some ⟨blk q, offs q, none⟩ ∧ K.cell h ⟨blk q, offs q + i, none⟩ = some (byteV c)) : Pu P ρ ⟨dst, .convert S T x, ty, p, af, gd⟩ h (bs l) := by
  cases l with
  | nil =>
    cases q with
    | none => exact pu_b2s0 (e := e) hx
    | some a =>
      obtain ⟨B, off, sp⟩ := a
      exact pu_b2sE (e := e) hx
  | cons c l =>
    obtain ⟨h1, _⟩ := hc 0 c rfl
    refine pu_b2s (e := e) (B := blk q) (off := offs q) (by rw [hx]; congr 1) (cells_of_get fun i c hi => (hc i c hi).2)
theorem Rd.rune_inv {n : Int} {vs : List Value} (h : Rd F (E.rune.enc n) vs) : vs = [.int .i32 n] := by
  obtain ⟨v, vs', rfl, h1, h2⟩ := h.inv_cons
  cases h2
  rw [Rd.int_inv h1]
theorem mk_toList (b : ByteArray) : (⟨b.data.toList.toArray⟩ : ByteArray) = b := by cases b; simp
theorem pu_i2s {S T : TypeId} {k0 k' : IntKind} {a : Int} {h : Array Obj} {x : Operand} [Und P S (.int k0)] [Und P T .string] (hx : ev ρ x = .int k' a) : Pu P ρ ⟨dst, .convert S T x, ty, p, af, gd⟩ h (bs (enc8 a)) := ⟨fun w _ => by
  simp [execOp, convert, hx, und S w, und T w, Conv.intToString, bs, enc8, mk_toList]⟩
theorem runes_loop (w : World) (f : Value → ByteArray → Sem (ForInStep ByteArray)) (hf : ∀ (c : Int) (s : ByteArray) (w : World), (f (.int .i32 c) s).run P w = .ok (.yield (s ++ Go.Utf8.encode c)) w) : ∀ (l : List Int) (s : ByteArray), (forIn (l.map (Value.int .i32)) s f : Sem ByteArray).run P w = .ok ⟨s.data ++ (encs8 l).toArray⟩ w := by
  intro l
  induction l with
  | nil => intro s; simp [encs8]
  | cons c l ih =>
    intro s
    simp only [List.map_cons, List.forIn_cons, Sem.run_bind, hf, Result.andThen_ok, ih]
    congr 1
    apply ByteArray.ext
    apply Array.ext'
    simp [encs8, enc8]
theorem pu_r2s {S T e : TypeId} {h : Array Obj} {x : Operand} {l : List Int} [Und P S (.slice e)] [Und P T .string] [Und P e (.int .i32)] {B off cp : Nat} (hx : ev ρ x = .slice (some ⟨B, off, none⟩) l.length cp) (hc : cellsFrom h B off (l.map (Value.int .i32))) : Pu P ρ ⟨dst, .convert S T x, ty, p, af, gd⟩ h (bs (encs8 l)) := ⟨fun w hw => by
  have hl : (loadCells ⟨B, off, none⟩ l.length).run P w = .ok (l.map (Value.int .i32)).toArray w := by
    subst hw
    have := Go.Proofs.YtpedmnlpccngiaaDoor.K.run_loadCellsFrom (P := P) w B off (l.map (Value.int .i32)) 0 #[] (by simpa using hc)
    simpa [loadCells] using this
  simp only [execOp, convert, hx, Sem.run_bind, und S w, und T w, Result.andThen_ok, und e w, Conv.runesToString, hl]
  rw [← Array.forIn_toList]
  simp only [List.toList_toArray]
  rw [runes_loop]
  · simp [bs]
  · intro c s w
    simp⟩
theorem pu_r2s0 {S T e : TypeId} {h : Array Obj} {x : Operand} [Und P S (.slice e)] [Und P T .string] [Und P e (.int .i32)] {n cp : Nat} (hx : ev ρ x = .slice none n cp) : Pu P ρ ⟨dst, .convert S T x, ty, p, af, gd⟩ h (bs []) := ⟨fun w hw => by
  simp [execOp, convert, hx, Sem.run_bind, und S w, und T w, Result.andThen_ok, und e w, Conv.runesToString]
  rfl⟩
theorem pu_r2sE {S T e : TypeId} {h : Array Obj} {x : Operand} [Und P S (.slice e)] [Und P T .string] [Und P e (.int .i32)] {a : Addr} {cp : Nat} (hx : ev ρ x = .slice (some a) 0 cp) : Pu P ρ ⟨dst, .convert S T x, ty, p, af, gd⟩ h (bs []) := ⟨fun w hw => by
  simp [execOp, convert, hx, Sem.run_bind, und S w, und T w, Result.andThen_ok, und e w, Conv.runesToString, loadCells, loadCellsFrom]
  rfl⟩
theorem cells_of_getI {h : Array Obj} {B : Nat} : ∀ {l : List Int} {off : Nat}, (∀ i c, l[i]? = some c → K.cell h ⟨B, off + i, none⟩ = some (.int .i32 c)) → cellsFrom h B off (l.map (Value.int .i32))
  | [], _, _ => trivial
  | c :: l, off, hc => ⟨by have := hc 0 c rfl; simpa using this, cells_of_getI fun i c' hi => by
    have := hc (i + 1) c' (by simpa using hi)
    rwa [show off + 1 + i = off + (i + 1) by omega]⟩
theorem runes_at {S T e : TypeId} [Und P S (.slice e)] [Und P T .string] [Und P e (.int .i32)] {h : Array Obj} {x : Operand} {q : Option Addr} {cp : Nat} {l : List Int} (hx : ev ρ x = .slice q l.length cp) (hc : ∀ i c, l[i]? = some c → q = some ⟨blk q, offs q, none⟩ ∧ K.cell h ⟨blk q, offs q + i, none⟩ = some (.int .i32 c)) : Pu P ρ ⟨dst, .convert S T x, ty, p, af, gd⟩ h (bs (encs8 l)) := by
  cases l with
  | nil =>
    cases q with
    | none => exact pu_r2s0 (e := e) hx
    | some a =>
      obtain ⟨B, off, sp⟩ := a
      exact pu_r2sE (e := e) hx
  | cons c l =>
    obtain ⟨h1, _⟩ := hc 0 c rfl
    refine pu_r2s (e := e) (B := blk q) (off := offs q) (by rw [hx]; congr 1) (cells_of_getI fun i c hi => (hc i c hi).2)
theorem Rd.str_inv {l : List UInt8} (h : Rd F [.str l] [v]) : v = bs l := by cases h; rfl
theorem Rd.nil_inv (h : Rd F [.nil] [v]) : v = .slice none 0 0 := by cases h; rfl
theorem row_cells {h : Array Obj} {sz T n cp i B : Nat} {Lv : List Blk} {rows : List (List Value)} {r : List Value} (hs : SlO sz T (some ⟨B, 0, none⟩) n cp Lv rows) (hi : rows[i]? = some r) (hB : ∀ p ∈ Lv, isB h[p.1]? p) : cellsFrom h B (i * sz) r := by
  obtain ⟨pre, post, e1, e2⟩ := flat_split hs.row hi
  rcases hs.sh with ⟨he, _, _⟩ | ⟨B', n', cap, spare, he, hL, _, _, _⟩
  · cases he
  · cases he
    obtain ⟨fz, _, this⟩ := (hB (B, rows.flatten ++ spare, BT.c T) (by rw [hL]; simp)).cells
    simp only at this
    rw [e1] at this
    exact cells_of_row r pre (post ++ spare) _ (by show h[B]? = _; simpa using this) (by omega)

theorem RdW.mkop {B o : Nat} (h : (ι t).1 = .pointer (some ⟨B, 0, none⟩)) : RdW F ι (.op t o) (.pointer (some ⟨B, o, none⟩)) := ⟨B, h, rfl⟩
theorem RdW.mkoe {B n cp z i o a : Nat} (h : (ι t).1 = .slice (some ⟨B, 0, none⟩) n cp) (ha : a = i * z + o) : RdW F ι (.oe t z i o) (.pointer (some ⟨B, a, none⟩)) := ⟨B, n, cp, h, by rw [ha]⟩
theorem RdW.mknf {B i o a : Nat} (hB : F.nid i = some B) (ha : a = o) : RdW F ι (.nf i o) (.pointer (some ⟨B, a, none⟩)) := ⟨B, hB, by rw [ha]⟩
theorem RdW.mknae {hd : List Value} {B n cp z i j o a : Nat} (h1 : (ι NT).1 = .tuple hd.toArray) (h2 : hd[i]? = some (.slice (some ⟨B, 0, none⟩) n cp)) (ha : a = j * z + o) : RdW F ι (.nae z i j o) (.pointer (some ⟨B, a, none⟩)) := ⟨hd, B, n, cp, h1, h2, by rw [ha]⟩
theorem Rd.np_ptr {o : Option Nat} (h : Rd F [.np o] [v]) : ∃ a, v = .pointer a := by
  cases h with
  | npN _ => exact ⟨_, rfl⟩
  | npS _ _ => exact ⟨_, rfl⟩
theorem np_inj {o o' : Option Nat} {a a' : Option Addr} (h : Rd F [.np o] [.pointer a]) (h' : Rd F [.np o'] [.pointer a']) : (a = a') ↔ (o = o') := by
  cases h with
  | npN _ =>
    cases h' with
    | npN _ => simp
    | npS _ _ => simp
  | npS hB _ =>
    cases h' with
    | npN _ => simp
    | npS hB' _ =>
      constructor
      · intro e
        cases e
        rw [F.inj _ _ _ hB hB']
      · intro e
        cases e
        rw [hB] at hB'
        cases hB'
        rfl
theorem np_equal {kt e : TypeId} {n : Nat} [Und P kt (.pointer e)] [Siz P e n] (hn : n ≠ 0) {h : Array Obj} {L : List Blk} (hm : Hp h F L) {w : World} (hw : w.heap = h) {o o' : Option Nat} {a a' : Option Addr} (h1 : Rd F [.np o] [.pointer a]) (h2 : Rd F [.np o'] [.pointer a']) : (Op.equal kt (.pointer a) (.pointer a')).run P w = .ok (decide (a = a')) w := by
  cases h1 with
  | npN _ =>
    rw [equal_nil (P := P) (T := kt) (e := e) hn]
    simp [eq_comm]
  | npS hB _ =>
    cases h2 with
    | npN _ => exact equal_nil' (P := P) (T := kt) (e := e) hn _ w
    | npS hB' _ =>
      obtain ⟨c1, t1, l1, _⟩ := hm.live _ (F.nlt _ _ hB)
      obtain ⟨c2, t2, l2, _⟩ := hm.live _ (F.nlt _ _ hB')
      rw [equal_pp (P := P) (T := kt) (e := e) hn (ca := c1.toList) (cb := c2.toList) w (by rw [hw]; simpa using l1) (by rw [hw]; simpa using l2)]
      simp
/-- An address is this one. -/
def isA (a : Option Addr) : Value → Bool
  | .pointer a' => decide (a = a')
  | _ => false
theorem mp_find {o : Option Nat} {a : Option Addr} (ho : Rd F [.np o] [.pointer a]) : ∀ {l : List (Option Nat × Bool)} {cs : List Value} (i j : Nat), Rd F (mpD l) cs → (match findD (isA a) (pairsO cs i) j with | some r => r.2 | none => .bool false) = .bool (mget l o)
  | [], _, i, j, h => by cases h; rfl
  | p :: l, _, i, j, h => by
    obtain ⟨k, cs, rfl, h1, h2⟩ := h.inv_cons
    obtain ⟨v, cs, rfl, h3, h4⟩ := h2.inv_cons
    obtain ⟨a', rfl⟩ := h1.np_ptr
    have h3 := Rd.bool_inv h3
    subst h3
    obtain ⟨o', b⟩ := p
    have he := np_inj ho h1
    have hA : isA a (.pointer a') = decide (o = o') := by simp only [isA, decide_eq_decide]; exact he
    by_cases e : o = o'
    · simp [pairsO, findD, hA, e, mget]
    · have := mp_find ho (i + 1) (j + 1) h4
      simpa [pairsO, findD, hA, e, mget] using this
theorem mp_keys {l : List (Option Nat × Bool)} : ∀ {cs : List Value} (i : Nat), Rd F (mpD l) cs → ∀ m ∈ pairsO cs i, ∃ o a, m.key = .pointer a ∧ Rd F [.np o] [.pointer a] := by
  induction l with
  | nil => intro cs i h; cases h; intro m hm; simp [pairsO] at hm
  | cons p l ih =>
    intro cs i h
    obtain ⟨k, cs, rfl, h1, h2⟩ := h.inv_cons
    obtain ⟨v, cs, rfl, h3, h4⟩ := h2.inv_cons
    obtain ⟨a', rfl⟩ := h1.np_ptr
    intro m hm
    simp only [pairsO, List.mem_cons] at hm
    rcases hm with rfl | hm
    · exact ⟨p.1, a', rfl, h1⟩
    · exact ih (i + 1) h4 m hm
theorem Rd.npN_inv (h : Rd F [.np none] [v]) : v = .pointer none := by cases h; rfl
theorem Rd.npS_inv {i : Nat} (h : Rd F [.np (some i)] [v]) : ∃ B, F.nid i = some B ∧ v = .pointer (some ⟨B, 0, none⟩) := by
  cases h with
  | npS hB _ => exact ⟨_, hB, rfl⟩
theorem Rd.pnil_inv (h : Rd F [.pnil] [v]) : v = .pointer none := by cases h; rfl
theorem Rd.gm_inv {n : Nat} (h : Rd F [.gm n] [v]) : ∃ T z b, v = .map (some b) ∧ F.m n = some (.cells #[.map (some b)] T z) := by
  cases h with
  | gm h1 _ => obtain ⟨T, z, h1⟩ := h1; exact ⟨T, z, _, rfl, h1⟩
theorem Rd.mnil_inv (h : Rd F [.mnil] [v]) : v = .map none := by cases h; rfl
theorem equal_np {T e : TypeId} [Und P T (.pointer e)] (q : Option Addr) (w : World) : (Op.equal T (.pointer none) (.pointer q)).run P w = .ok q.isNone w := by
  unfold Op.equal Op.maxDepth Op.equalIn
  cases q <;> simp [und T w]
theorem pu_eql_pt' {T e U : TypeId} [Und P T (.pointer e)] {q : Option Addr} {x y : Operand} {h : Array Obj} (hx : ev ρ x = .pointer none) (hy : ev ρ y = .pointer q) : Pu P ρ ⟨dst, .binOp .eql T x y U, ty, p, af, gd⟩ h (.bool q.isNone) := ⟨fun w _ => by
  simp [execOp, guard_ptr, hx, hy, binOp, equal_np]⟩
theorem pu_neq_pt' {T e U : TypeId} [Und P T (.pointer e)] {q : Option Addr} {x y : Operand} {h : Array Obj} (hx : ev ρ x = .pointer none) (hy : ev ρ y = .pointer q) : Pu P ρ ⟨dst, .binOp .neq T x y U, ty, p, af, gd⟩ h (.bool (!q.isNone)) := ⟨fun w _ => by
  simp [execOp, guard_ptr, hx, hy, binOp, equal_np]⟩
theorem equal_mm {T k e : TypeId} [Und P T (.map k e)] (w : World) : (Op.equal T (.map none) (.map none)).run P w = .ok true w := by
  unfold Op.equal Op.maxDepth Op.equalIn
  simp [und T w]
theorem pu_eql_mm {T k e U : TypeId} [Und P T (.map k e)] {x y : Operand} {h : Array Obj} (hx : ev ρ x = .map none) (hy : ev ρ y = .map none) : Pu P ρ ⟨dst, .binOp .eql T x y U, ty, p, af, gd⟩ h (.bool true) := ⟨fun w _ => by
  simp [execOp, eqGuard, hx, hy, binOp, equal_mm]⟩
theorem pu_neq_mm {T k e U : TypeId} [Und P T (.map k e)] {x y : Operand} {h : Array Obj} (hx : ev ρ x = .map none) (hy : ev ρ y = .map none) : Pu P ρ ⟨dst, .binOp .neq T x y U, ty, p, af, gd⟩ h (.bool false) := ⟨fun w _ => by
  simp [execOp, eqGuard, hx, hy, binOp, equal_mm]⟩
theorem Rd.inil_inv (h : Rd F [.inil] [v]) : v = .nilIface := by cases h; rfl
theorem Rd.fnl_inv (h : Rd F [.fnl] [v]) : v = .nilFunc := by cases h; rfl
theorem Rd.clo_inv {f : FuncId} {l : List D} (h : Rd F [.clo f l] [v]) : ∃ cs : List Value, v = .func (.func f) #[] cs.toArray ∧ Rd F l cs := by
  cases h with
  | clo a _ => exact ⟨_, rfl, a⟩
theorem equal_ss {T e : TypeId} {q : Option Addr} {n cp : Nat} [Und P T (.slice e)] (w : World) : (Op.equal T (.slice q n cp) (.slice none 0 0)).run P w = .ok q.isNone w := by
  unfold Op.equal Op.maxDepth Op.equalIn
  cases q <;> simp [und T w]
theorem pu_eql_ss {T e U : TypeId} {q : Option Addr} {n cp : Nat} [Und P T (.slice e)] {x : Operand} {h : Array Obj} (hx : ev ρ x = .slice q n cp) : Pu P ρ ⟨dst, .binOp .eql T x (.const (.slice none 0 0)) U, ty, p, af, gd⟩ h (.bool q.isNone) := ⟨fun w _ => by
  have hy : ev ρ (.const (.slice none 0 0)) = .slice none 0 0 := rfl
  simp [execOp, eqGuard, hx, hy, binOp, equal_ss (P := P) (e := e)]⟩
theorem pu_neq_ss {T e U : TypeId} {q : Option Addr} {n cp : Nat} [Und P T (.slice e)] {x : Operand} {h : Array Obj} (hx : ev ρ x = .slice q n cp) : Pu P ρ ⟨dst, .binOp .neq T x (.const (.slice none 0 0)) U, ty, p, af, gd⟩ h (.bool !q.isNone) := ⟨fun w _ => by
  have hy : ev ρ (.const (.slice none 0 0)) = .slice none 0 0 := rfl
  simp [execOp, eqGuard, hx, hy, binOp, equal_ss (P := P) (e := e)]⟩
theorem equal_ii {T : TypeId} {ms : Array (String × TypeId)} [Und P T (.interface ms)] (w : World) : (Op.equal T .nilIface .nilIface).run P w = .ok true w := by
  unfold Op.equal Op.maxDepth Op.equalIn
  simp [und T w]
theorem pu_eql_ii {T U : TypeId} {ms : Array (String × TypeId)} [Und P T (.interface ms)] {x : Operand} {h : Array Obj} (hx : ev ρ x = .nilIface) : Pu P ρ ⟨dst, .binOp .eql T x (.const .nilIface) U, ty, p, af, gd⟩ h (.bool true) := ⟨fun w _ => by
  have hy : ev ρ (.const .nilIface) = .nilIface := rfl
  simp [execOp, eqGuard, hx, hy, binOp, equal_ii]⟩
theorem pu_neq_ii {T U : TypeId} {ms : Array (String × TypeId)} [Und P T (.interface ms)] {x : Operand} {h : Array Obj} (hx : ev ρ x = .nilIface) : Pu P ρ ⟨dst, .binOp .neq T x (.const .nilIface) U, ty, p, af, gd⟩ h (.bool false) := ⟨fun w _ => by
  have hy : ev ρ (.const .nilIface) = .nilIface := rfl
  simp [execOp, eqGuard, hx, hy, binOp, equal_ii]⟩
theorem equal_in {T : TypeId} {ms : Array (String × TypeId)} [Und P T (.interface ms)] {tx : TypeId} {u : Value} (w : World) : (Op.equal T (.iface tx u) .nilIface).run P w = .ok false w := by
  unfold Op.equal Op.maxDepth Op.equalIn
  simp [und T w]
theorem pu_eql_in {T U tx : TypeId} {u : Value} {ms : Array (String × TypeId)} [Und P T (.interface ms)] {x : Operand} {h : Array Obj} (hx : ev ρ x = .iface tx u) : Pu P ρ ⟨dst, .binOp .eql T x (.const .nilIface) U, ty, p, af, gd⟩ h (.bool false) := ⟨fun w _ => by
  have hy : ev ρ (.const .nilIface) = .nilIface := rfl
  simp [execOp, eqGuard, hx, hy, binOp, equal_in]⟩
theorem pu_neq_in {T U tx : TypeId} {u : Value} {ms : Array (String × TypeId)} [Und P T (.interface ms)] {x : Operand} {h : Array Obj} (hx : ev ρ x = .iface tx u) : Pu P ρ ⟨dst, .binOp .neq T x (.const .nilIface) U, ty, p, af, gd⟩ h (.bool true) := ⟨fun w _ => by
  have hy : ev ρ (.const .nilIface) = .nilIface := rfl
  simp [execOp, eqGuard, hx, hy, binOp, equal_in]⟩
theorem Rd.ifc_inv {T : TypeId} {l : List D} (h : Rd F [.ifc T l] [v]) : ∃ cs : List Value, v = .iface T (.agg cs.toArray) ∧ Rd F l cs := by
  cases h with
  | ifc h1 _ => exact ⟨_, rfl, h1⟩
/-- One of the two is nil, the other one is not. -/
def Mix (a b : Value) : Prop := (a = .nilIface ∧ ∃ T u, b = .iface T u) ∨ (b = .nilIface ∧ ∃ T u, a = .iface T u)
theorem equal_mix {T : TypeId} {ms : Array (String × TypeId)} [Und P T (.interface ms)] {a b : Value} (h : Mix a b) (w : World) : (Op.equal T a b).run P w = .ok false w := by
  unfold Op.equal Op.maxDepth Op.equalIn
  rcases h with ⟨rfl, X, u, rfl⟩ | ⟨rfl, X, u, rfl⟩ <;> simp [und T w]
theorem pu_eql_mix {T U : TypeId} {ms : Array (String × TypeId)} [Und P T (.interface ms)] {x y : Operand} {h : Array Obj} (hm : Mix (ev ρ x) (ev ρ y)) : Pu P ρ ⟨dst, .binOp .eql T x y U, ty, p, af, gd⟩ h (.bool false) := ⟨fun w _ => by
  have he := equal_mix (P := P) (T := T) hm w
  rcases hm with ⟨h1, X, u, h2⟩ | ⟨h1, X, u, h2⟩ <;> (rw [h1, h2] at he; simp [execOp, eqGuard, h1, h2, binOp, he])⟩
theorem pu_neq_mix {T U : TypeId} {ms : Array (String × TypeId)} [Und P T (.interface ms)] {x y : Operand} {h : Array Obj} (hm : Mix (ev ρ x) (ev ρ y)) : Pu P ρ ⟨dst, .binOp .neq T x y U, ty, p, af, gd⟩ h (.bool true) := ⟨fun w _ => by
  have he := equal_mix (P := P) (T := T) hm w
  rcases hm with ⟨h1, X, u, h2⟩ | ⟨h1, X, u, h2⟩ <;> (rw [h1, h2] at he; simp [execOp, eqGuard, h1, h2, binOp, he])⟩
theorem pu_ta_yes {x : Operand} {xT T : TypeId} {fs : Array Field} [Und P T (.struct fs)] {u : Value} {h : Array Obj} (hx : ev ρ x = .iface T u) : Pu P ρ ⟨dst, .typeAssert x xT T true, ty, p, af, gd⟩ h (.tuple #[u, .bool true]) := ⟨fun w _ => by
  have hu := und (P := P) T w
  simp [execOp, Instr.typeAssert, hx, hu]⟩
theorem pu_ta_no {x : Operand} {xT T T' : TypeId} {fs : Array Field} [Und P T (.struct fs)] {u z : Value} {h : Array Obj} (hne : T' ≠ T) (hz : ∀ w, (zeroValue T).run P w = .ok z w) (hx : ev ρ x = .iface T' u) : Pu P ρ ⟨dst, .typeAssert x xT T true, ty, p, af, gd⟩ h (.tuple #[z, .bool false]) := ⟨fun w _ => by
  have hu := und (P := P) T w
  simp [execOp, Instr.typeAssert, hx, hu, hne, hz]⟩
theorem Rd.err_inv {b : Bool} (h : Rd F [.err b] [v]) : if b then ∃ T u, v = .iface T u else v = .nilIface := by
  cases h with
  | err a _ => exact a
theorem equal_same {T e : TypeId} {n : Nat} [Und P T (.pointer e)] [Siz P e n] (hn : n ≠ 0) (a : Addr) (w : World) : (Op.equal T (.pointer (some a)) (.pointer (some a))).run P w = .ok true w := by
  unfold Op.equal Op.maxDepth Op.equalIn
  simp only [Sem.run_bind, und T w, Result.andThen_ok, siz e w, ne_eq, hn, not_false_eq_true, if_true]
  simp [run_sameAddr_same]
theorem pu_eql_same {T e U : TypeId} {n : Nat} [Und P T (.pointer e)] [Siz P e n] (hn : n ≠ 0) {a : Addr} {x y : Operand} {h : Array Obj} (hx : ev ρ x = .pointer (some a)) (hy : ev ρ y = .pointer (some a)) : Pu P ρ ⟨dst, .binOp .eql T x y U, ty, p, af, gd⟩ h (.bool true) := ⟨fun w _ => by
  simp [execOp, guard_ptr, hx, hy, binOp, equal_same (P := P) (T := T) (e := e) hn]⟩
theorem pu_neq_same {T e U : TypeId} {n : Nat} [Und P T (.pointer e)] [Siz P e n] (hn : n ≠ 0) {a : Addr} {x y : Operand} {h : Array Obj} (hx : ev ρ x = .pointer (some a)) (hy : ev ρ y = .pointer (some a)) : Pu P ρ ⟨dst, .binOp .neq T x y U, ty, p, af, gd⟩ h (.bool false) := ⟨fun w _ => by
  simp [execOp, guard_ptr, hx, hy, binOp, equal_same (P := P) (T := T) (e := e) hn]⟩
theorem equal_ff {T : TypeId} {a b : Array TypeId} {c : Bool} [Und P T (.func a b c)] (w : World) : (Op.equal T .nilFunc .nilFunc).run P w = .ok true w := by
  unfold Op.equal Op.maxDepth Op.equalIn
  simp [und T w]
theorem equal_fc {T : TypeId} {a b : Array TypeId} {c : Bool} [Und P T (.func a b c)] {f : Fn} {l m : Array Value} (w : World) : (Op.equal T (.func f l m) .nilFunc).run P w = .ok false w := by
  unfold Op.equal Op.maxDepth Op.equalIn
  simp [und T w]
theorem pu_eql_ff {T U : TypeId} {a b : Array TypeId} {c : Bool} [Und P T (.func a b c)] {x y : Operand} {h : Array Obj} (hx : ev ρ x = .nilFunc) (hy : ev ρ y = .nilFunc) : Pu P ρ ⟨dst, .binOp .eql T x y U, ty, p, af, gd⟩ h (.bool true) := ⟨fun w _ => by
  simp [execOp, eqGuard, hx, hy, binOp, equal_ff]⟩
theorem pu_neq_ff {T U : TypeId} {a b : Array TypeId} {c : Bool} [Und P T (.func a b c)] {x y : Operand} {h : Array Obj} (hx : ev ρ x = .nilFunc) (hy : ev ρ y = .nilFunc) : Pu P ρ ⟨dst, .binOp .neq T x y U, ty, p, af, gd⟩ h (.bool false) := ⟨fun w _ => by
  simp [execOp, eqGuard, hx, hy, binOp, equal_ff]⟩
theorem pu_eql_fc {T U : TypeId} {a b : Array TypeId} {c : Bool} [Und P T (.func a b c)] {x y : Operand} {f : Fn} {l m : Array Value} {h : Array Obj} (hx : ev ρ x = .func f l m) (hy : ev ρ y = .nilFunc) : Pu P ρ ⟨dst, .binOp .eql T x y U, ty, p, af, gd⟩ h (.bool false) := ⟨fun w _ => by
  simp [execOp, eqGuard, hx, hy, binOp, equal_fc]⟩
theorem pu_neq_fc {T U : TypeId} {a b : Array TypeId} {c : Bool} [Und P T (.func a b c)] {x y : Operand} {f : Fn} {l m : Array Value} {h : Array Obj} (hx : ev ρ x = .func f l m) (hy : ev ρ y = .nilFunc) : Pu P ρ ⟨dst, .binOp .neq T x y U, ty, p, af, gd⟩ h (.bool true) := ⟨fun w _ => by
  simp [execOp, eqGuard, hx, hy, binOp, equal_fc]⟩
theorem equal_attr {T : TypeId} (h : AttrEq P T) (a b c d : List UInt8) (w : World) : (Op.equal T (.agg #[bs a, bs b]) (.agg #[bs c, bs d])).run P w = .ok (decide (a = c ∧ b = d)) w := by
  obtain ⟨S, f0, f1, h1, n0, n1, t0, t1, o0, o1, h2, h3, h4, h5⟩ := h
  haveI : Und P T (.struct #[f0, f1]) := ⟨h1⟩
  haveI : Und P S .string := ⟨h2⟩
  have hst : ∀ (n : Nat) (a c : List UInt8), ∀ w, (Op.equalIn (n + 1) S (bs a) (bs c)).run P w = .ok (decide (a = c)) w := fun n a c w => by
    unfold Op.equalIn
    simp only [Sem.run_bind, und S w, Result.andThen_ok, bs, Sem.run_pure]
    congr 1
    show (a.toArray == c.toArray) = decide (a = c)
    by_cases e : a = c
    · subst e; simp
    · simp [e]
  unfold Op.equal Op.maxDepth
  rw [show (10000 : Nat) = 9998 + 1 + 1 from rfl]
  unfold Op.equalIn
  simp [und T w, h4, part, h3, t0, t1, o0, o1, n0, n1, hst]
  by_cases e1 : a = c <;> by_cases e2 : b = d <;> simp [e1, e2]
theorem guard_attr {T : TypeId} (h : AttrEq P T) {op : BinOp} {x y : Operand} {l m : Array Value} (w : World) : (eqGuard op T x y (.agg l) (.agg m)).run P w = .ok () w := by
  obtain ⟨S, f0, f1, h1, n0, n1, t0, t1, o0, o1, h2, h3, h4, h5⟩ := h
  cases op <;> simp [eqGuard, h5]
theorem pu_eql_attr {T U : TypeId} (ha : AttrEq P T) {x y : Operand} {a b c d : List UInt8} {h : Array Obj} (hx : ev ρ x = .agg #[bs a, bs b]) (hy : ev ρ y = .agg #[bs c, bs d]) : Pu P ρ ⟨dst, .binOp .eql T x y U, ty, p, af, gd⟩ h (.bool (decide (a = c ∧ b = d))) := ⟨fun w _ => by
  simp only [execOp, hx, hy, Sem.run_bind, guard_attr ha, Result.andThen_ok, binOp, equal_attr ha, Sem.run_pure]⟩
theorem pu_neq_attr {T U : TypeId} (ha : AttrEq P T) {x y : Operand} {a b c d : List UInt8} {h : Array Obj} (hx : ev ρ x = .agg #[bs a, bs b]) (hy : ev ρ y = .agg #[bs c, bs d]) : Pu P ρ ⟨dst, .binOp .neq T x y U, ty, p, af, gd⟩ h (.bool (!decide (a = c ∧ b = d))) := ⟨fun w _ => by
  simp only [execOp, hx, hy, Sem.run_bind, guard_attr ha, Result.andThen_ok, binOp, equal_attr ha, Sem.run_pure]⟩
theorem equal_sel {T : TypeId} (h : SelEq P T) (a0 a1 : Int) (a2 a3 : List UInt8) (a4 a5 a6 a7 b0 b1 : Int) (b2 b3 : List UInt8) (b4 b5 b6 b7 : Int) (w : World) : (Op.equal T (.agg #[.int .i64 a0, .int .i64 a1, bs a2, bs a3, .int .i64 a4, .int .i64 a5, .int .i64 a6, .int .i64 a7]) (.agg #[.int .i64 b0, .int .i64 b1, bs b2, bs b3, .int .i64 b4, .int .i64 b5, .int .i64 b6, .int .i64 b7])).run P w = .ok (decide (a0 = b0 ∧ a1 = b1 ∧ a2 = b2 ∧ a3 = b3 ∧ a4 = b4 ∧ a5 = b5 ∧ a6 = b6 ∧ a7 = b7)) w := by
  obtain ⟨I, S, f0, f1, f2, f3, f4, f5, f6, f7, h1, n0, n1, n2, n3, n4, n5, n6, n7, t0, t1, t2, t3, t4, t5, t6, t7, o0, o1, o2, o3, o4, o5, o6, o7, hi, hs, ai, as1, h4, h5⟩ := h
  haveI : Und P T (.struct #[f0, f1, f2, f3, f4, f5, f6, f7]) := ⟨h1⟩
  haveI : Und P S .string := ⟨hs⟩
  haveI : Und P I (.int .i64) := ⟨hi⟩
  have hst : ∀ (n : Nat) (a c : List UInt8), ∀ w, (Op.equalIn (n + 1) S (bs a) (bs c)).run P w = .ok (decide (a = c)) w := fun n a c w => by
    unfold Op.equalIn
    simp only [Sem.run_bind, und S w, Result.andThen_ok, bs, Sem.run_pure]
    congr 1
    show (a.toArray == c.toArray) = decide (a = c)
    by_cases e : a = c
    · subst e; simp
    · simp [e]
  have hit : ∀ (n : Nat) (a c : Int), ∀ w, (Op.equalIn (n + 1) I (.int .i64 a) (.int .i64 c)).run P w = .ok (decide (a = c)) w := fun n a c w => by
    unfold Op.equalIn
    simp only [Sem.run_bind, und I w, Result.andThen_ok, if_true, Sem.run_pure]
    congr 1
  unfold Op.equal Op.maxDepth
  rw [show (10000 : Nat) = 9998 + 1 + 1 from rfl]
  unfold Op.equalIn
  simp [und T w, h4, part, ai, as1, n0, t0, o0, n1, t1, o1, n2, t2, o2, n3, t3, o3, n4, t4, o4, n5, t5, o5, n6, t6, o6, n7, t7, o7, hst, hit]
  by_cases e0 : a0 = b0
  case neg => simp [e0]
  subst e0
  by_cases e1 : a1 = b1
  case neg => simp [e1]
  subst e1
  by_cases e2 : a2 = b2
  case neg => simp [e2]
  subst e2
  by_cases e3 : a3 = b3
  case neg => simp [e3]
  subst e3
  by_cases e4 : a4 = b4
  case neg => simp [e4]
  subst e4
  by_cases e5 : a5 = b5
  case neg => simp [e5]
  subst e5
  by_cases e6 : a6 = b6
  case neg => simp [e6]
  subst e6
  by_cases e7 : a7 = b7
  case neg => simp [e7]
  subst e7
  simp
theorem guard_sel {T : TypeId} (h : SelEq P T) {op : BinOp} {x y : Operand} {l m : Array Value} (w : World) : (eqGuard op T x y (.agg l) (.agg m)).run P w = .ok () w := by
  obtain ⟨I, S, f0, f1, f2, f3, f4, f5, f6, f7, h1, n0, n1, n2, n3, n4, n5, n6, n7, t0, t1, t2, t3, t4, t5, t6, t7, o0, o1, o2, o3, o4, o5, o6, o7, hi, hs, ai, as1, h4, h5⟩ := h
  cases op <;> simp [eqGuard, h5]
theorem pu_eql_sel {T U : TypeId} (ha : SelEq P T) {x y : Operand} {a0 a1 : Int} {a2 a3 : List UInt8} {a4 a5 a6 a7 b0 b1 : Int} {b2 b3 : List UInt8} {b4 b5 b6 b7 : Int} {h : Array Obj} (hx : ev ρ x = .agg #[.int .i64 a0, .int .i64 a1, bs a2, bs a3, .int .i64 a4, .int .i64 a5, .int .i64 a6, .int .i64 a7]) (hy : ev ρ y = .agg #[.int .i64 b0, .int .i64 b1, bs b2, bs b3, .int .i64 b4, .int .i64 b5, .int .i64 b6, .int .i64 b7]) : Pu P ρ ⟨dst, .binOp .eql T x y U, ty, p, af, gd⟩ h (.bool (decide (a0 = b0 ∧ a1 = b1 ∧ a2 = b2 ∧ a3 = b3 ∧ a4 = b4 ∧ a5 = b5 ∧ a6 = b6 ∧ a7 = b7))) := ⟨fun w _ => by
  simp only [execOp, hx, hy, Sem.run_bind, guard_sel ha, Result.andThen_ok, binOp, equal_sel ha, Sem.run_pure]⟩
theorem pu_neq_sel {T U : TypeId} (ha : SelEq P T) {x y : Operand} {a0 a1 : Int} {a2 a3 : List UInt8} {a4 a5 a6 a7 b0 b1 : Int} {b2 b3 : List UInt8} {b4 b5 b6 b7 : Int} {h : Array Obj} (hx : ev ρ x = .agg #[.int .i64 a0, .int .i64 a1, bs a2, bs a3, .int .i64 a4, .int .i64 a5, .int .i64 a6, .int .i64 a7]) (hy : ev ρ y = .agg #[.int .i64 b0, .int .i64 b1, bs b2, bs b3, .int .i64 b4, .int .i64 b5, .int .i64 b6, .int .i64 b7]) : Pu P ρ ⟨dst, .binOp .neq T x y U, ty, p, af, gd⟩ h (.bool (!decide (a0 = b0 ∧ a1 = b1 ∧ a2 = b2 ∧ a3 = b3 ∧ a4 = b4 ∧ a5 = b5 ∧ a6 = b6 ∧ a7 = b7))) := ⟨fun w _ => by
  simp only [execOp, hx, hy, Sem.run_bind, guard_sel ha, Result.andThen_ok, binOp, equal_sel ha, Sem.run_pure]⟩
theorem Rd.sel_inv {xs : List D} {a : Sel} (h : E.dec .sel xs = some a) (hx : Rd F [.agg xs] [v]) : v = .agg #[.int .i64 a.kind, .int .i64 a.op, bs a.key, bs a.val, .int .i64 a.a, .int .i64 a.b, .int .i64 a.flag, .int .i64 a.size] := by
  obtain ⟨cs, e, h2⟩ := Rd.agg_inv hx
  have h3 : Rd F (E.sel.enc a) cs := dec_rd h h2
  have : cs = [.int .i64 a.kind, .int .i64 a.op, bs a.key, bs a.val, .int .i64 a.a, .int .i64 a.b, .int .i64 a.flag, .int .i64 a.size] := by
    obtain ⟨_, _, rfl, k0, h3⟩ := h3.inv_cons
    obtain ⟨_, _, rfl, k1, h3⟩ := h3.inv_cons
    obtain ⟨_, _, rfl, k2, h3⟩ := h3.inv_cons
    obtain ⟨_, _, rfl, k3, h3⟩ := h3.inv_cons
    obtain ⟨_, _, rfl, k4, h3⟩ := h3.inv_cons
    obtain ⟨_, _, rfl, k5, h3⟩ := h3.inv_cons
    obtain ⟨_, _, rfl, k6, h3⟩ := h3.inv_cons
    obtain ⟨_, _, rfl, k7, h3⟩ := h3.inv_cons
    cases h3
    rw [Rd.int_inv k0, Rd.int_inv k1, Rd.str_inv k2, Rd.str_inv k3, Rd.int_inv k4, Rd.int_inv k5, Rd.int_inv k6, Rd.int_inv k7]
  rw [e, this]
theorem dStr_inv {a : List UInt8} (h : dStr d = some a) : d = .str a := by
  cases d <;> first | (cases h; rfl) | cases h
theorem Rd.two_inv {l : List D} {a : List UInt8 × List UInt8} (ht : dTwo l = some a) (h : Rd F [.agg l] [v]) : v = .agg #[bs a.1, bs a.2] := by
  unfold dTwo at ht
  split at ht
  · rename_i x y
    cases h1 : dStr x with
    | none => rw [h1] at ht; cases ht
    | some a1 =>
      cases h2 : dStr y with
      | none => rw [h1, h2] at ht; cases ht
      | some a2 =>
        rw [h1, h2] at ht
        cases ht
        rw [dStr_inv h1, dStr_inv h2] at h
        obtain ⟨cs, hv, hcs⟩ := Rd.agg_inv h
        obtain ⟨v0, r0, e0, g0, hcs⟩ := hcs.inv_cons
        obtain ⟨v1, r1, e1, g1, hcs⟩ := hcs.inv_cons
        cases hcs
        rw [hv, e0, e1, Rd.str_inv g0, Rd.str_inv g1]
  · cases ht
theorem parts_inv2 {a : Sel} (h : E.dec .sel d.parts = some a) : d = .agg d.parts := by
  cases d <;> first | rfl | cases h
theorem parts_inv {a : List UInt8 × List UInt8} (h : dTwo d.parts = some a) : d = .agg d.parts := by
  cases d <;> first | rfl | cases h
theorem evEq_sound {X U : TypeId} {op : BinOp} {x y : Operand} {b : Bool} {K : D → Option R} (h1 : ∀ h L, Hp h F L → Pu P ρ ⟨dst, .binOp .eql X x y U, ty, p, af, gd⟩ h (.bool b)) (h2 : ∀ h L, Hp h F L → Pu P ρ ⟨dst, .binOp .neq X x y U, ty, p, af, gd⟩ h (.bool (!b))) (h : evEq op b K = some r) :
    ∃ v d, (∀ h L, Hp h F L → Pu P ρ ⟨dst, .binOp op X x y U, ty, p, af, gd⟩ h v) ∧ RdV F ι d v ∧ K d = some r := by
  unfold evEq at h
  split at h
  · exact ⟨_, _, h1, .of_rd (.bool .nil), h⟩
  · exact ⟨_, _, h2, .of_rd (.bool .nil), h⟩
  · cases h
theorem pu_neg {k : IntKind} {a : Int} {X : TypeId} {x : Operand} {h : Array Obj} (hx : ev ρ x = .int k a) : Pu P ρ ⟨dst, .unOp .neg X x, ty, p, af, gd⟩ h (.int k (k.wrap (0 - a))) := ⟨fun w _ => by
  simp [execOp, hx, Op.unary, Op.intArith]⟩
theorem pu_quoK {k : IntKind} {a b : Int} {X U : TypeId} {x y : Operand} {h : Array Obj} (hx : ev ρ x = .int k a) (hy : ev ρ y = .int k b) (hb : b ≠ 0) : Pu P ρ ⟨dst, .binOp .quo X x y U, ty, p, af, gd⟩ h (.int k (k.wrap (a.tdiv b))) := ⟨fun w _ => by
  simp [execOp, guard_int, hx, hy, binOp, Op.intDiv, hb]⟩
theorem pu_shl {k k' : IntKind} {a b : Int} {X U : TypeId} {x y : Operand} {h : Array Obj} (hx : ev ρ x = .int k a) (hy : ev ρ y = .int k' b) (hb : ¬ b < 0) : Pu P ρ ⟨dst, .binOp .shl X x y U, ty, p, af, gd⟩ h (.int k (k.wrap (a * 2 ^ min b.toNat k.bits))) := ⟨fun w _ => by
  simp [execOp, eqGuard, hx, hy, binOp, Op.shift, hb]⟩
theorem pu_shr {k k' : IntKind} {a b : Int} {X U : TypeId} {x y : Operand} {h : Array Obj} (hx : ev ρ x = .int k a) (hy : ev ρ y = .int k' b) (hb : ¬ b < 0) : Pu P ρ ⟨dst, .binOp .shr X x y U, ty, p, af, gd⟩ h (.int k (a.fdiv (2 ^ min b.toNat k.bits))) := ⟨fun w _ => by
  simp [execOp, eqGuard, hx, hy, binOp, Op.shift, hb]⟩
theorem evBin_sound {op : BinOp} {X U : TypeId} {x y : Operand} {dx dy : D} {K : D → Option R} (hx : RdV F ι dx (ev ρ x)) (hy : RdV F ι dy (ev ρ y)) (hT : CtOK P C) (h : evBin C op X dx dy K = some r) :
    ∃ v d, (∀ h L, Hp h F L → Pu P ρ ⟨dst, .binOp op X x y U, ty, p, af, gd⟩ h v) ∧ RdV F ι d v ∧ K d = some r := by
  unfold evBin at h
  split at h
  · rename_i k a
    split at h
    · rename_i k' b
      have e1 := Rd.int_inv hx
      have e2 := Rd.int_inv hy
      split at h
      · obtain ⟨n, hn, h⟩ := Option.bind_eq_some_iff.1 h
        unfold shlI at hn
        split at hn
        · cases hn
        · rename_i hb; cases hn; exact ⟨_, _, fun _ _ _ => pu_shl e1 e2 hb, .of_rd (.int .nil), h⟩
      · obtain ⟨n, hn, h⟩ := Option.bind_eq_some_iff.1 h
        unfold shrI at hn
        split at hn
        · cases hn
        · rename_i hb; cases hn; exact ⟨_, _, fun _ _ _ => pu_shr e1 e2 hb, .of_rd (.int .nil), h⟩
      · skip
        cases hk : decide (k = k') with
        | false => rw [hk] at h; cases h
        | true =>
          rw [hk] at h
          have hkk : k = k' := by simpa using hk
          subst hkk
          simp only [cond_true] at h
          unfold evInt at h
          split at h
          · exact ⟨_, _, fun _ _ _ => pu_add e1 e2, .of_rd (.int .nil), h⟩
          · exact ⟨_, _, fun _ _ _ => pu_sub e1 e2, .of_rd (.int .nil), h⟩
          · exact ⟨_, _, fun _ _ _ => pu_mul e1 e2, .of_rd (.int .nil), h⟩
          · exact ⟨_, _, fun _ _ _ => pu_eql e1 e2, .of_rd (.bool .nil), h⟩
          · exact ⟨_, _, fun _ _ _ => pu_neq e1 e2, .of_rd (.bool .nil), h⟩
          · exact ⟨_, _, fun _ _ _ => pu_lss e1 e2, .of_rd (.bool .nil), h⟩
          · exact ⟨_, _, fun _ _ _ => pu_leq e1 e2, .of_rd (.bool .nil), h⟩
          · exact ⟨_, _, fun _ _ _ => pu_gtr e1 e2, .of_rd (.bool .nil), h⟩
          · exact ⟨_, _, fun _ _ _ => pu_geq e1 e2, .of_rd (.bool .nil), h⟩
          · exact ⟨_, _, fun _ _ _ => pu_and e1 e2, .of_rd (.int .nil), h⟩
          · exact ⟨_, _, fun _ _ _ => pu_or e1 e2, .of_rd (.int .nil), h⟩
          · obtain ⟨n, hn, h⟩ := Option.bind_eq_some_iff.1 h
            unfold divI at hn
            split at hn
            · cases hn
            · rename_i hb; cases hn; exact ⟨_, _, fun _ _ _ => pu_quoK e1 e2 hb, .of_rd (.int .nil), h⟩
          · obtain ⟨n, hn, h⟩ := Option.bind_eq_some_iff.1 h
            unfold remI at hn
            split at hn
            · cases hn
            · rename_i hb; cases hn; exact ⟨_, _, fun _ _ _ => pu_rem e1 e2 hb, .of_rd (.int .nil), h⟩
          · cases h
    · cases h
  · rename_i l
    split at h
    · rename_i m
      have e1 := Rd.str_inv hx
      have e2 := Rd.str_inv hy
      split at h
      · exact ⟨_, _, fun _ _ _ => pu_eqs e1 e2, .of_rd (.bool .nil), h⟩
      · exact ⟨_, _, fun _ _ _ => pu_neqs e1 e2, .of_rd (.bool .nil), h⟩
      · unfold catS at h
        split at h
        · rename_i hl
          exact ⟨_, _, fun _ _ _ => pu_adds e1 e2 hl, .of_rd (.str .nil), h⟩
        · cases h
      · cases h
    · cases h
  · rename_i a
    split at h
    · rename_i b
      have e1 := Rd.bool_inv hx
      have e2 := Rd.bool_inv hy
      split at h
      · rename_i ht
        haveI : Und P X .bool := ⟨(ti_ok hT ht).und⟩
        have hb : ∀ a b : Bool, decide (a = b) = (a == b) := by decide
        exact evEq_sound (fun _ _ _ => by rw [← hb]; exact pu_eqb e1 e2) (fun _ _ _ => by
          have := pu_neqb (P := P) (T := X) (U := U) (h := ‹Array Obj›) (d := dst) (ty := ty) (p := p) (af := af) (g := gd) e1 e2
          have hn : ∀ a b : Bool, decide (a ≠ b) = !(a == b) := by decide
          rwa [hn] at this) h
      · cases h
    · cases h
  · rename_i o
    split at h
    · rename_i e _ _ _ _ _ ht
      split at h
      · rename_i te hte
        cases hz : Nat.blt 0 te.size with
        | false => rw [hz] at h; cases h
        | true =>
          rw [hz] at h
          simp only [cond_true] at h
          have hz : 0 < te.size := by simpa [Nat.blt_eq] using hz
          haveI : Und P X (.pointer e) := ⟨(ti_ok hT ht).und⟩
          haveI : Siz P e te.size := ⟨(ti_ok hT hte).siz⟩
          split at h
          · rename_i o'
            cases o with
            | none =>
              have e1 := Rd.npN_inv hx
              cases o' with
              | none => exact evEq_sound (fun _ _ _ => pu_eql_pt' e1 (Rd.npN_inv hy)) (fun _ _ _ => pu_neq_pt' e1 (Rd.npN_inv hy)) h
              | some j =>
                obtain ⟨B', hB', e2⟩ := Rd.npS_inv hy
                exact evEq_sound (fun _ _ _ => pu_eql_pt' e1 e2) (fun _ _ _ => pu_neq_pt' e1 e2) h
            | some i =>
              obtain ⟨B, hB, e1⟩ := Rd.npS_inv hx
              cases o' with
              | none => exact evEq_sound (fun _ _ _ => pu_eql_pt e1 (Rd.npN_inv hy)) (fun _ _ _ => pu_neq_pt e1 (Rd.npN_inv hy)) h
              | some j =>
                obtain ⟨B', hB', e2⟩ := Rd.npS_inv hy
                have hd : decide (B = B') = decide ((some i : Option Nat) = some j) := by
                  by_cases e : i = j
                  · subst e
                    rw [hB] at hB'
                    cases hB'
                    simp
                  · have : B ≠ B' := fun h => by subst h; exact e (F.inj _ _ _ hB hB')
                    simp [e, this]
                refine evEq_sound (fun hh L hm => ?_) (fun hh L hm => ?_) h
                · obtain ⟨c1, t1, l1, _⟩ := hm.live _ (F.nlt _ _ hB)
                  obtain ⟨c2, t2, l2, _⟩ := hm.live _ (F.nlt _ _ hB')
                  have := pu_eql_pp (P := P) (T := X) (U := U) (h := hh) (d := dst) (ty := ty) (p := p) (af := af) (g := gd) (ca := c1.toList) (cb := c2.toList) e1 e2 (by simpa using l1) (by simpa using l2) (by omega)
                  rwa [hd] at this
                · obtain ⟨c1, t1, l1, _⟩ := hm.live _ (F.nlt _ _ hB)
                  obtain ⟨c2, t2, l2, _⟩ := hm.live _ (F.nlt _ _ hB')
                  have := pu_neq_pp (P := P) (T := X) (U := U) (h := hh) (d := dst) (ty := ty) (p := p) (af := af) (g := gd) (ca := c1.toList) (cb := c2.toList) e1 e2 (by simpa using l1) (by simpa using l2) (by omega)
                  have hn : decide (B ≠ B') = !decide (B = B') := by simp
                  rwa [hn, hd] at this
          · have e2 := Rd.pnil_inv hy
            cases o with
            | none => exact evEq_sound (fun _ _ _ => pu_eql_pt (Rd.npN_inv hx) e2) (fun _ _ _ => pu_neq_pt (Rd.npN_inv hx) e2) h
            | some i =>
              obtain ⟨B, hB, e1⟩ := Rd.npS_inv hx
              exact evEq_sound (fun _ _ _ => pu_eql_pt e1 e2) (fun _ _ _ => pu_neq_pt e1 e2) h
          · cases h
      · cases h
    · cases h
  · rename_i ds off
    split at h
    · rename_i e _ _ _ _ _ ht
      haveI : Und P X (.pointer e) := ⟨(ti_ok hT ht).und⟩
      split at h
      · obtain ⟨B, o, cs, e1, _, _⟩ := Rd.fp_inv hx
        have e2 := Rd.pnil_inv hy
        exact evEq_sound (fun _ _ _ => pu_eql_pt e1 e2) (fun _ _ _ => pu_neq_pt e1 e2) h
      · cases h
    · cases h
  · rename_i o
    split at h
    · rename_i e _ _ _ _ _ ht
      haveI : Und P X (.pointer e) := ⟨(ti_ok hT ht).und⟩
      split at h
      · have e2 := Rd.pnil_inv hy
        cases o with
        | none =>
          have e1 : _ = Value.pointer none := hx
          exact evEq_sound (fun _ _ _ => pu_eql_pt e1 e2) (fun _ _ _ => pu_neq_pt e1 e2) h
        | some q =>
          obtain ⟨hd, B, n, cp, _, _, e1⟩ := hx
          exact evEq_sound (fun _ _ _ => pu_eql_pt e1 e2) (fun _ _ _ => pu_neq_pt e1 e2) h
      · cases h
    · cases h
  · rename_i z i j off
    split at h
    · rename_i e _ _ _ _ _ ht
      haveI : Und P X (.pointer e) := ⟨(ti_ok hT ht).und⟩
      split at h
      · obtain ⟨hd, B, n, cp, _, _, e1⟩ := hx
        have e2 := Rd.pnil_inv hy
        exact evEq_sound (fun _ _ _ => pu_eql_pt e1 e2) (fun _ _ _ => pu_neq_pt e1 e2) h
      · cases h
    · cases h
  · rename_i t off
    split at h
    · rename_i e _ _ _ _ _ ht
      haveI : Und P X (.pointer e) := ⟨(ti_ok hT ht).und⟩
      split at h
      · obtain ⟨B, _, e1⟩ := hx
        have e2 := Rd.pnil_inv hy
        exact evEq_sound (fun _ _ _ => pu_eql_pt e1 e2) (fun _ _ _ => pu_neq_pt e1 e2) h
      · cases h
    · cases h
  · rename_i t b
    split at h
    · rename_i e _ _ _ _ _ ht
      haveI : Und P X (.pointer e) := ⟨(ti_ok hT ht).und⟩
      obtain ⟨B, g1, e1⟩ := hx
      split at h
      · have e2 := Rd.pnil_inv hy
        cases b with
        | true => exact evEq_sound (fun _ _ _ => pu_eql_pt e1 e2) (fun _ _ _ => pu_neq_pt e1 e2) h
        | false => exact evEq_sound (fun _ _ _ => pu_eql_pt e1 e2) (fun _ _ _ => pu_neq_pt e1 e2) h
      · rename_i t'
        split at h
        · rename_i te hte
          cases hc : (Nat.blt 0 te.size && t' == t) with
          | false => rw [hc] at h; cases h
          | true =>
            rw [hc] at h
            simp only [cond_true] at h
            rw [Bool.and_eq_true, Nat.blt_eq, beq_iff_eq] at hc
            obtain ⟨hs, rfl⟩ := hc
            haveI : Siz P e te.size := ⟨(ti_ok hT hte).siz⟩
            obtain ⟨B', g2, e2⟩ := hy
            rw [g1] at g2
            have hB : B = B' := by cases g2; rfl
            subst hB
            cases b with
            | true => exact evEq_sound (fun _ _ _ => pu_eql_same (e := e) (n := te.size) (by omega) e1 e2) (fun _ _ _ => pu_neq_same (e := e) (n := te.size) (by omega) e1 e2) h
            | false => exact evEq_sound (fun _ _ _ => pu_eql_pt' e1 e2) (fun _ _ _ => pu_neq_pt' e1 e2) h
        · cases h
      · cases h
    · cases h
  · split at h
    · rename_i e _ _ _ _ _ ht
      haveI : Und P X (.pointer e) := ⟨(ti_ok hT ht).und⟩
      have e1 := Rd.pnil_inv hx
      split at h
      · rename_i o'
        cases o' with
        | none => exact evEq_sound (fun _ _ _ => pu_eql_pt' e1 (Rd.npN_inv hy)) (fun _ _ _ => pu_neq_pt' e1 (Rd.npN_inv hy)) h
        | some j =>
          obtain ⟨B', hB', e2⟩ := Rd.npS_inv hy
          exact evEq_sound (fun _ _ _ => pu_eql_pt' e1 e2) (fun _ _ _ => pu_neq_pt' e1 e2) h
      · have e2 := Rd.pnil_inv hy
        exact evEq_sound (fun _ _ _ => pu_eql_pt e1 e2) (fun _ _ _ => pu_neq_pt e1 e2) h
      · cases h
    · cases h
  · split at h
    · rename_i k v _ _ _ _ _ ht
      haveI : Und P X (.map k v) := ⟨(ti_ok hT ht).und⟩
      split at h
      · have e1 := Rd.mnil_inv hx
        have e2 := Rd.mnil_inv hy
        exact evEq_sound (fun _ _ _ => pu_eql_mm e1 e2) (fun _ _ _ => pu_neq_mm e1 e2) h
      · cases h
    · cases h
  · rename_i a
    split at h
    · rename_i ht
      obtain ⟨ms, hu⟩ := (ti_ok hT ht).und
      haveI : Und P X (.interface ms) := ⟨hu⟩
      split at h
      · rename_i b
        have e1 := Rd.err_inv hx
        have e2 := Rd.err_inv hy
        cases a with
        | true =>
          cases b with
          | true => cases h
          | false => exact evEq_sound (fun _ _ _ => pu_eql_mix (ms := ms) (.inr ⟨e2, e1⟩)) (fun _ _ _ => pu_neq_mix (ms := ms) (.inr ⟨e2, e1⟩)) h
        | false =>
          cases b with
          | true => exact evEq_sound (fun _ _ _ => pu_eql_mix (ms := ms) (.inl ⟨e1, e2⟩)) (fun _ _ _ => pu_neq_mix (ms := ms) (.inl ⟨e1, e2⟩)) h
          | false => cases h
      · cases h
    · cases h
  · split at h
    · rename_i ht
      obtain ⟨ms, hu⟩ := (ti_ok hT ht).und
      haveI : Und P X (.interface ms) := ⟨hu⟩
      split at h
      · rename_i b
        have e1 := Rd.inil_inv hx
        have e2 := Rd.err_inv hy
        cases b with
        | true => exact evEq_sound (fun _ _ _ => pu_eql_mix (ms := ms) (.inl ⟨e1, e2⟩)) (fun _ _ _ => pu_neq_mix (ms := ms) (.inl ⟨e1, e2⟩)) h
        | false => cases h
      · cases h
    · cases h
  · split at h
    · rename_i ht
      obtain ⟨fa, fb, fc, hu⟩ := (ti_ok hT ht).und
      haveI : Und P X (.func fa fb fc) := ⟨hu⟩
      split at h
      · have e1 := Rd.fnl_inv hx
        have e2 := Rd.fnl_inv hy
        exact evEq_sound (fun _ _ _ => pu_eql_ff e1 e2) (fun _ _ _ => pu_neq_ff e1 e2) h
      · cases h
    · cases h
  · split at h
    · rename_i ht
      obtain ⟨fa, fb, fc, hu⟩ := (ti_ok hT ht).und
      haveI : Und P X (.func fa fb fc) := ⟨hu⟩
      split at h
      · obtain ⟨cs, e1, _⟩ := Rd.clo_inv hx
        have e2 := Rd.fnl_inv hy
        exact evEq_sound (fun _ _ _ => pu_eql_fc e1 e2) (fun _ _ _ => pu_neq_fc e1 e2) h
      · cases h
    · cases h
  · split at h
    · rename_i ht
      obtain ⟨t0, ht0, hte⟩ := Option.bind_eq_some_iff.1 ht
      have ha := (ti_ok hT ht0).eqa hte
      split at h
      · rename_i a h1
        split at h
        · rename_i b h2
          have e1 := Rd.two_inv h1 hx
          have hy2 : RdV F ι (.agg dy.parts) (ev ρ y) := by rw [← parts_inv h2]; exact hy
          have e2 := Rd.two_inv h2 hy2
          exact evEq_sound (fun _ _ _ => pu_eql_attr ha e1 e2) (fun _ _ _ => pu_neq_attr ha e1 e2) h
        · cases h
      · cases h
    · rename_i ht
      obtain ⟨t0, ht0, hte⟩ := Option.bind_eq_some_iff.1 ht
      have ha := (ti_ok hT ht0).eqs hte
      split at h
      · rename_i a h1
        split at h
        · rename_i b h2
          have hx2 : RdV F ι (.agg _) (ev ρ x) := hx
          have hy2 : RdV F ι (.agg dy.parts) (ev ρ y) := by rw [← parts_inv2 h2]; exact hy
          exact evEq_sound (fun _ _ _ => pu_eql_sel ha (Rd.sel_inv h1 hx2) (Rd.sel_inv h2 hy2)) (fun _ _ _ => pu_neq_sel ha (Rd.sel_inv h1 hx2) (Rd.sel_inv h2 hy2)) h
        · cases h
      · cases h
    · cases h
  · cases h
theorem atI_some {α : Type} {l : List α} {i : Int} {x : α} (h : atI l i = some x) : ∃ n : Nat, i = n ∧ l[n]? = some x ∧ n < l.length := by
  unfold atI at h
  split at h
  · rename_i hi
    exact ⟨i.toNat, by omega, h, (List.getElem?_eq_some_iff.1 h).1⟩
  · cases h
theorem subL_some {α : Type} {l m : List α} {a b : Int} (h : subL l a b = some m) : ∃ x y : Nat, a = x ∧ b = y ∧ x ≤ y ∧ y ≤ l.length ∧ m = (l.take y).drop x := by
  unfold subL at h
  split at h
  · rename_i hi
    cases h
    exact ⟨a.toNat, b.toNat, by omega, by omega, by omega, by omega, rfl⟩
  · cases h
theorem bounds_run {isS : Bool} {n cp a b : Nat} {lo hi : Option Operand} (h1 : b ≤ cp) (hlo : ∀ y, lo = some y → ∃ k, ev ρ y = .int k (a : Int)) (hlo' : lo = none → a = 0) (hhi : ∀ y, hi = some y → ∃ k, ev ρ y = .int k (b : Int)) (hhi' : hi = none → b = n) (hab : a ≤ b) (w : World) :
    (Instr.sliceBounds isS n cp (lo.map (ev ρ)) (hi.map (ev ρ)) none).run P w = .ok (a, b, cp) w := by
  cases lo with
  | none =>
    have := hlo' rfl
    subst this
    cases hi with
    | none => have := hhi' rfl; subst this; simp [Instr.sliceBounds]
    | some y =>
      obtain ⟨k, hy⟩ := hhi y rfl
      simp [Instr.sliceBounds, Instr.sliceBound, asIntOf, hy, h1]
  | some y0 =>
    obtain ⟨k0, hy0⟩ := hlo y0 rfl
    cases hi with
    | none => have := hhi' rfl; subst this; simp [Instr.sliceBounds, Instr.sliceBound, asIntOf, hy0, hab]
    | some y =>
      obtain ⟨k, hy⟩ := hhi y rfl
      simp [Instr.sliceBounds, Instr.sliceBound, asIntOf, hy, hy0, h1, hab]
theorem pu_slice_gen {T e : TypeId} [Und P T (.slice e)] {sz : Nat} [Siz P e sz] {x : Operand} {lo hi : Option Operand} {q : Option Addr} {n cp a b : Nat} {ty' : TypeId} {hh : Array Obj} (hx : ev ρ x = .slice q n cp)
    (hlo : ∀ y, lo = some y → ∃ k, ev ρ y = .int k (a : Int)) (hlo' : lo = none → a = 0) (hhi : ∀ y, hi = some y → ∃ k, ev ρ y = .int k (b : Int)) (hhi' : hi = none → b = n) (hab : a ≤ b) (hbn : b ≤ cp) :
    Pu P ρ ⟨dst, .slice T x lo hi none, ty', p, af, gd⟩ hh (.slice (if cp = a then q else q.map (·.add (a * sz))) (b - a) (cp - a)) := ⟨fun w _ => by
  have := bounds_run (P := P) (isS := true) hbn hlo hlo' hhi hhi' hab w
  simp [execOp, hx, Instr.sliceAt, Instr.slice, und T w, siz e w, this]⟩
theorem pu_slices_gen {T : TypeId} [Und P T .string] {x : Operand} {lo hi : Option Operand} {l : List UInt8} {a b : Nat} {ty' : TypeId} {hh : Array Obj} (hx : ev ρ x = bs l)
    (hlo : ∀ y, lo = some y → ∃ k, ev ρ y = .int k (a : Int)) (hlo' : lo = none → a = 0) (hhi : ∀ y, hi = some y → ∃ k, ev ρ y = .int k (b : Int)) (hhi' : hi = none → b = l.length) (hab : a ≤ b) (hbn : b ≤ l.length) :
    Pu P ρ ⟨dst, .slice T x lo hi none, ty', p, af, gd⟩ hh (bs ((l.take b).drop a)) := ⟨fun w _ => by
  have := bounds_run (P := P) (isS := false) hbn hlo hlo' hhi hhi' hab w
  simp [execOp, hx, Instr.sliceAt, Instr.slice, und T w, size_mk, this, extract_mk]⟩
theorem foldl_put (off : Nat) : ∀ (l pre post tail : List Value) (k : Nat), post.length = l.length → off + k = pre.length → (l.zipIdx k).foldl (fun (cs : Array Value) (x : Value × Nat) => cs.setIfInBounds (off + x.2) x.1) (pre ++ post ++ tail).toArray = (pre ++ l ++ tail).toArray
  | [], pre, post, tail, k, h, _ => by
    have : post = [] := by simpa using h
    simp [this]
  | c :: l, pre, post, tail, k, h, hk => by
    match post, h with
    | q :: post, h =>
      simp only [List.zipIdx_cons, List.foldl_cons]
      have h1 : (pre ++ q :: post ++ tail).toArray.setIfInBounds (off + k) c = ((pre ++ [c]) ++ post ++ tail).toArray := by rw [hk]; simp
      rw [h1, foldl_put off l (pre ++ [c]) post tail (k + 1) (by simpa using h) (by simp; omega)]
      simp
theorem fill_step {pl : Nat → Option (Nat × Nat)} {i off size : Nat} {v : Value} {rest : List (Nat × Value)} {zv cs : List Value} (hp : pl i = some (off, size)) (hv : v.cells = cs.toArray) (hl : cs.length = size) (hb : off + size ≤ zv.length) : Instr.fill pl zv.toArray ((i, v) :: rest) = Instr.fill pl (zv.take off ++ cs ++ zv.drop (off + size)).toArray rest := by
  have hc : (decide (v.cells.size ≠ size) || decide (off + v.cells.size > zv.toArray.size)) = false := by rw [hv]; simp [hl]; omega
  have h2 : v.cells.zipIdx.foldl (fun (cs : Array Value) (x : Value × Nat) => cs.setIfInBounds (off + x.2) x.1) zv.toArray = (zv.take off ++ cs ++ zv.drop (off + size)).toArray := by
    have h3 := foldl_put off cs (zv.take off) ((zv.drop off).take size) (zv.drop (off + size)) 0 (by simp; omega) (by simp; omega)
    rw [hv, ← h3, ← Array.foldl_toList]
    congr 1
    · rw [List.append_assoc, ← List.drop_drop, List.take_append_drop, List.take_append_drop]
    · simp
  rw [← h2, Instr.fill, hp]
  simp only [hc]
  rw [if_neg (by simp)]
theorem cellB_one (hr : Rel F ι s ρ) (h : RdV F ι d v) (hc : cellB s d = true) : v.oneCell' = true ∧ RdW F ι d v := by
  unfold cellB at hc
  cases hp : d.plain with
  | true => exact ⟨(h.to_rd hp).one hp, .of_rd (h.to_rd hp)⟩
  | false =>
    rw [hp, Bool.false_or] at hc
    split at hc
    · rename_i t b
      obtain ⟨B, g1, g2⟩ := h
      refine ⟨?_, ⟨B, g1, g2⟩⟩
      rw [g2]
      cases b <;> rfl
    · rename_i t
      split at hc
      · rename_i e T xs hlk
        obtain ⟨q, n, cp, rows, g1, _⟩ := hr.look hlk
        have h' : v = (ι t).1 := h
        exact ⟨by rw [h', g1]; rfl, h'⟩
      · cases hc
    · cases hc
theorem placed_sound {fs : List (TypeId × Nat)} (hT : CtOK P C) (hr : Rel F ι s ρ) : ∀ {parts : List (Nat × Operand)} {z ds : List D} {zv : List Value}, placed fs C s (parts.map fun q => (q.1, g s q.2)) z = some ds → (∀ q ∈ parts, RdV F ι (g s q.2) (ev ρ q.2)) → F2 (RdW F ι) z zv →
    ∀ {pl : Nat → Option (Nat × Nat)}, (∀ i ft fo, fs[i]? = some (ft, fo) → ∀ t, ti C ft = some t → pl i = some (fo, t.size)) → ∃ cs : List Value, Instr.fill pl zv.toArray (parts.map fun q => (q.1, ev ρ q.2)) = some cs.toArray ∧ F2 (RdW F ι) ds cs
  | [], z, ds, zv, h, _, hz, pl, _ => by
    cases h
    exact ⟨zv, rfl, hz⟩
  | (i, x) :: parts, z, ds, zv, h, hp, hz, pl, hpl => by
    simp only [List.map_cons, placed] at h
    cases hi : fs[i]? with
    | none => rw [hi] at h; cases h
    | some q =>
      obtain ⟨ft, fo⟩ := q
      rw [hi] at h
      simp only at h
      cases ht : (C.tb[ft]?).join with
      | none => rw [ht] at h; cases h
      | some t =>
        rw [ht] at h
        simp only at h
        have hx := hp (i, x) (by simp)
        have hzl := forall2_len hz
        have hpi := hpl i ft fo hi t ht
        split at h
        · rename_i l hl
          simp only at hx
          rw [hl] at hx
          cases hc : (l.length == t.size && Nat.ble (fo + t.size) z.length && l.all D.plain) with
          | false => rw [hc] at h; cases h
          | true =>
            rw [hc] at h
            simp only [cond_true] at h
            simp only [Bool.and_eq_true, beq_iff_eq, Nat.ble_eq] at hc
            obtain ⟨cs, hv, hcs⟩ := Rd.agg_inv hx
            obtain ⟨ds', h1, h2⟩ := placed_sound hT hr (zv := zv.take fo ++ cs ++ zv.drop (fo + t.size)) h (fun q hq => hp q (by simp [hq])) (((hz.take fo).append hcs.f2).append (hz.drop _)) hpl
            refine ⟨ds', ?_, h2⟩
            have hcl := hcs.length
            simp only [List.map_cons]
            rw [fill_step (cs := cs) hpi (by rw [hv]; rfl) (by omega) (by omega), ← h1]
        · rename_i hna
          cases hc : (t.size == 1 && Nat.blt fo z.length && cellB s (g s x)) with
          | false => rw [hc] at h; cases h
          | true =>
            rw [hc] at h
            simp only [cond_true] at h
            simp only [Bool.and_eq_true, beq_iff_eq, Nat.blt_eq] at hc
            obtain ⟨hone, hrd⟩ := cellB_one hr hx hc.2
            have hcell : (ev ρ x).cells = #[ev ρ x] := by
              generalize ev ρ x = v at *
              cases v <;> first | rfl | (simp [Value.oneCell'] at hone; done)
            obtain ⟨ds', h1, h2⟩ := placed_sound hT hr (zv := zv.set fo (ev ρ x)) h (fun q hq => hp q (by simp [hq])) (by
              have := ((hz.take fo).append (F2.cons hrd .nil)).append (hz.drop (fo + 1))
              rw [List.append_assoc, List.singleton_append] at this
              rw [List.append_assoc, List.singleton_append] at this
              rw [List.set_eq_take_append_cons_drop, if_pos (by omega), List.set_eq_take_append_cons_drop, if_pos (by omega)]
              exact this) hpl
            refine ⟨ds', ?_, h2⟩
            simp only [List.map_cons]
            rw [fill_step (cs := [ev ρ x]) hpi hcell (by simp; omega) (by omega), ← h1, hc.1.1, List.set_eq_take_append_cons_drop, if_pos (by omega)]
            simp
theorem ofVals_f2 : ∀ l : List Value, F2 (RdW F ι) (l.map ofVal) l
  | [] => .nil
  | v :: l => .cons (ofVal_rd v) (ofVals_f2 l)
theorem run_mapM {α β : Type} {f : α → Sem β} {gf : α → β} {w : World} : ∀ {l : List α}, (∀ a ∈ l, (f a).run P w = .ok (gf a) w) → (l.mapM f).run P w = .ok (l.map gf) w
  | [], _ => by simp [List.mapM_nil]
  | a :: l, h => by
    rw [List.mapM_cons]
    simp [h a (by simp), run_mapM (l := l) fun b hb => h b (by simp [hb])]
theorem size_of {ft : TypeId} (hT : CtOK P C) {t : TI} (h : ti C ft = some t) (w : World) : (sizeOf ft).run P w = .ok t.size w := (ti_ok hT h).siz w
theorem lst_slice {e : E} {xs : List e.T} {q : Option Addr} {cp a b : Nat} (hr : Rd F [.lst e xs] [.slice q xs.length cp]) (hab : a ≤ b) (hb : b ≤ xs.length) : Rd F [.lst e ((xs.take b).drop a)] [.slice (if cp = a then q else q.map (·.add (a * e.sz))) (b - a) (cp - a)] := by
  obtain ⟨q', cp', he, hcp, hat⟩ := hr.at
  cases he
  have hlen : ((xs.take b).drop a).length = b - a := by simp; omega
  rw [← hlen]
  refine Rd.of_at (by rw [hlen]; omega) fun i x hx => ?_
  rw [List.getElem?_drop, List.getElem?_take] at hx
  split at hx
  · rename_i hi
    obtain ⟨cs, h1, h2, h3⟩ := hat _ _ hx
    have hne : ¬ (cp = a) := by
      have := (List.getElem?_eq_some_iff.1 hx).1
      omega
    rw [if_neg hne]
    rw [h1]
    refine ⟨cs, ?_, ?_, h3⟩
    · simp [add_at, blk, offs]
    · simp only [Option.map_some, add_at, blk, offs, Option.getD_some] at h2 ⊢
      rw [Nat.add_assoc, ← Nat.add_mul]
      exact h2
  · cases hx
theorem NR.get {c : Cl} {T A : TypeId} {hole : Option Nat} : ∀ {k : Nat} {hs : List c.R} {hds : List Value} {L : List Blk} {i : Nat} {n : c.R}, NR F T A hole k hs hds L → hs[i]? = some n → ∃ B cs hd Lv, F.nid (k + i) = some B ∧ Rd F (c.enc n) cs ∧ hds[i]? = some hd ∧ hd.oneCell' = true ∧ (B, cs ++ [hd], BT.c T) ∈ L ∧ (∀ q ∈ Lv, q ∈ L) ∧ (hole ≠ some (k + i) → ∃ q n' cp rows, hd = .slice q n' cp ∧ SlO c.e.sz A q n' cp Lv rows ∧ F2 (fun x r => Rd F (c.e.enc x) r) (c.xs n) rows)
  | _, _, _, _, i, n, .nil, h => by simp at h
  | k, _, _, _, 0, n, .cons (Lv := Lv) hB hc h1 ha hh t, h => by
    simp at h
    subst h
    exact ⟨_, _, _, Lv, hB, hc, rfl, h1, by simp, fun q hq => by simp [hq], ha⟩
  | k, _, _, _, i + 1, n, .cons hB hc h1 ha hh t, h => by
    obtain ⟨B, cs, hd, Lv, a, b, c, d, e, f, g⟩ := t.get (i := i) (by simpa using h)
    rw [show k + 1 + i = k + (i + 1) by omega] at a g
    exact ⟨B, cs, hd, Lv, a, b, by simpa using c, d, by simp [e], fun q hq => by simp [f q hq], g⟩
/-- A node, as it lies in memory. -/
theorem nodes_at {c : Cl} {own : Bool} {hs : List c.R} {i B : Nat} {n : c.R} (hr : Rel F ι s ρ) (hn : s.nodes = some (own, ⟨c, hs⟩)) (hi : hs[i]? = some n) (hB : F.nid i = some B) : ∃ cs c9, Rd F (c.enc n) cs ∧ (∀ hh, Hp hh F (lv ι s.ow ++ L0) → cellsFrom hh B 0 (cs ++ [c9])) ∧ (own = true → RdV F ι (.na i) c9) ∧ (own = false → Rd F [.lst c.e (c.xs n)] [c9]) := by
  unfold St.nodes at hn
  split at hn
  · rename_i c' hs' hl
    cases hn
    obtain ⟨B', cs, h1, h2, h3⟩ := (hr.look hl).2 i n hi
    rw [hB] at h1
    cases h1
    have hcl := h3.length
    obtain ⟨l9, c9, rfl⟩ : ∃ l9 c9, cs = l9 ++ [c9] := ⟨cs.dropLast, cs.getLast (by intro e; rw [e] at hcl; simp [Cl.enc_len] at hcl), by rw [List.dropLast_concat_getLast]⟩
    have h9 : l9.length = c.n := by simp [Cl.enc_len] at hcl; omega
    have ha := h3.take c.n
    have hb := h3.drop c.n
    rw [List.take_left' (Cl.enc_len n), List.take_left' h9] at ha
    rw [List.drop_left' (Cl.enc_len n), List.drop_left' h9] at hb
    exact ⟨l9, c9, ha, fun hh hm => hm.cells h2, fun h => (by cases h), fun _ => hb⟩
  · split at hn
    · rename_i c' T A hs' hole hl
      cases hn
      obtain ⟨_, hds, h1, h2, h3⟩ := hr.look hl
      obtain ⟨B', cs, hd, Lv, a, b, c, d, e, f, g⟩ := h2.get hi
      rw [Nat.zero_add, hB] at a
      cases a
      refine ⟨cs, hd, b, fun hh hm => ?_, fun _ => ⟨hds, h1, c⟩, fun h => (by cases h)⟩
      obtain ⟨fz, _, this⟩ := (hm.own _ (List.mem_append_left _ (lv_mem hl e))).cells
      exact cells_of_row (cs ++ [hd]) [] [] 0 (by simpa using this) rfl
    · cases hn
theorem na_at {c : Cl} {T A : TypeId} {hs : List c.R} {i : Nat} {n : c.R} (hr : Rel F ι s ρ) (hl : s.look NT = some (.nodes c T A hs none)) (hi : hs[i]? = some n) (hv : RdV F ι (.na i) v) : ∃ q n' cp rows Lv, v = .slice q n' cp ∧ n' = (c.xs n).length ∧ SlO c.e.sz A q n' cp Lv rows ∧ F2 (fun x r => Rd F (c.e.enc x) r) (c.xs n) rows ∧ ∀ q ∈ Lv, q ∈ lv ι s.ow := by
  obtain ⟨hds, h1, h2⟩ := hv
  obtain ⟨_, hds', h3, h4, h5⟩ := hr.look hl
  rw [h1] at h3
  have h3 : hds = hds' := by simpa using h3
  subst h3
  obtain ⟨B', cs, hd, Lv, a, b, c', d, e, f, g⟩ := h4.get hi
  obtain ⟨q, n', cp, rows, g1, g2, g3⟩ := g (by simp)
  rw [h2] at c'
  cases c'
  exact ⟨q, n', cp, rows, Lv, g1, by rw [g2.len, ← forall2_len g3], g2, g3, fun q hq => lv_mem hl (f q hq)⟩
theorem cellsFrom_left {h : Array Obj} {B : Nat} : ∀ {cs ds : List Value} {off : Nat}, cellsFrom h B off (cs ++ ds) → cellsFrom h B off cs
  | [], _, _, _ => trivial
  | _ :: _, _, _, hc => ⟨hc.1, cellsFrom_left hc.2⟩
set_option maxHeartbeats 2000000 in
theorem evPure_sound {K : D → Option R} {o : Op} (hT : CtOK P C) (hgl : Gl F.m) (hr : Rel F ι s ρ) (h : evPure C s o K = some r) : ∃ v d, (∀ h, Hp h F (lv ι s.ow ++ L0) → Pu P ρ ⟨dst, o, ty, p, af, gd⟩ h v) ∧ RdV F ι d v ∧ K d = some r := by
  unfold evPure at h
  split at h
  · exact ⟨_, _, fun _ _ => pu_move rfl, g_rd hr _, h⟩
  · exact ⟨_, _, fun _ _ => pu_assign rfl, g_rd hr _, h⟩
  · rename_i c x y
    split at h
    · rename_i b hb
      have hc := g_rd hr c
      rw [hb] at hc
      have hc := Rd.bool_inv hc
      cases b with
      | true => exact ⟨_, _, fun _ _ => pu_pick_t hc rfl, g_rd hr x, h⟩
      | false => exact ⟨_, _, fun _ _ => pu_pick_f hc rfl, g_rd hr y, h⟩
    · cases h
  · rename_i op X x y Y
    split at h
    · split at h
      · rename_i hg
        split at h
        · rename_i ht
          obtain ⟨ms, hu⟩ := (ti_ok hT ht).und
          haveI : Und P X (.interface ms) := ⟨hu⟩
          have hx := g_rd hr x
          rw [hg] at hx
          have e1 := Rd.inil_inv hx
          obtain ⟨v, d, h1, h2, h3⟩ := evEq_sound (P := P) (dst := dst) (ty := ty) (p := p) (af := af) (gd := gd) (X := X) (U := Y) (x := x) (y := .const .nilIface) (b := true) (fun _ _ _ => pu_eql_ii e1) (fun _ _ _ => pu_neq_ii e1) h
          exact ⟨v, d, fun h hm => h1 h _ hm, h2, h3⟩
        · cases h
      · rename_i b hg
        split at h
        · rename_i ht
          obtain ⟨ms, hu⟩ := (ti_ok hT ht).und
          haveI : Und P X (.interface ms) := ⟨hu⟩
          have hx := g_rd hr x
          rw [hg] at hx
          have e1 := Rd.err_inv hx
          cases b with
          | true =>
            obtain ⟨tx, u, e1⟩ := e1
            obtain ⟨v, d, h1, h2, h3⟩ := evEq_sound (P := P) (dst := dst) (ty := ty) (p := p) (af := af) (gd := gd) (X := X) (U := Y) (x := x) (y := .const .nilIface) (b := false) (fun _ _ _ => pu_eql_in e1) (fun _ _ _ => pu_neq_in e1) h
            exact ⟨v, d, fun h hm => h1 h _ hm, h2, h3⟩
          | false =>
            have e1 : ev ρ x = .nilIface := e1
            obtain ⟨v, d, h1, h2, h3⟩ := evEq_sound (P := P) (dst := dst) (ty := ty) (p := p) (af := af) (gd := gd) (X := X) (U := Y) (x := x) (y := .const .nilIface) (b := true) (fun _ _ _ => pu_eql_ii e1) (fun _ _ _ => pu_neq_ii e1) h
            exact ⟨v, d, fun h hm => h1 h _ hm, h2, h3⟩
        · cases h
      · rename_i T0 l0 hg
        split at h
        · rename_i ht
          obtain ⟨ms, hu⟩ := (ti_ok hT ht).und
          haveI : Und P X (.interface ms) := ⟨hu⟩
          have hx := g_rd hr x
          rw [hg] at hx
          obtain ⟨cs0, e1, _⟩ := Rd.ifc_inv hx
          obtain ⟨v, d, h1, h2, h3⟩ := evEq_sound (P := P) (dst := dst) (ty := ty) (p := p) (af := af) (gd := gd) (X := X) (U := Y) (x := x) (y := .const .nilIface) (b := false) (fun _ _ _ => pu_eql_in e1) (fun _ _ _ => pu_neq_in e1) h
          exact ⟨v, d, fun h hm => h1 h _ hm, h2, h3⟩
        · cases h
      · rename_i f t ds hg
        split at h
        · rename_i ht
          cases hf : isIf C f with
          | false => rw [hf] at h; cases h
          | true =>
            rw [hf] at h
            obtain ⟨ms, hu⟩ := (ti_ok hT ht).und
            haveI : Und P X (.interface ms) := ⟨hu⟩
            have hx := g_rd hr x
            rw [hg] at hx
            obtain ⟨B, cs, _, e1, _⟩ := hx
            obtain ⟨T1, rfl⟩ := isIf_ok hf
            have e1 := e1.of_if
            obtain ⟨v, d, h1, h2, h3⟩ := evEq_sound (P := P) (dst := dst) (ty := ty) (p := p) (af := af) (gd := gd) (X := X) (U := Y) (x := x) (y := .const .nilIface) (b := false) (fun _ _ _ => pu_eql_in e1) (fun _ _ _ => pu_neq_in e1) h
            exact ⟨v, d, fun h hm => h1 h _ hm, h2, h3⟩
        · cases h
      · cases h
    · split at h
      · rename_i et _ _ _ _ _ ht
        haveI : Und P X (.slice et) := ⟨(ti_ok hT ht).und⟩
        split at h
        · rename_i hg
          have hx := g_rd hr x
          rw [hg] at hx
          have e1 := Rd.nil_inv hx
          obtain ⟨v, d, h1, h2, h3⟩ := evEq_sound (P := P) (dst := dst) (ty := ty) (p := p) (af := af) (gd := gd) (X := X) (U := Y) (x := x) (y := .const (.slice none 0 0)) (b := true) (fun _ _ _ => pu_eql_ss (e := et) e1) (fun _ _ _ => pu_neq_ss (e := et) e1) h
          exact ⟨v, d, fun h hm => h1 h _ hm, h2, h3⟩
        · rename_i t hg
          have hx := g_rd hr x
          rw [hg] at hx
          split at h
          · rename_i eE eT xs hlk
            cases hxs : decide ((xs.length : Int) = 0) with
            | true => rw [hxs] at h; cases h
            | false =>
              rw [hxs] at h
              simp only [cond_false] at h
              have hne : ¬ (xs.length : Int) = 0 := by simpa using hxs
              obtain ⟨q, n', cp, rows, g1, g2, g3⟩ := hr.look hlk
              have hn0 : n' ≠ 0 := by have := forall2_len g3; rw [g2.len]; omega
              have hq : q.isNone = false := by
                rcases g2.sh with ⟨he, _, _⟩ | ⟨_, _, _, _, he, _, _, _, _⟩
                · cases he; exact absurd rfl hn0
                · cases he; rfl
              have e1 : ev ρ x = .slice q n' cp := by have : ev ρ x = (ι t).1 := hx; rw [this, g1]
              obtain ⟨v, d, h1, h2, h3⟩ := evEq_sound (P := P) (dst := dst) (ty := ty) (p := p) (af := af) (gd := gd) (X := X) (U := Y) (x := x) (y := .const (.slice none 0 0)) (b := false) (fun _ _ _ => hq ▸ pu_eql_ss (e := et) e1) (fun _ _ _ => by have := pu_neq_ss (P := P) (ρ := ρ) (dst := dst) (ty := ty) (p := p) (af := af) (gd := gd) (T := X) (U := Y) (e := et) (x := x) (h := ‹_›) e1; rwa [hq] at this) h
              exact ⟨v, d, fun h hm => h1 h _ hm, h2, h3⟩
          · cases h
        · cases h
      · cases h
    · split at h
      · rename_i kt vt _ _ _ _ _ ht
        haveI : Und P X (.map kt vt) := ⟨(ti_ok hT ht).und⟩
        split at h
        · rename_i hg
          have hx := g_rd hr x
          rw [hg] at hx
          have e1 := Rd.mnil_inv hx
          obtain ⟨v, d, h1, h2, h3⟩ := evEq_sound (P := P) (dst := dst) (ty := ty) (p := p) (af := af) (gd := gd) (X := X) (U := Y) (x := x) (y := .const (.map none)) (b := true) (fun _ _ _ => pu_eql_map e1 rfl) (fun _ _ _ => pu_neq_map e1 rfl) h
          exact ⟨v, d, fun h hm => h1 h _ hm, h2, h3⟩
        · rename_i t hg
          have hx := g_rd hr x
          rw [hg] at hx
          split at h
          · rename_i l hlk
            obtain ⟨B, cs, g1, _, _⟩ := hr.look hlk
            have e1 : ev ρ x = .map (some B) := by have : ev ρ x = (ι t).1 := hx; rw [this, g1]
            obtain ⟨v, d, h1, h2, h3⟩ := evEq_sound (P := P) (dst := dst) (ty := ty) (p := p) (af := af) (gd := gd) (X := X) (U := Y) (x := x) (y := .const (.map none)) (b := false) (fun _ _ _ => pu_eql_map e1 rfl) (fun _ _ _ => pu_neq_map e1 rfl) h
            exact ⟨v, d, fun h hm => h1 h _ hm, h2, h3⟩
          · cases h
        · cases h
      · cases h
    · obtain ⟨v, d, h1, h2, h3⟩ := evBin_sound (P := P) (dst := dst) (ty := ty) (p := p) (af := af) (gd := gd) (X := X) (U := Y) (g_rd hr x) (g_rd hr y) hT h
      exact ⟨v, d, fun h hm => h1 h _ hm, h2, h3⟩
  · rename_i T x
    split at h
    · rename_i b hb
      have hc := g_rd hr x
      rw [hb] at hc
      exact ⟨_, _, fun _ _ => pu_not (Rd.bool_inv hc), .of_rd (.bool .nil), h⟩
    · cases h
  · rename_i T x
    split at h
    · rename_i k n hb
      have hc := g_rd hr x
      rw [hb] at hc
      exact ⟨_, _, fun _ _ => pu_neg (Rd.int_inv hc), .of_rd (.int .nil), h⟩
    · cases h
  · rename_i x i
    split at h
    · rename_i l hl
      split at h
      · rename_i d hd
        have hx := g_rd hr x
        rw [hl] at hx
        obtain ⟨vs, h1, h2⟩ := hx
        obtain ⟨v, hv, hvr⟩ := forall2_get h2 hd
        exact ⟨v, d, fun _ _ => pu_extract h1 (by simpa using hv), .of_w hvr, h⟩
      · cases h
    · cases h
  · rename_i T x y
    split at h
    · rename_i ht
      split at h
      · rename_i l hl
        split at h
        · rename_i k i hi
          have hx := g_rd hr x
          have hy := g_rd hr y
          rw [hl] at hx
          rw [hi] at hy
          have hx := Rd.str_inv hx
          have hy := Rd.int_inv hy
          obtain ⟨c, hc, hk1⟩ := Option.bind_eq_some_iff.1 h
          obtain ⟨n, rfl, hn, hlt⟩ := atI_some hc
          haveI : Und P T .string := ⟨(ti_ok hT ht).und⟩
          have hgd : l.getD n 0 = c := by rw [List.getD_eq_getElem?_getD, hn]; rfl
          exact ⟨_, _, fun _ _ => (by rw [← hgd]; exact pu_index hx hy hlt : Pu P ρ _ _ (.int .u8 (c.toNat : Int))), .of_rd (.int .nil), hk1⟩
        · cases h
      · cases h
    · cases h
  · rename_i T x y
    split at h
    · rename_i et _ _ _ _ _ ht
      split at h
      · rename_i te hte
        split at h
        · rename_i k i hi
          have hy := g_rd hr y
          rw [hi] at hy
          have hy := Rd.int_inv hy
          have hx := g_rd hr x
          haveI : Und P T (.slice et) := ⟨(ti_ok hT ht).und⟩
          split at h
          · rename_i e xs hl
            rw [hl] at hx
            cases hz : (te.size == e.sz) with
            | false => rw [hz] at h; cases h
            | true =>
              rw [hz] at h
              simp only [cond_true] at h
              have hz : te.size = e.sz := by simpa using hz
              haveI : Siz P et e.sz := ⟨fun w => by rw [← hz]; exact (ti_ok hT hte).siz w⟩
              obtain ⟨c, hc, hk1⟩ := Option.bind_eq_some_iff.1 h
              obtain ⟨n, rfl, hn, hlt⟩ := atI_some hc
              obtain ⟨q, cp, hv, hcp, hat⟩ := Rd.at hx
              obtain ⟨cs, h1, h2, h3⟩ := hat _ _ hn
              exact ⟨_, _, fun _ _ => pu_indexAddrQ hv hy hlt h1, .of_rd (by
                have := Rd.fp (F := F) (off := 0) (ds := []) (vs := []) h2 h3 .nil
                exact this), hk1⟩
          · rename_i t hl
            split at h
            · rename_i e T' xs hlk
              rw [hl] at hx
              cases hz : (te.size == e.sz) with
              | false => rw [hz] at h; cases h
              | true =>
                rw [hz] at h
                simp only [cond_true] at h
                have hz : te.size = e.sz := by simpa using hz
                haveI : Siz P et e.sz := ⟨fun w => by rw [← hz]; exact (ti_ok hT hte).siz w⟩
                obtain ⟨c, hc, hk1⟩ := Option.bind_eq_some_iff.1 h
                obtain ⟨n, rfl, hn, hlt⟩ := atI_some hc
                obtain ⟨q, m, cp, rows, g1, g2, g3⟩ := hr.look hlk
                have hx : ev ρ x = (ι t).1 := hx
                rw [g1] at hx
                have hml : m = xs.length := by rw [g2.len, ← forall2_len g3]
                rcases g2.sh with ⟨he, _, hv⟩ | ⟨B, n', cap, spare, he, hL, _, _, _⟩
                · have hz : m = 0 := by cases he; rfl
                  omega
                · cases he
                  refine ⟨_, _, fun _ _ => pu_indexAddr (B := B) (off := 0) hx hy (by omega), .of_w (RdW.mkoe g1 ?_), hk1⟩
                  simp
            · cases h
          · rename_i j hl
            rw [hl] at hx
            split at h
            · rename_i cl T0 A hs hlk
              cases hz : (te.size == cl.e.sz) with
              | false => rw [hz] at h; cases h
              | true =>
                rw [hz] at h
                simp only [cond_true] at h
                have hz : te.size = cl.e.sz := by simpa using hz
                haveI : Siz P et cl.e.sz := ⟨fun w => by rw [← hz]; exact (ti_ok hT hte).siz w⟩
                obtain ⟨nd, hnd, h⟩ := Option.bind_eq_some_iff.1 h
                obtain ⟨c, hc, hk1⟩ := Option.bind_eq_some_iff.1 h
                obtain ⟨n, rfl, hn, hlt⟩ := atI_some hc
                obtain ⟨q, n', cp, rows, Lv, e1, e2, e3, e4, e5⟩ := na_at hr hlk hnd hx
                rcases e3.sh with ⟨he, _, hv⟩ | ⟨B, n'', cap, spare, he, hL, _, _, _⟩
                · have : n' = 0 := by cases he; rfl
                  omega
                · cases he
                  obtain ⟨hds, g1, g2⟩ := hx
                  refine ⟨_, _, fun _ _ => pu_indexAddr (B := B) (off := 0) e1 hy (by omega), .of_w (RdW.mknae g1 (by rw [g2, e1]) (by simp)), hk1⟩
            · cases h
          · cases h
        · cases h
      · cases h
    · cases h
  · rename_i T x i
    split at h
    · rename_i fs _ _ _ _ _ ht
      split at h
      · rename_i ft fo hf
        split at h
        · rename_i t hft
          cases hz : (Nat.blt 0 t.size) with
          | false => rw [hz] at h; cases h
          | true =>
            rw [hz] at h
            simp only [cond_true] at h
            have hz : 0 < t.size := by simpa [Nat.blt_eq] using hz
            haveI := fld_of (ti_ok hT ht).und hf
            have hsz : ∀ w, (sizeOf ft).run P w = .ok (t.size - 1 + 1) w := fun w => by rw [show t.size - 1 + 1 = t.size by omega]; exact (ti_ok hT hft).siz w
            have hx := g_rd hr x
            split at h
            · rename_i ds off hl
              rw [hl] at hx
              obtain ⟨B, o, cs, hv, h1, h2⟩ := Rd.fp_inv hx
              exact ⟨_, _, fun _ _ => pu_fieldAddr hv hsz, .of_rd (by rw [Nat.add_assoc]; exact .fp h1 h2 .nil), h⟩
            · rename_i t' off hl
              rw [hl] at hx
              obtain ⟨B, h1, hv⟩ := hx
              exact ⟨_, _, fun _ _ => pu_fieldAddr hv hsz, .of_w (RdW.mkop h1), h⟩
            · rename_i t' z j off hl
              rw [hl] at hx
              obtain ⟨B, n, cp, h1, hv⟩ := hx
              exact ⟨_, _, fun _ _ => pu_fieldAddr hv hsz, .of_w (RdW.mkoe h1 (by rw [Nat.add_assoc])), h⟩
            · rename_i o hl
              rw [hl] at hx
              obtain ⟨i0, rfl, h⟩ := Option.bind_eq_some_iff.1 h
              obtain ⟨B, hB, hv⟩ := Rd.npS_inv hx
              exact ⟨_, _, fun _ _ => pu_fieldAddr hv hsz, .of_w (RdW.mknf hB (by rw [Nat.zero_add])), h⟩
            · rename_i z0 i0 j0 off hl
              rw [hl] at hx
              obtain ⟨hd, B, n, cp, g1, g2, hv⟩ := hx
              exact ⟨_, _, fun _ _ => pu_fieldAddr hv hsz, .of_w (RdW.mknae g1 g2 (by rw [Nat.add_assoc])), h⟩
            · rename_i i0 off hl
              rw [hl] at hx
              obtain ⟨B, hB, hv⟩ := hx
              exact ⟨_, _, fun _ _ => pu_fieldAddr hv hsz, .of_w (RdW.mknf hB rfl), h⟩
            · cases h
        · cases h
      · cases h
    · cases h
  · rename_i T n
    split at h
    · rename_i zv by_ el ht
      split at h
      · rename_i hg
        obtain ⟨T0, z, u, v, e1⟩ := gl_ok hgl hg
        haveI : Agg P T false := ⟨(ti_ok hT ht).agg⟩
        refine ⟨.iface u v, .err true, fun hh hm => pu_load (q := ⟨n, 0, none⟩) rfl ?_, .of_rd (.err (b := true) ⟨_, _, rfl⟩ .nil), h⟩
        exact hm.cell (by simp [cellF, e1])
      · cases h
    · rename_i k0 v0 zv by_ el ht
      split at h
      · rename_i l hg
        obtain ⟨T0, z, b, es, c, e1, e2, _⟩ := gl_ok hgl hg
        haveI : Agg P T false := ⟨(ti_ok hT ht).agg⟩
        refine ⟨.map (some b), .gm n, fun hh hm => pu_load (q := ⟨n, 0, none⟩) rfl ?_, .of_rd (.gm ⟨_, _, e1⟩ .nil), h⟩
        exact hm.cell (by simp [cellF, e1])
      · cases h
    · cases h
  · rename_i T x hxg
    split at h
    · rename_i t ht
      have hk := ti_ok hT ht
      have hx := g_rd hr x
      split at h
      · rename_i ds off hl
        rw [hl] at hx
        obtain ⟨B, o, cs, hv, h1, h2⟩ := Rd.fp_inv hx
        exact rdCells_sound (P := P) (s := s) hk h2.f2 hv (fun hh hm => hm.cells h1) h
      · rename_i b off hl
        rw [hl] at hx
        split at h
        · rename_i T' ds hlk
          obtain ⟨B, h1, hv⟩ := hx
          obtain ⟨B', cs, g1, g2, g3⟩ := hr.look hlk
          rw [h1] at g1
          cases g1
          refine rdCells_sound (P := P) (s := s) (o := 0) hk g3 (by simpa using hv) (fun hh hm => ?_) h
          obtain ⟨fz, _, this⟩ := (hm.own (B, cs, BT.c T') (List.mem_append_left _ (lv_mem hlk (by rw [g2]; simp)))).cells
          exact cells_of_row cs [] [] 0 (by simpa using this) rfl
        · cases h
      · rename_i b z i off hl
        rw [hl] at hx
        split at h
        · rename_i e T' xs hlk
          cases hz : (z == e.sz) with
          | false => rw [hz] at h; cases h
          | true =>
            rw [hz] at h
            simp only [cond_true] at h
            have hz : z = e.sz := by simpa using hz
            subst hz
            obtain ⟨v, hv, hk1⟩ := Option.bind_eq_some_iff.1 h
            obtain ⟨B, n, cp, h1, hv'⟩ := hx
            obtain ⟨q, m, cp', rows, g1, g2, g3⟩ := hr.look hlk
            rw [h1] at g1
            cases g1
            obtain ⟨row, hrow, hrd⟩ := forall2_get g3 hv
            exact rdCells_sound (P := P) (s := s) hk hrd.f2 hv' (fun hh hm => row_cells g2 hrow fun p hp => hm.own p (List.mem_append_left _ (lv_mem hlk hp))) hk1
        · cases h
      · rename_i i0 off hl
        rw [hl] at hx
        obtain ⟨B, hB, hv⟩ := hx
        split at h
        · rename_i own cl hs hn
          cases h9 : (off == cl.n) with
          | true =>
            have h9' : off = cl.n := by simpa using h9
            subst h9'
            rw [h9] at h
            simp only [cond_true] at h
            cases ha : t.agg with
            | true => rw [ha] at h; cases h
            | false =>
              rw [ha] at h
              simp only [cond_false] at h
              haveI : Agg P T false := ⟨fun w => by rw [hk.agg w, ha]⟩
              obtain ⟨n, hi, h⟩ := Option.bind_eq_some_iff.1 h
              obtain ⟨cs, c9, g1, g2, g3, g4⟩ := nodes_at (L0 := L0) hr hn hi hB
              have hcl : cs.length = cl.n := by rw [g1.length, Cl.enc_len]
              have hld : ∀ hh, Hp hh F (lv ι s.ow ++ L0) → Pu P ρ ⟨dst, .load T x, ty, p, af, gd⟩ hh c9 := fun hh hm => pu_load hv (by
                have := cellsFrom_get (g2 hh hm) (i := cl.n) (v := c9) (by rw [List.getElem?_append_right (by omega), hcl, Nat.sub_self]; rfl)
                rwa [Nat.zero_add] at this)
              cases own with
              | true => exact ⟨c9, _, hld, g3 rfl, h⟩
              | false => exact ⟨c9, _, hld, .of_rd (g4 rfl), h⟩
          | false =>
            rw [h9] at h
            simp only [cond_false] at h
            obtain ⟨n, hi, h⟩ := Option.bind_eq_some_iff.1 h
            obtain ⟨cs, c9, g1, g2, g3, g4⟩ := nodes_at (L0 := L0) hr hn hi hB
            exact rdCells_sound (P := P) (s := s) (o := 0) hk g1.f2 (by simpa using hv) (fun hh hm => cellsFrom_left (g2 hh hm)) h
        · cases h
      · rename_i z0 i0 j0 off hl
        rw [hl] at hx
        split at h
        · rename_i cl T0 A hs hlk
          cases hz : (z0 == cl.e.sz) with
          | false => rw [hz] at h; cases h
          | true =>
          rw [hz] at h
          simp only [cond_true] at h
          have hz : z0 = cl.e.sz := by simpa using hz
          subst hz
          obtain ⟨n, hi, h⟩ := Option.bind_eq_some_iff.1 h
          obtain ⟨a, ha, h⟩ := Option.bind_eq_some_iff.1 h
          obtain ⟨hds, B, n', cp, g1, g2, hv⟩ := hx
          obtain ⟨q, n'', cp', rows, Lv, e1, e2, e3, e4, e5⟩ := na_at hr hlk hi ⟨hds, g1, g2⟩
          cases e1
          obtain ⟨row, hrow, hrd⟩ := forall2_get e4 ha
          exact rdCells_sound (P := P) (s := s) hk hrd.f2 hv (fun hh hm => row_cells e3 hrow fun p hp => hm.own p (List.mem_append_left _ (e5 p hp))) h
        · cases h
      · cases h
    · cases h
  · rename_i x
    have hx := g_rd hr x
    split at h
    · rename_i ds off hl
      rw [hl] at hx
      obtain ⟨B, o, cs, hv, h1, h2⟩ := Rd.fp_inv hx
      exact ⟨_, _, fun _ _ => pu_nilCheck_p hv, .of_rd (.fp h1 h2 .nil), h⟩
    · rename_i t off hl
      rw [hl] at hx
      obtain ⟨B, h1, hv⟩ := hx
      exact ⟨_, _, fun _ _ => pu_nilCheck_p hv, .of_w (RdW.mkop h1), h⟩
    · rename_i o hl
      rw [hl] at hx
      obtain ⟨i0, rfl, h⟩ := Option.bind_eq_some_iff.1 h
      obtain ⟨B, hB, hv⟩ := Rd.npS_inv hx
      exact ⟨_, _, fun _ _ => pu_nilCheck_p hv, .of_rd (.npS hB .nil), h⟩
    · rename_i z0 i0 j0 off hl
      rw [hl] at hx
      obtain ⟨hd, B, n, cp, g1, g2, hv⟩ := hx
      exact ⟨_, _, fun _ _ => pu_nilCheck_p hv, .of_w (RdW.mknae g1 g2 rfl), h⟩
    · rename_i o hl
      rw [hl] at hx
      obtain ⟨q0, rfl, h⟩ := Option.bind_eq_some_iff.1 h
      obtain ⟨hd, B, n, cp, g1, g2, hv⟩ := hx
      exact ⟨_, _, fun _ _ => pu_nilCheck_p hv, .of_w (RdW.mknae g1 g2 (by omega)), h⟩
    · rename_i i0 off hl
      rw [hl] at hx
      obtain ⟨B, hB, hv⟩ := hx
      exact ⟨_, _, fun _ _ => pu_nilCheck_p hv, .of_w (RdW.mknf hB rfl), h⟩
    · rename_i t z i0 off hl
      rw [hl] at hx
      obtain ⟨B, n, cp, g1, hv⟩ := hx
      exact ⟨_, _, fun _ _ => pu_nilCheck_p hv, .of_w (RdW.mkoe g1 rfl), h⟩
    · rename_i f t ds hl
      rw [hl] at hx
      cases hc : isMt C f with
      | false => rw [hc] at h; cases h
      | true =>
        rw [hc] at h
        obtain ⟨T1, c1, m, rfl, hc1, hm⟩ := isMt_ok hT hc
        obtain ⟨B, cs, e1, e2, e3⟩ := hx
        have e2' := e2
        have e2 := e2.of_mt hc1
        obtain ⟨k, hk⟩ := types_succ P
        have hna := nilAhead_run hm k (.pointer (some ⟨B, 0, none⟩))
        refine ⟨ev ρ x, _, fun _ _ => ⟨fun w _ => ?_⟩, .of_w (show RdW F ι (.clov (mtN T1 c1) t ds) _ from ⟨B, cs, e1, e2', e3⟩), h⟩
        simp [execOp, e2, hk, hna]
    · cases h
  · rename_i T x i
    split at h
    · rename_i fs _ _ _ _ _ ht
      split at h
      · rename_i ft fo hf
        split at h
        · rename_i t hft
          have hk := ti_ok hT hft
          have hx := g_rd hr x
          split at h
          · rename_i ds hl
            rw [hl] at hx
            obtain ⟨cs, hv, hcs⟩ := Rd.agg_inv hx
            haveI := fld_of (ti_ok hT ht).und hf
            unfold rdCells at h
            cases ha : t.agg with
            | true =>
              rw [ha] at h
              cases h
            | false =>
              rw [ha] at h
              simp only [cond_false] at h
              cases hd : ds[fo]? with
              | none => rw [hd] at h; cases h
              | some d =>
                rw [hd] at h
                obtain ⟨v, hv', hrd⟩ := Rd.get hcs hd
                haveI : Agg P ft false := ⟨fun w => by rw [hk.agg w, ha]⟩
                exact ⟨v, d, fun _ _ => pu_field hv hv', .of_rd hrd, h⟩
          · cases h
        · cases h
      · cases h
    · cases h
  · rename_i T parts
    split at h
    · rename_i fs sz ag z by_ el ht
      cases hall : (fs.all fun f => (C.tb[f.1]?).join.isSome) with
      | false => rw [hall] at h; cases h
      | true =>
        rw [hall] at h
        simp only [cond_true] at h
        split at h
        · rename_i ds hp
          have hk := ti_ok hT ht
          obtain ⟨a, hu, hfs⟩ := hk.und
          have hz : F2 (RdW F ι) (z.cells.toList.map ofVal) z.cells.toList := ofVals_f2 _
          have hsz : ∀ f ∈ a.toList, ∃ t, ti C f.type = some t := fun f hf => by
            have h1 := List.all_eq_true.1 hall (f.type, f.offset) (by rw [hfs]; exact List.mem_map.2 ⟨f, hf, rfl⟩)
            obtain ⟨t, ht⟩ := Option.isSome_iff_exists.1 h1
            exact ⟨t, ht⟩
          let gf : Field → Nat × Nat := fun f => (f.offset, ((ti C f.type).map (·.size)).getD 0)
          have hrun : ∀ w, (a.mapM (m := Sem) fun f => do pure (f.offset, ← sizeOf f.type)).run P w = .ok (a.toList.map gf).toArray w := fun w => by
            rw [Array.mapM_eq_mapM_toList]
            have := run_mapM (P := P) (f := fun f : Field => (do pure (f.offset, ← sizeOf f.type) : Sem (Nat × Nat))) (gf := gf) (w := w) (l := a.toList) fun f hf => by
              obtain ⟨t, ht⟩ := hsz f hf
              simp [(ti_ok hT ht).siz w, gf, ht]
            simp only [map_eq_pure_bind, Sem.run_bind, Sem.run_pure] at this ⊢
            rw [this]
            rfl
          obtain ⟨cs, h1, h2⟩ := placed_sound (ι := ι) (F := F) (ρ := ρ) (parts := parts.toList) (zv := z.cells.toList) hT hr hp (fun q _ => g_rd hr q.2) hz (pl := fun i => (a.toList.map gf).toArray[i]?) (fun i ft fo hi t ht => by
            rw [hfs, List.getElem?_map] at hi
            cases hf : a.toList[i]? with
            | none => rw [hf] at hi; cases hi
            | some f =>
              rw [hf] at hi
              cases hi
              simp only [List.getElem?_toArray, List.getElem?_map, hf, Option.map_some, gf, ht, Option.getD_some])
          have run : ∀ h', Pu P ρ ⟨dst, .build T parts, ty, p, af, gd⟩ h' (.agg cs.toArray) := fun _ => ⟨fun w _ => by
            have hz0 := hk.zer w
            simp only at hz0
            have h1' : Instr.fill (fun i => (a.toList.map gf).toArray[i]?) z.cells (parts.toList.map fun q => (q.1, ev ρ q.2)) = some cs.toArray := by simpa using h1
            simp only [execOp, Instr.build, Sem.run_bind, hz0, Result.andThen_ok, run_underlying hu, hrun w, Array.toList_map, h1', Sem.run_pure]⟩
          cases hpl : ds.all D.plain with
          | false =>
            rw [hpl] at h
            simp only [cond_false] at h
            split at h
            · rename_i t hdr
              cases hp9 : (ds.take 9).all D.plain with
              | false => rw [hp9] at h; cases h
              | true =>
                rw [hp9] at h
                simp only [cond_true] at h
                have e1 : ds = ds.take 9 ++ [.own t] := by rw [← hdr, List.take_append_drop]
                have k9 := h2.drop 9
                rw [hdr] at k9
                have hcs : cs.drop 9 = [(ι t).1] := by
                  generalize cs.drop 9 = c9 at k9
                  cases k9 with
                  | cons a b =>
                    cases b
                    have a' : _ = (ι t).1 := a
                    rw [a']
                refine ⟨.agg cs.toArray, _, fun h' _ => run h', .of_w (show RdW F ι (.aggo (ds.take 9) t) (.agg cs.toArray) from ⟨cs.take 9, by rw [← hcs, List.take_append_drop], (h2.take 9).rd hp9⟩), h⟩
            · split at h
              · rename_i t rest hno9
                cases hpr : rest.all D.plain with
                | false => rw [hpr] at h; cases h
                | true =>
                  rw [hpr] at h
                  simp only [cond_true] at h
                  cases h2 with
                  | cons ha hb =>
                    have ha' : _ = (ι t).1 := ha
                    refine ⟨_, _, fun h' _ => run h', .of_w (show RdW F ι (.aggh t rest) _ from ⟨_, by rw [ha'], hb.rd hpr⟩), h⟩
              · cases h
          | true =>
            rw [hpl] at h
            simp only [cond_true] at h
            exact ⟨.agg cs.toArray, _, fun h' _ => run h', .of_rd (.agg (h2.rd hpl) .nil), h⟩
        · cases h
    · cases h
  · rename_i T x lo hi
    have hlo : ∀ {k a n}, (match lo with | none => D.int .i64 n | some y => g s y) = D.int k a → (∀ y, lo = some y → ev ρ y = .int k a) ∧ (lo = none → a = n) := fun {k a n} he => by
      cases lo with
      | none => cases he; exact ⟨fun y hy => (by cases hy), fun _ => rfl⟩
      | some y =>
        simp only at he
        have := g_rd hr y
        rw [he] at this
        exact ⟨fun y' hy => (by cases hy; exact Rd.int_inv this), fun h => (by cases h)⟩
    have hhi : ∀ {k a n}, (match hi with | none => D.int .i64 n | some y => g s y) = D.int k a → (∀ y, hi = some y → ev ρ y = .int k a) ∧ (hi = none → a = n) := fun {k a n} he => by
      cases hi with
      | none => cases he; exact ⟨fun y hy => (by cases hy), fun _ => rfl⟩
      | some y =>
        simp only at he
        have := g_rd hr y
        rw [he] at this
        exact ⟨fun y' hy => (by cases hy; exact Rd.int_inv this), fun h => (by cases h)⟩
    split at h
    · rename_i ht
      split at h
      · rename_i l hl
        split at h
        · rename_i k1 a ha
          split at h
          · rename_i k2 b hb
            have hx := g_rd hr x
            rw [hl] at hx
            have hx := Rd.str_inv hx
            haveI : Und P T .string := ⟨(ti_ok hT ht).und⟩
            obtain ⟨m, hm, hk1⟩ := Option.bind_eq_some_iff.1 h
            obtain ⟨a', b', rfl, rfl, h1, h2, rfl⟩ := subL_some hm
            obtain ⟨q1, q2⟩ := hlo ha
            obtain ⟨q3, q4⟩ := hhi hb
            exact ⟨_, _, fun _ _ => pu_slices_gen hx (fun y hy => ⟨_, q1 y hy⟩) (fun hn => by have := q2 hn; omega) (fun y hy => ⟨_, q3 y hy⟩) (fun hn => by have := q4 hn; omega) h1 h2, .of_rd (.str .nil), hk1⟩
          · cases h
        · cases h
      · cases h
    · rename_i et _ _ _ _ _ ht
      split at h
      · rename_i te hte
        split at h
        · rename_i e xs hl
          cases hz : (te.size == e.sz) with
          | false => rw [hz] at h; cases h
          | true =>
            rw [hz] at h
            simp only [cond_true] at h
            have hz : te.size = e.sz := by simpa using hz
            split at h
            · rename_i k1 a ha
              split at h
              · rename_i k2 b hb
                have hx := g_rd hr x
                rw [hl] at hx
                obtain ⟨q, cp, hv, hcp, hat⟩ := Rd.at hx
                haveI : Und P T (.slice et) := ⟨(ti_ok hT ht).und⟩
                haveI : Siz P et e.sz := ⟨fun w => by rw [← hz]; exact (ti_ok hT hte).siz w⟩
                obtain ⟨m, hm, hk1⟩ := Option.bind_eq_some_iff.1 h
                obtain ⟨a', b', rfl, rfl, h1, h2, rfl⟩ := subL_some hm
                obtain ⟨q1, q2⟩ := hlo ha
                obtain ⟨q3, q4⟩ := hhi hb
                have hx' : Rd F [.lst e xs] [.slice q xs.length cp] := by rw [← hv]; exact hx
                exact ⟨_, _, fun _ _ => pu_slice_gen hv (fun y hy => ⟨_, q1 y hy⟩) (fun hn => by have := q2 hn; omega) (fun y hy => ⟨_, q3 y hy⟩) (fun hn => by have := q4 hn; omega) h1 (by omega), .of_rd (lst_slice hx' h1 h2), hk1⟩
              · cases h
            · cases h
        · rename_i j0 hl
          split at h
          · rename_i cl T0 A hs hlk
            cases hz : (te.size == cl.e.sz) with
            | false => rw [hz] at h; cases h
            | true =>
              rw [hz] at h
              simp only [cond_true] at h
              have hz : te.size = cl.e.sz := by simpa using hz
              obtain ⟨n, hnd, h⟩ := Option.bind_eq_some_iff.1 h
              split at h
              · rename_i k1 a ha
                split at h
                · rename_i k2 b hb
                  have hx := g_rd hr x
                  rw [hl] at hx
                  obtain ⟨q, n', cp, rows, Lv, e1, e2, e3, e4, e5⟩ := na_at hr hlk hnd hx
                  obtain ⟨hds, g1, g2⟩ := hx
                  haveI : Und P T (.slice et) := ⟨(ti_ok hT ht).und⟩
                  haveI : Siz P et cl.e.sz := ⟨fun w => by rw [← hz]; exact (ti_ok hT hte).siz w⟩
                  obtain ⟨m, hm, hk1⟩ := Option.bind_eq_some_iff.1 h
                  obtain ⟨a', b', rfl, rfl, h1, h2, rfl⟩ := subL_some hm
                  obtain ⟨q1, q2⟩ := hlo ha
                  obtain ⟨q3, q4⟩ := hhi hb
                  have hle := e3.le
                  rw [e1] at g2
                  exact ⟨_, _, fun _ _ => pu_slice_gen (sz := cl.e.sz) e1 (fun y hy => ⟨_, q1 y hy⟩) (fun hn => by have := q2 hn; omega) (fun y hy => ⟨_, q3 y hy⟩) (fun hn => by have := q4 hn; omega) h1 (by omega), .of_w (show RdW F ι (.nas cl.e.sz j0 (a' : Int).toNat (b' : Int).toNat) _ from ⟨hds, q, n', cp, g1, g2, by simpa using h1, by simpa [e2] using h2, by simp⟩), hk1⟩
                · cases h
              · cases h
          · cases h
        · cases h
      · cases h
    · cases h
  · rename_i S T x
    split at h
    · rename_i k0 _ _ _ _ _ hS
      split at h
      · rename_i k _ _ _ _ _ hD
        split at h
        · rename_i k' a ha
          have hx := g_rd hr x
          rw [ha] at hx
          haveI : Und P S (.int k0) := ⟨(ti_ok hT hS).und⟩
          haveI : Und P T (.int k) := ⟨(ti_ok hT hD).und⟩
          exact ⟨_, _, fun _ _ => pu_conv (Rd.int_inv hx) rfl, .of_rd (.int .nil), h⟩
        · cases h
      · rename_i _ _ _ _ _ hD
        split at h
        · rename_i k' a ha
          have hx := g_rd hr x
          rw [ha] at hx
          haveI : Und P S (.int k0) := ⟨(ti_ok hT hS).und⟩
          haveI : Und P T .string := ⟨(ti_ok hT hD).und⟩
          exact ⟨_, _, fun _ _ => pu_i2s (Rd.int_inv hx), .of_rd (.str .nil), h⟩
        · cases h
      · cases h
    · rename_i et _ _ _ _ _ hS
      split at h
      · rename_i _ _ _ _ hE
        split at h
        · rename_i _ _ _ _ _ hD
          haveI : Und P S (.slice et) := ⟨(ti_ok hT hS).und⟩
          haveI : Und P et (.int .i32) := ⟨(ti_ok hT hE).und⟩
          haveI : Und P T .string := ⟨(ti_ok hT hD).und⟩
          have hx := g_rd hr x
          split at h
          · rename_i hg
            rw [hg] at hx
            exact ⟨_, _, fun _ _ => pu_r2s0 (e := et) (Rd.nil_inv hx), .of_rd (.str .nil), h⟩
          · rename_i e xs hg
            obtain ⟨xs', hc, h⟩ := Option.bind_eq_some_iff.1 h
            obtain ⟨rfl, hc⟩ := castE_eq hc
            have hc : xs = xs' := hc
            subst hc
            rw [hg] at hx
            obtain ⟨q, cp, hv, hcp, hat⟩ := Rd.at hx
            refine ⟨bs (encs8 xs), _, fun hh hm => ?_, .of_rd (.str .nil), h⟩
            exact runes_at (e := et) hv (fun i c hc => by
              obtain ⟨cs, a, b, c'⟩ := hat i c hc
              have h1 := (Rd.rune_inv c').symm ▸ b
              exact ⟨a, hm.cell (by simpa [E.sz] using h1.1)⟩)
          · rename_i t hg
            rw [hg] at hx
            split at h
            · rename_i e T' xs hlk
              obtain ⟨xs', hc, h⟩ := Option.bind_eq_some_iff.1 h
              obtain ⟨rfl, hc⟩ := castE_eq hc
              have hc : xs = xs' := hc
              subst hc
              obtain ⟨q, n, cp, rows, g1, g2, g3⟩ := hr.look hlk
              have hx : ev ρ x = (ι t).1 := hx
              rw [g1] at hx
              have hn : n = xs.length := by rw [g2.len, ← forall2_len g3]
              refine ⟨bs (encs8 xs), _, fun hh hm => ?_, .of_rd (.str .nil), h⟩
              refine runes_at (e := et) (by rw [hx, hn]) fun i c hc => ?_
              rcases g2.sh with ⟨he, _, _⟩ | ⟨B, n', cap, spare, he, hL, hn', hcap, hle⟩
              · have hz : n = 0 := by cases he; rfl
                have := (List.getElem?_eq_some_iff.1 hc).1
                omega
              · cases he
                obtain ⟨row, hrow, hrd⟩ := forall2_get g3 hc
                have h2 := row_cells g2 hrow fun p hp => hm.own p (List.mem_append_left _ (lv_mem hlk hp))
                rw [Rd.rune_inv hrd] at h2
                exact ⟨rfl, by have := h2.1; simpa [E.sz, blk, offs] using this⟩
            · cases h
          · cases h
        · cases h
      · rename_i _ _ _ _ hE
        split at h
        · rename_i _ _ _ _ _ hD
          haveI : Und P S (.slice et) := ⟨(ti_ok hT hS).und⟩
          haveI : Und P et (.int .u8) := ⟨(ti_ok hT hE).und⟩
          haveI : Und P T .string := ⟨(ti_ok hT hD).und⟩
          have hx := g_rd hr x
          split at h
          · rename_i hg
            rw [hg] at hx
            exact ⟨_, _, fun _ _ => pu_b2s0 (e := et) (Rd.nil_inv hx), .of_rd (.str .nil), h⟩
          · rename_i e xs hg
            obtain ⟨xs', hc, h⟩ := Option.bind_eq_some_iff.1 h
            obtain ⟨rfl, hc⟩ := castE_eq hc
            have hc : xs = xs' := hc
            subst hc
            rw [hg] at hx
            obtain ⟨q, cp, hv, hcp, hat⟩ := Rd.at hx
            refine ⟨bs xs, _, fun hh hm => ?_, .of_rd (.str .nil), h⟩
            exact bytes_at (e := et) hv (fun i c hc => by
              obtain ⟨cs, a, b, c'⟩ := hat i c hc
              have h1 := (Rd.u8_inv c').symm ▸ b
              exact ⟨a, hm.cell (by simpa [E.sz] using h1.1)⟩)
          · rename_i t hg
            rw [hg] at hx
            split at h
            · rename_i e T' xs hlk
              obtain ⟨xs', hc, h⟩ := Option.bind_eq_some_iff.1 h
              obtain ⟨rfl, hc⟩ := castE_eq hc
              have hc : xs = xs' := hc
              subst hc
              obtain ⟨q, n, cp, rows, g1, g2, g3⟩ := hr.look hlk
              have hx : ev ρ x = (ι t).1 := hx
              rw [g1] at hx
              have hn : n = xs.length := by rw [g2.len, ← forall2_len g3]
              refine ⟨bs xs, _, fun hh hm => ?_, .of_rd (.str .nil), h⟩
              refine bytes_at (e := et) (by rw [hx, hn]) fun i c hc => ?_
              rcases g2.sh with ⟨he, _, _⟩ | ⟨B, n', cap, spare, he, hL, hn', hcap, hle⟩
              · have hz : n = 0 := by cases he; rfl
                have := (List.getElem?_eq_some_iff.1 hc).1
                omega
              · cases he
                obtain ⟨row, hrow, hrd⟩ := forall2_get g3 hc
                have h2 := row_cells g2 hrow fun p hp => hm.own p (List.mem_append_left _ (lv_mem hlk hp))
                rw [Rd.u8_inv hrd] at h2
                exact ⟨rfl, by have := h2.1; simpa [E.sz, blk, offs] using this⟩
            · cases h
          · cases h
        · cases h
      · cases h
    · cases h
  · rename_i T x y
    split at h
    · rename_i kt vt _ _ _ _ _ ht
      split at h
      · rename_i e _ _ _ _ _ hk
        split at h
        · rename_i te hte
          cases hz : Nat.blt 0 te.size with
          | false => rw [hz] at h; cases h
          | true =>
            rw [hz] at h
            simp only [cond_true] at h
            have hz : 0 < te.size := by simpa [Nat.blt_eq] using hz
            haveI : Und P T (.map kt vt) := ⟨(ti_ok hT ht).und⟩
            haveI : Und P kt (.pointer e) := ⟨(ti_ok hT hk).und⟩
            haveI : Siz P e te.size := ⟨(ti_ok hT hte).siz⟩
            split at h
            · rename_i hv
              haveI : Zer P vt (.bool false) := ⟨(ti_ok hT hv).zer⟩
              split at h
              · rename_i o ho
                have hy := dPtr_rd ho (RdV.to_rd (g_rd hr y) (by
                  have := ho
                  unfold dPtr at this
                  split at this
                  · rename_i hd; rw [hd]; rfl
                  · rename_i hd; rw [hd]; rfl
                  · cases this))
                obtain ⟨a, ha⟩ := hy.np_ptr
                rw [ha] at hy
                have hx := g_rd hr x
                split at h
                · rename_i hg
                  rw [hg] at hx
                  exact ⟨_, _, fun _ _ => pu_lookup0 (kt := kt) (vt := vt) (e := e) (Rd.mnil_inv hx) ha, .of_rd (.bool .nil), h⟩
                · rename_i t hg
                  rw [hg] at hx
                  split at h
                  · rename_i l hlk
                    obtain ⟨B, cs, g1, g2, g3⟩ := hr.look hlk
                    have hx : ev ρ x = (ι t).1 := hx
                    rw [g1] at hx
                    have hf := mp_find hy 0 0 g3
                    refine ⟨_, _, fun hh hm => ?_, .of_rd (.bool .nil), h⟩
                    have hb : hh[B]? = some (mapO cs) := hm.own (B, cs, BT.map) (List.mem_append_left _ (lv_mem hlk (by rw [g2]; simp)))
                    have := pu_lookup (P := P) (T := T) (kt := kt) (vt := vt) (e := e) (u := .bool false) (d := dst) (ty := ty) (p := p) (af := af) (g := gd) (isA a) hx ha hb (fun w hw m hm' => by
                      obtain ⟨o', a', e1, e2⟩ := mp_keys 0 g3 m (by simpa using hm')
                      rw [e1]
                      exact np_equal (P := P) (kt := kt) (e := e) (n := te.size) (by omega) hm hw hy e2)
                    rw [← hf]
                    exact this
                  · cases h
                · cases h
              · cases h
            · cases h
        · cases h
      · rename_i hk
        split at h
        · rename_i hv
          haveI : Und P T (.map kt vt) := ⟨(ti_ok hT ht).und⟩
          haveI : Und P kt .string := ⟨(ti_ok hT hk).und⟩
          haveI : Zer P vt (.bool false) := ⟨(ti_ok hT hv).zer⟩
          split at h
          · rename_i kk hy0
            have hy := g_rd hr y
            rw [hy0] at hy
            have hy := Rd.str_inv hy
            split at h
            · rename_i n hx0
              have hx := g_rd hr x
              rw [hx0] at hx
              obtain ⟨T1, z1, b1, e1, e2⟩ := Rd.gm_inv hx
              split at h
              · rename_i l hg
                obtain ⟨T0, z, b, es, c, f1, f2, f3, f4⟩ := gl_ok hgl hg
                rw [e2] at f1
                cases f1
                have hgm : gmem n kk = l.contains kk := by simp [gmem, hg]
                refine ⟨_, _, fun hh hm => ?_, .of_rd (.bool .nil), h⟩
                refine pu_lookup_str (kt := kt) (vt := vt) e1 hy (hm.frz _ _ f2) (fun x hx => ?_) (fun hb => ?_) (fun hb x hx e => ?_)
                · obtain ⟨k, _, k1, k2⟩ := f3 x hx
                  exact ⟨_, k1, k2⟩
                · rw [hgm, List.contains_iff_mem] at hb
                  exact f4 kk hb
                · obtain ⟨k, k0, k1, k2⟩ := f3 x hx
                  rw [k1] at e
                  have e : k = kk := by
                    injection e with e
                    injection e with e
                    have := congrArg Array.toList e
                    simpa using this
                  subst e
                  rw [hgm] at hb
                  have : l.contains k = true := List.contains_iff_mem.2 k0
                  rw [this] at hb
                  cases hb
              · cases h
            · cases h
          · cases h
        · cases h
      · cases h
    · cases h
  · rename_i nm fs cs
    split at h
    · rename_i x hfs
      split at h
      · rename_i f t hg
        split at h
        · rename_i q hq
          obtain ⟨hm, rfl⟩ := mfind_ok hT hq
          cases hc1 : (cs.isEmpty && mname (mcode nm) == nm) with
          | false => rw [hc1] at h; cases h
          | true =>
            rw [hc1] at h
            simp only [Bool.and_eq_true, beq_iff_eq] at hc1
            obtain ⟨c1, c3⟩ := hc1
            have hx := g_rd hr x
            rw [hg] at hx
            obtain ⟨B, vs, e1, e2, e3⟩ := hx
            have e2 := e2.of_if
            obtain rfl : fs = #[x] := by cases fs; simp_all
            obtain rfl : cs = #[] := by simpa using c1
            have hcv := CloV.mk_mt (T := q.1) (B := B) (cs := []) (mcode_lt nm)
            rw [c3] at hcv
            exact ⟨.func (.method nm) #[.iface q.1 (.pointer (some ⟨B, 0, none⟩))] #[], _, fun _ _ => ⟨fun w _ => by simp [execOp, Instr.makeFunc, e2]⟩, .of_w (show RdW F ι (.clov (mtN q.1 (mcode nm)) t []) _ from ⟨B, [], e1, hcv, .nil⟩), h⟩
        · cases h
      · cases h
    · cases h
  · rename_i f fs cs
    cases hc1 : fs.isEmpty with
    | false => rw [hc1] at h; cases h
    | true =>
      rw [hc1] at h
      simp only [cond_true] at h
      have hfs : fs = #[] := by simpa using hc1
      subst hfs
      have e : cs.map (ev ρ) = (cs.toList.map (ev ρ)).toArray := Array.ext' (by rw [Array.toList_map])
      have hall : ∀ l : List Operand, (l.map (g s)).all D.plain = true → Rd F (l.map (g s)) (l.map (ev ρ)) := fun l hl => by
        induction l with
        | nil => exact .nil
        | cons x l ih =>
          simp only [List.map_cons, List.all_cons, Bool.and_eq_true] at hl
          exact (RdV.to_rd (g_rd hr x) hl.1).cons (ih hl.2)
      split at h
      · rename_i t ds hl
        cases hp0 : (ds.all D.plain && Nat.blt f 1000000) with
        | false => rw [hp0] at h; cases h
        | true =>
          rw [hp0] at h
          simp only [cond_true] at h
          rw [Bool.and_eq_true] at hp0
          obtain ⟨hp, hfb⟩ := hp0
          rw [Nat.blt_eq] at hfb
          cases hcs : cs.toList with
          | nil => rw [hcs] at hl; cases hl
          | cons x l =>
            rw [hcs, List.map_cons] at hl
            injection hl with h1 h2
            subst h2
            have hx := g_rd hr x
            rw [h1] at hx
            obtain ⟨B, g1, g2⟩ := hx
            refine ⟨.func (.func f) #[] (cs.toList.map (ev ρ)).toArray, .clov f t (l.map (g s)), fun _ _ => ⟨fun w _ => by simp [execOp, Instr.makeFunc, e]⟩, ?_, h⟩
            exact RdV.of_w ⟨B, l.map (ev ρ), g1, by rw [hcs, List.map_cons, g2]; exact .mk_fn hfb, hall l hp⟩
      · cases hp : (cs.toList.map (g s)).all D.plain with
        | false => rw [hp] at h; cases h
        | true =>
          rw [hp] at h
          simp only [cond_true] at h
          exact ⟨.func (.func f) #[] (cs.toList.map (ev ρ)).toArray, _, fun _ _ => ⟨fun w _ => by simp [execOp, Instr.makeFunc, e]⟩, .of_rd (Rd.clo (hall _ hp) .nil), h⟩
  · rename_i x xT T
    split at h
    · rename_i fs0 _ _ _ _ _ ht
      obtain ⟨a0, hu, _⟩ := (ti_ok hT ht).und
      haveI : Und P T (.struct a0) := ⟨hu⟩
      have hx := g_rd hr x
      split at h
      · rename_i T' l hl
        rw [hl] at hx
        obtain ⟨cs, e1, e2⟩ := Rd.ifc_inv hx
        cases hq : (T' == T) with
        | true =>
          rw [hq] at h
          have : T' = T := by simpa using hq
          subst this
          exact ⟨_, .tup [.agg l, .bool true], fun _ _ => pu_ta_yes e1, ⟨[.agg cs.toArray, .bool true], rfl, .cons (.of_rd (.agg e2 .nil)) (.cons (.of_rd (.bool .nil)) .nil)⟩, h⟩
        | false =>
          rw [hq] at h
          have : T' ≠ T := by simpa using hq
          exact ⟨_, .tup [.u, .bool false], fun _ _ => pu_ta_no this (ti_ok hT ht).zer e1, ⟨[_, .bool false], rfl, .cons trivial (.cons (.of_rd (.bool .nil)) .nil)⟩, h⟩
      · cases h
    · rename_i ht
      split at h
      · rename_i f t ds hg
        cases hc : (C.ast.any fun q => ifN q.1 == f && q.2 == T) with
        | false => rw [hc] at h; cases h
        | true =>
          rw [hc] at h
          obtain ⟨q, hq, hc⟩ := List.any_eq_true.1 hc
          simp only [Bool.and_eq_true, beq_iff_eq] at hc
          obtain ⟨rfl, rfl⟩ := hc
          have hx := g_rd hr x
          rw [hg] at hx
          obtain ⟨B, vs, e1, e2, e3⟩ := hx
          have e2' := e2
          have e2 := e2.of_if
          obtain ⟨i, want, a1, a2, a3⟩ := hT.2.2 q hq
          haveI : Und P q.2 (.interface want) := ⟨a2⟩
          have hu := und (P := P) q.2
          exact ⟨.tuple #[.iface q.1 (.pointer (some ⟨B, 0, none⟩)), .bool true], .tup [.clov (ifN q.1) t ds, .bool true], fun _ _ => ⟨fun w _ => by simp [execOp, Instr.typeAssert, e2, hu w, a1, a3]⟩, ⟨[_, .bool true], rfl, .cons (show RdW F ι (.clov (ifN q.1) t ds) _ from ⟨B, vs, e1, .mk_if, e3⟩) (.cons (.of_rd (.bool .nil)) .nil)⟩, h⟩
      · cases h
    · cases h
  · rename_i T x
    split at h
    · rename_i t ht
      cases hc : t.sh.conc with
      | false => rw [hc] at h; cases h
      | true =>
        rw [hc] at h
        simp only [cond_true] at h
        have hu := (ti_ok hT ht).und
        have hun : ∃ U, P.underlying T = some U ∧ ∀ ms, U ≠ .interface ms := by
          cases hs : t.sh <;> rw [hs] at hc hu <;> first | (simp [Sh.conc] at hc; done) | exact ⟨_, hu, fun _ e => by cases e⟩ | (obtain ⟨a, hu, _⟩ := hu; exact ⟨_, hu, fun _ e => by cases e⟩)
        obtain ⟨U, hU, hne⟩ := hun
        haveI : Und P T U := ⟨hU⟩
        have hrun : ∀ hh, Pu P ρ ⟨dst, .makeInterface T x, ty, p, af, gd⟩ hh (.iface T (ev ρ x)) := fun hh => ⟨fun w _ => by
          cases U <;> first | (exact absurd rfl (hne _)) | simp [execOp, Instr.makeInterface, und T w]⟩
        split at h
        · rename_i l hl
          cases hp : l.all D.plain with
          | false =>
            rw [hp] at h
            exact ⟨_, .err true, fun _ _ => hrun _, .of_rd (.err (b := true) ⟨_, _, rfl⟩ .nil), h⟩
          | true =>
            rw [hp] at h
            have hx := g_rd hr x
            rw [hl] at hx
            obtain ⟨cs, e1, e2⟩ := Rd.agg_inv hx
            exact ⟨_, .ifc T l, fun _ _ => hrun _, .of_rd (by rw [e1]; exact .ifc e2 .nil), h⟩
        · rename_i b0 hl
          cases hc : (C.mth.any fun q => q.1 == T) with
          | false =>
            rw [hc] at h
            exact ⟨_, .err true, fun _ _ => hrun _, .of_rd (.err (b := true) ⟨_, _, rfl⟩ .nil), h⟩
          | true =>
            rw [hc] at h
            have hx := g_rd hr x
            rw [hl] at hx
            obtain ⟨B, e1, e2⟩ := hx
            exact ⟨_, .clov (ifN T) b0 [], fun _ _ => hrun _, .of_w (show RdW F ι (.clov (ifN T) b0 []) _ from ⟨B, [], e1, by rw [e2]; exact .mk_if, .nil⟩), h⟩
        · exact ⟨_, .err true, fun _ _ => hrun _, .of_rd (.err (b := true) ⟨_, _, rfl⟩ .nil), h⟩
    · cases h
  · rename_i c
    obtain ⟨callee, args, tys⟩ := c
    split at h
    · rename_i b hb
      simp only at hb
      subst hb
      unfold evBI at h
      split at h
      · split at h
        · rename_i x hx0
          split at h
          · rename_i T hT0
            have ea : args = #[x] := Array.ext' hx0
            have et : tys = #[T] := Array.ext' hT0
            subst ea
            have hx := g_rd hr x
            split at h
            · rename_i ht
              haveI : Und P T .string := ⟨(ti_ok hT ht).und⟩
              split at h
              · rename_i l hl
                rw [hl] at hx
                exact ⟨_, _, fun _ _ => pu_lens (Rd.str_inv hx) et, .of_rd (.int .nil), h⟩
              · cases h
            · rename_i e0 _ _ _ _ _ ht
              haveI : Und P T (.slice e0) := ⟨(ti_ok hT ht).und⟩
              split at h
              · rename_i e xs hl
                rw [hl] at hx
                obtain ⟨q, cp, hv, hcp, hat⟩ := Rd.at hx
                exact ⟨_, _, fun _ _ => pu_lensl hv et, .of_rd (.int .nil), h⟩
              · rename_i hl
                rw [hl] at hx
                exact ⟨_, _, fun _ _ => pu_lensl (Rd.nil_inv hx) et, .of_rd (.int .nil), h⟩
              · rename_i t hl
                rw [hl] at hx
                split at h
                · rename_i e T' xs hlk
                  obtain ⟨q, n, cp, rows, g1, g2, g3⟩ := hr.look hlk
                  have hx : ev ρ x = (ι t).1 := hx
                  rw [g1] at hx
                  have hml : n = xs.length := by rw [g2.len, ← forall2_len g3]
                  exact ⟨_, _, fun _ _ => pu_lensl hx et, by rw [hml]; exact .of_rd (.int .nil), h⟩
                · cases h
              · rename_i i0 hl
                rw [hl] at hx
                split at h
                · rename_i cl T0 A hs hlk
                  obtain ⟨n, hi, h⟩ := Option.bind_eq_some_iff.1 h
                  obtain ⟨q, n', cp, rows, Lv, e1, e2, e3, e4, e5⟩ := na_at hr hlk hi hx
                  exact ⟨_, _, fun _ _ => pu_lensl e1 et, by rw [e2]; exact .of_rd (.int .nil), h⟩
                · cases h
              · cases h
            · cases h
          · cases h
        · cases h
      · split at h
        · rename_i x y hx0
          have ea : args = #[x, y] := Array.ext' hx0
          subst ea
          have hx := g_rd hr x
          have hy := g_rd hr y
          split at h
          · rename_i k a ha
            split at h
            · rename_i k' b hb
              rw [ha] at hx
              rw [hb] at hy
              cases hk : decide (k = k') with
              | false => rw [hk] at h; cases h
              | true =>
                rw [hk] at h
                have hkk : k = k' := by simpa using hk
                subst hkk
                exact ⟨_, _, fun _ _ => pu_min (Rd.int_inv hx) (Rd.int_inv hy), .of_rd (.int .nil), h⟩
            · cases h
          · cases h
        · cases h
      · split at h
        · rename_i x y hx0
          have ea : args = #[x, y] := Array.ext' hx0
          subst ea
          have hx := g_rd hr x
          have hy := g_rd hr y
          split at h
          · rename_i k a ha
            split at h
            · rename_i k' b hb
              rw [ha] at hx
              rw [hb] at hy
              cases hk : decide (k = k') with
              | false => rw [hk] at h; cases h
              | true =>
                rw [hk] at h
                have hkk : k = k' := by simpa using hk
                subst hkk
                exact ⟨_, _, fun _ _ => pu_max (Rd.int_inv hx) (Rd.int_inv hy), .of_rd (.int .nil), h⟩
            · cases h
          · cases h
        · cases h
      · cases h
    · cases h
  · cases h
theorem evFree_sound {K : D → Option R} {o : Op} (hT : CtOK P C) (hr : Rel F ι s ρ) (hf : freeB s o = true) (h : evPure C s o K = some r) : ∃ v d, (∀ h, Pu P ρ ⟨dst, o, ty, p, af, gd⟩ h v) ∧ RdV F ι d v ∧ K d = some r := by
  unfold freeB at hf
  split at hf
  · rename_i T x lo hi
    split at hf
    · rename_i j0 hl
      simp only [evPure, hl] at h
      have hlo : ∀ {k a n}, (match lo with | none => D.int .i64 n | some y => g s y) = D.int k a → (∀ y, lo = some y → ev ρ y = .int k a) ∧ (lo = none → a = n) := fun {k a n} he => by
        cases lo with
        | none => cases he; exact ⟨fun y hy => (by cases hy), fun _ => rfl⟩
        | some y =>
          simp only at he
          have := g_rd hr y
          rw [he] at this
          exact ⟨fun y' hy => (by cases hy; exact Rd.int_inv this), fun h => (by cases h)⟩
      have hhi : ∀ {k a n}, (match hi with | none => D.int .i64 n | some y => g s y) = D.int k a → (∀ y, hi = some y → ev ρ y = .int k a) ∧ (hi = none → a = n) := fun {k a n} he => by
        cases hi with
        | none => cases he; exact ⟨fun y hy => (by cases hy), fun _ => rfl⟩
        | some y =>
          simp only at he
          have := g_rd hr y
          rw [he] at this
          exact ⟨fun y' hy => (by cases hy; exact Rd.int_inv this), fun h => (by cases h)⟩
      split at h
      · cases h
      · rename_i et _ _ _ _ _ ht
        split at h
        · rename_i te hte
          split at h
          · rename_i cl T0 A hs hlk
            cases hz : (te.size == cl.e.sz) with
            | false => rw [hz] at h; cases h
            | true =>
              rw [hz] at h
              simp only [cond_true] at h
              have hz : te.size = cl.e.sz := by simpa using hz
              obtain ⟨n, hnd, h⟩ := Option.bind_eq_some_iff.1 h
              split at h
              · rename_i k1 a ha
                split at h
                · rename_i k2 b hb
                  have hx := g_rd hr x
                  rw [hl] at hx
                  obtain ⟨q, n', cp, rows, Lv, e1, e2, e3, e4, e5⟩ := na_at hr hlk hnd hx
                  obtain ⟨hds, g1, g2⟩ := hx
                  haveI : Und P T (.slice et) := ⟨(ti_ok hT ht).und⟩
                  haveI : Siz P et cl.e.sz := ⟨fun w => by rw [← hz]; exact (ti_ok hT hte).siz w⟩
                  obtain ⟨m, hm, hk1⟩ := Option.bind_eq_some_iff.1 h
                  obtain ⟨a', b', rfl, rfl, h1, h2, rfl⟩ := subL_some hm
                  obtain ⟨q1, q2⟩ := hlo ha
                  obtain ⟨q3, q4⟩ := hhi hb
                  have hle := e3.le
                  rw [e1] at g2
                  exact ⟨_, _, fun _ => pu_slice_gen (sz := cl.e.sz) e1 (fun y hy => ⟨_, q1 y hy⟩) (fun hn => by have := q2 hn; omega) (fun y hy => ⟨_, q3 y hy⟩) (fun hn => by have := q4 hn; omega) h1 (by omega), .of_w (show RdW F ι (.nas cl.e.sz j0 (a' : Int).toNat (b' : Int).toNat) _ from ⟨hds, q, n', cp, g1, g2, by simpa using h1, by simpa [e2] using h2, by simp⟩), hk1⟩
                · cases h
              · cases h
          · cases h
        · cases h
      · cases h
    · cases hf
  · rename_i xs tys
    split at hf
    · rename_i x hx0
      split at hf
      · rename_i i0 hl
        simp only [evPure] at h
        unfold evBI at h
        simp only [hx0] at h
        split at h
        · rename_i T hT0
          have ea : xs = #[x] := Array.ext' hx0
          have et : tys = #[T] := Array.ext' hT0
          subst ea
          have hx := g_rd hr x
          rw [hl] at hx
          simp only [hl] at h
          split at h
          · cases h
          · rename_i e0 _ _ _ _ _ ht
            haveI : Und P T (.slice e0) := ⟨(ti_ok hT ht).und⟩
            split at h
            · rename_i cl T0 A hs hlk
              obtain ⟨n, hi, h⟩ := Option.bind_eq_some_iff.1 h
              obtain ⟨q, n', cp, rows, Lv, e1, e2, e3, e4, e5⟩ := na_at hr hlk hi hx
              exact ⟨_, _, fun _ => pu_lensl e1 et, by rw [e2]; exact .of_rd (.int .nil), h⟩
            · cases h
          · cases h
        · cases h
      · cases hf
    · cases hf
  · cases hf
end
end Go.Proofs.YtpedmnlpccngiaaDoor.V
