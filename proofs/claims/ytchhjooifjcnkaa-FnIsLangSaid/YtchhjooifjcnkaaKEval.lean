/-
  An evaluator of a function's code over plain data: numbers, texts, lists. What it says is shown in KSound to be what the machine does.
-/
import Derived.Test.YtchhjooifjcnkaaKByt
namespace Go.Proofs.Ytchhjooifjcnkaa.V
open Go

structure Attr where
  key : List UInt8
  val : List UInt8
structure Node where
  kind : Int
  tag : List UInt8
  text : List UInt8
  attrs : List Attr
  size : Int
structure Sel where
  kind : Int
  op : Int
  key : List UInt8
  val : List UInt8
  a : Int
  b : Int
  flag : Int
  size : Int

/-- html.Attribute and html.Node: a node's relatives are told by their numbers. -/
structure HAttr where
  ns : List UInt8
  key : List UInt8
  val : List UInt8
structure HN where
  par : Option Nat
  fst : Option Nat
  lst : Option Nat
  prv : Option Nat
  nxt : Option Nat
  ty : Int
  atom : Int
  data : List UInt8
  ns : List UInt8
  attrs : List HAttr

/-- The fields of small structs. fsel: a selection's address, as its nodes; fnil: that of one without nodes. -/
inductive Fl | int (k : IntKind) | bool | str | np | pnil | nil | ints | strs | bools | nps | hattrs | fsel | fnil
  deriving DecidableEq
abbrev Fl.T : Fl → Type
  | .int _ => Int | .bool => Bool | .str => List UInt8 | .np => Option Nat | .pnil => Unit | .nil => Unit | .ints => List Int | .strs => List (List UInt8) | .bools => List Bool
  | .nps => List (Option Nat) | .hattrs => List HAttr | .fsel => List (Option Nat) | .fnil => Unit
abbrev recT : Fl → List Fl → Type
  | f, [] => f.T
  | f, g :: fs => f.T × recT g fs
/-- The kinds of elements that lists have, and of structs. rec: some fields, and behind them k cells of which nothing is told. -/
inductive E | int | u8 | str | bool | attr | node | sel | hattr | np | rc (f : Fl) (fs : List Fl) (k : Nat)
  deriving DecidableEq
abbrev E.T : E → Type
  | .int => Int | .u8 => UInt8 | .str => List UInt8 | .bool => Bool | .attr => Attr | .node => Node | .sel => Sel | .hattr => HAttr | .np => Option Nat | .rc f fs _ => recT f fs
def E.sz : E → Nat
  | .int => 1 | .u8 => 1 | .str => 1 | .bool => 1 | .attr => 2 | .node => 5 | .sel => 8 | .hattr => 3 | .np => 1 | .rc _ fs k => 1 + fs.length + k
/-- The tags of the store of nodes: of one that is owned, and of one that is only looked at. -/
def NT : Nat := 1000000000
def NTR : Nat := 1000000001

/-- What a slot holds, as data. -/
inductive D
  | u | und
  | int (k : IntKind) (n : Int) | bool (b : Bool) | str (l : List UInt8)
  | nil | lst (e : E) (xs : List e.T) | own (tag : Nat)
  | op (tag off : Nat) | oe (tag sz i off : Nat)
  | fp (ds : List D) (off : Nat) | agg (ds : List D) | tup (ds : List D) | pnil
  | np (o : Option Nat) | nf (i off : Nat) | any | na (i : Nat) | nae (i j off : Nat) | mnil
  | clo (f : FuncId) (ds : List D) | inil | fnl
  deriving Inhabited

def Fl.enc : (f : Fl) → f.T → D
  | .int k, n => .int k n
  | .bool, b => .bool b
  | .str, l => .str l
  | .np, o => .np o
  | .pnil, _ => .pnil
  | .nil, _ => .nil
  | .ints, xs => .lst .int xs
  | .strs, xs => .lst .str xs
  | .bools, xs => .lst .bool xs
  | .nps, xs => .lst .np xs
  | .hattrs, xs => .lst .hattr xs
  | .fsel, xs => .fp [.lst .np xs, .any, .any] 0
  | .fnil, _ => .fp [.nil, .any, .any] 0
def recEnc : (f : Fl) → (fs : List Fl) → recT f fs → List D
  | f, [], x => [f.enc x]
  | f, g :: fs, x => f.enc x.1 :: recEnc g fs x.2
def HN.enc (h : HN) : List D := [.np h.par, .np h.fst, .np h.lst, .np h.prv, .np h.nxt, .int .u32 h.ty, .int .u32 h.atom, .str h.data, .str h.ns]

def E.enc : (e : E) → e.T → List D
  | .int, n => [.int .i64 n]
  | .u8, c => [.int .u8 (c.toNat : Int)]
  | .str, s => [.str s]
  | .bool, b => [.bool b]
  | .attr, a => [.str a.key, .str a.val]
  | .node, n => [.int .i64 n.kind, .str n.tag, .str n.text, .lst .attr n.attrs, .int .i64 n.size]
  | .sel, s => [.int .i64 s.kind, .int .i64 s.op, .str s.key, .str s.val, .int .i64 s.a, .int .i64 s.b, .int .i64 s.flag, .int .i64 s.size]
  | .hattr, a => [.str a.ns, .str a.key, .str a.val]
  | .np, o => [.np o]
  | .rc f fs k, x => recEnc f fs x ++ List.replicate k .any
def D.plain : D → Bool
  | .int _ _ => true | .bool _ => true | .str _ => true | .nil => true | .lst _ _ => true | .pnil => true | .fp _ _ => true | .np _ => true | .any => true | .mnil => true | .clo _ _ => true | .inil => true | .fnl => true
  | _ => false
/-- What stands in one cell. -/
def D.cell : D → Bool
  | .own _ => true | .op _ _ => true
  | d => d.plain
def dPtr : D → Option (Option Nat)
  | .np o => some o
  | .pnil => some none
  | _ => none
def castE (e e' : E) (xs : List e.T) : Option (List e'.T) := if h : e = e' then some (h ▸ xs) else none
def dLst (e : E) : D → Option (List e.T)
  | .lst e' xs => castE e' e xs
  | .nil => some []
  | _ => none
def Fl.dec : (f : Fl) → D → Option f.T
  | .int k, .int k' n => cond (decide (k' = k)) (some n) none
  | .bool, .bool b => some b
  | .str, .str l => some l
  | .np, d => dPtr d
  | .pnil, .pnil => some ()
  | .nil, .nil => some ()
  | .ints, d => dLst .int d
  | .strs, d => dLst .str d
  | .bools, d => dLst .bool d
  | .nps, d => dLst .np d
  | .hattrs, d => dLst .hattr d
  | .fsel, .fp [d, a, b] 0 => cond (a.plain && b.plain) (dLst .np d) none
  | .fnil, .fp [.nil, a, b] 0 => cond (a.plain && b.plain) (some ()) none
  | _, _ => none
def recDec : (f : Fl) → (fs : List Fl) → (k : Nat) → List D → Option (recT f fs)
  | f, [], k, d :: ds => cond (ds.length == k && ds.all D.plain) (f.dec d) none
  | f, g :: fs, k, d :: ds => match f.dec d with
    | none => none
    | some x => match recDec g fs k ds with
      | none => none
      | some y => some (x, y)
  | _, _, _, [] => none
def HN.dec (as : List HAttr) : List D → Option HN
  | [a, b, c, d, e, .int .u32 t, .int .u32 m, .str da, .str n] => (match dPtr a with
    | none => none
    | some a => match dPtr b with
      | none => none
      | some b => match dPtr c with
        | none => none
        | some c => match dPtr d with
          | none => none
          | some d => match dPtr e with
            | none => none
            | some e => some ⟨a, b, c, d, e, t, m, da, n, as⟩)
  | _ => none
/-- A byte, of its number. -/
def byteI (n : Int) : Option UInt8 := if 0 ≤ n ∧ n < 256 then some (UInt8.ofNat n.toNat) else none
def dAttrs : D → Option (List Attr)
  | .lst .attr xs => some xs
  | .nil => some []
  | _ => none
def E.dec : (e : E) → List D → Option e.T
  | .int, [.int .i64 n] => some n
  | .u8, [.int .u8 n] => byteI n
  | .str, [.str s] => some s
  | .bool, [.bool b] => some b
  | .attr, [.str k, .str v] => some ⟨k, v⟩
  | .node, [.int .i64 k, .str tg, .str tx, d, .int .i64 z] => (dAttrs d).bind fun as => some ⟨k, tg, tx, as, z⟩
  | .sel, [.int .i64 k, .int .i64 o, .str ke, .str v, .int .i64 a, .int .i64 b, .int .i64 f, .int .i64 z] => some ⟨k, o, ke, v, a, b, f, z⟩
  | .hattr, [.str n, .str k, .str v] => some ⟨n, k, v⟩
  | .np, [d] => dPtr d
  | .rc f fs k, ds => recDec f fs k ds
  | _, _ => none
/-- A block that the call owns: a list, or a variable's cells. -/
inductive OB
  | rows (e : E) (T : TypeId) (xs : List e.T)
  | cells (T : TypeId) (ds : List D)
  | nodes (T A : TypeId) (hs : List HN) (hole : Option Nat)
  | nodesR (hs : List HN)
  | mp (l : List (Option Nat × Bool))
  | sit (l : List UInt8) (pos : Nat)
/-- np: ghosts of tags from np / 1000 on, below np % 1000, stay. nw: nodes may be made. -/
structure St where
  n : Nat
  np : Nat
  nw : Bool
  sl : Nat → D
  ow : List (Nat × OB)

def St.look (s : St) (t : Nat) : Option OB := (s.ow.find? fun p => p.1 == t).map (·.2)
def St.set (s : St) (t : Nat) (d : D) : St := { s with sl := fun i => cond (i == t) d (s.sl i) }
/-- Nobody speaks of a tag any more. -/
def D.purge1 (t : Nat) : D → D
  | .own t' => cond (t' == t) .u (.own t')
  | .op t' o => cond (t' == t) .u (.op t' o)
  | .oe t' z i o => cond (t' == t) .u (.oe t' z i o)
  | .na i => cond (NT == t) .u (.na i)
  | .nae i j o => cond (NT == t) .u (.nae i j o)
  | d => d
def D.purge (t : Nat) : D → D
  | .tup ds => .tup (ds.map (D.purge1 t))
  | d => d.purge1 t
def OB.purge (t : Nat) : OB → OB
  | .cells T ds => .cells T (ds.map (D.purge1 t))
  | b => b
def St.purge (s : St) (t : Nat) : St := ⟨s.n, s.np, s.nw, fun i => (s.sl i).purge t, (s.ow.filter fun p => !(p.1 == t)).map fun p => (p.1, p.2.purge t)⟩
def St.put (s : St) (d : Option Tmp) (x : D) : Option St :=
  match d with
  | none => some s
  | some t => cond (Nat.blt t s.n) (some (s.set t x)) none
/-- A block that is made: its tag is the slot's number. -/
def St.make (s : St) (t : Nat) (b : OB) : St := ⟨s.n, s.np, s.nw, s.sl, (t, b) :: s.ow⟩
def St.upd (s : St) (t : Nat) (b : OB) : St := ⟨s.n, s.np, s.nw, s.sl, s.ow.map fun p => cond (p.1 == t) (t, b) p⟩

inductive Sh | bool | int (k : IntKind) | str | slice (e : TypeId) | struct (fs : List (TypeId × Nat)) | ptr (e : TypeId) | map (k v : TypeId) | iface | func | other
structure TI where
  sh : Sh
  size : Nat
  agg : Bool
  zv : Value
  bytes : Nat
  el : Option E

def ofVal : Value → D
  | .int k n => .int k n
  | .bool b => .bool b
  | .string s => .str s.data.toList
  | .slice none 0 0 => .nil
  | .pointer none => .pnil
  | .map none => .mnil
  | .nilIface => .inil
  | .nilFunc => .fnl
  | _ => .u

/-- What a function that is handed on has captured: variables that nobody changes. -/
abbrev esT : List E → Type
  | [] => Unit
  | [e] => e.T
  | e :: e' :: es => e.T × esT (e' :: es)
def esEnc : (es : List E) → esT es → List D
  | [], _ => []
  | [e], x => [.fp (e.enc x) 0]
  | e :: e' :: es, x => .fp (e.enc x.1) 0 :: esEnc (e' :: es) x.2
def esDec : (es : List E) → List D → Option (esT es)
  | [], [] => some ()
  | [e], [.fp ds 0] => e.dec ds
  | e :: e' :: es, .fp ds 0 :: r => match e.dec ds with
    | none => none
    | some x => match esDec (e' :: es) r with
      | none => none
      | some y => some (x, y)
  | _, _ => none
/-- What a slot is, where its kind is known. -/
inductive Kd | int (k : IntKind) | bool | str | lst (e : E) | el (e : E) | own (e : E) (T : TypeId) | blk (e : E) (T : TypeId) | np | any | mnil | emp | fp (e : E) | ns (T A : TypeId) | nsr | clo (f : FuncId) (es : List E) | intc (k : IntKind) (n : Int) | inil | fnl | al (j : Nat) | mp | sit
abbrev Kd.T : Kd → Type
  | .int _ => Int | .bool => Bool | .str => List UInt8 | .lst e => List e.T | .el e => e.T | .own e _ => List e.T | .blk e _ => e.T
  | .np => Option Nat | .any => Unit | .mnil => Unit | .emp => Unit | .fp e => e.T | .ns _ _ => List HN | .nsr => List HN | .clo _ es => esT es | .intc _ _ => Unit | .inil => Unit | .fnl => Unit | .al _ => Unit | .mp => List (Option Nat × Bool) | .sit => List UInt8 × Nat
/-- Slots and their kinds. -/
abbrev Pt := List (Nat × Kd)
abbrev Tup : Pt → Type
  | [] => Unit
  | [p] => p.2.T
  | p :: q :: ps => p.2.T × Tup (q :: ps)
abbrev SumT : List Pt → Type
  | [] => Empty
  | [p] => Tup p
  | p :: q :: ps => Tup p ⊕ SumT (q :: ps)

/-- A function that is known: what it takes, what it hands back, and what it computes. pin: the arguments 0, 1 .., and NT or NTR: the nodes. pout: the answers 0, 1 .., 1000 + i: what argument i holds behind the call, NT: the nodes. np: the arguments below it keep their ghosts. -/
structure Ent where
  np : Nat
  pin : Pt
  pout : Pt
  m : Tup pin → Option (Tup pout)
inductive Xt | nm | ex (id : Nat) | rt
  deriving DecidableEq
/-- A loop that is known: the slots at its head, and at its exits. -/
structure LEnt where
  pin : Pt
  exits : List (Xt × Pt)
  m : Tup pin → Option (SumT (exits.map (·.2)))

structure Cx where
  tb : List (Option TI)
  fns : FuncId → Option Ent

def atI {α : Type} (l : List α) (i : Int) : Option α := if 0 ≤ i then l[i.toNat]? else none
def subL {α : Type} (l : List α) (lo hi : Int) : Option (List α) := if 0 ≤ lo ∧ lo ≤ hi ∧ hi ≤ l.length then some ((l.take hi.toNat).drop lo.toNat) else none
def catS (l m : List UInt8) : Option (List UInt8) := if l.length + m.length ≤ 9223372036854775807 then some (l ++ m) else none
def appL {α : Type} (l m : List α) : Option (List α) := if l.length + m.length ≤ 2147483648 then some (l ++ m) else none
def divI (k : IntKind) (a b : Int) : Option Int := if b = 0 then none else some (IntKind.wrap k (a.tdiv b))
def remI (a b : Int) : Option Int := if b = 0 then none else some (a.tmod b)
def shlI (k : IntKind) (a b : Int) : Option Int := if b < 0 then none else some (IntKind.wrap k (a * 2 ^ min b.toNat k.bits))
def shrI (k : IntKind) (a b : Int) : Option Int := if b < 0 then none else some (a.fdiv (2 ^ min b.toNat k.bits))
/-- A map of nodes. -/
def mget : List (Option Nat × Bool) → Option Nat → Bool
  | [], _ => false
  | (k, v) :: l, o => if o = k then v else mget l o
def mput : List (Option Nat × Bool) → Option Nat → Bool → List (Option Nat × Bool)
  | [], o, b => [(o, b)]
  | (k, v) :: l, o, b => if o = k then (o, b) :: l else (k, v) :: mput l o b
/-- The character at a place of a text, and how many bytes it takes. -/
def dec8 (l : List UInt8) (i : Nat) : Nat × Nat := Utf8.decode ⟨l.toArray⟩ i
def andI (k : IntKind) (a b : Int) : Int := IntKind.wrap k (((a % 2 ^ k.bits).toNat &&& (b % 2 ^ k.bits).toNat : Nat) : Int)
def orI (k : IntKind) (a b : Int) : Int := IntKind.wrap k (((a % 2 ^ k.bits).toNat ||| (b % 2 ^ k.bits).toNat : Nat) : Int)

section
variable (C : Cx) {R : Type}

def g (s : St) : Operand → D
  | .tmp t => s.sl t
  | .const v => ofVal v
  | _ => .u
def ti (T : TypeId) : Option TI := (C.tb[T]?).join

def evInt (op : BinOp) (k : IntKind) (a b : Int) (K : D → Option R) : Option R :=
  match op with
  | .add => K (.int k (k.wrap (a + b)))
  | .sub => K (.int k (k.wrap (a - b)))
  | .mul => K (.int k (k.wrap (a * b)))
  | .eql => K (.bool (decide (a = b)))
  | .neq => K (.bool (decide (a ≠ b)))
  | .lss => K (.bool (decide (a < b)))
  | .leq => K (.bool (decide (a ≤ b)))
  | .gtr => K (.bool (decide (b < a)))
  | .geq => K (.bool (decide (b ≤ a)))
  | .and => K (.int k (andI k a b))
  | .or => K (.int k (orI k a b))
  | .quo => (divI k a b).bind fun n => K (.int k n)
  | .rem => (remI a b).bind fun n => K (.int k n)
  | _ => none
def evEq (op : BinOp) (b : Bool) (K : D → Option R) : Option R :=
  match op with
  | .eql => K (.bool b)
  | .neq => K (.bool (!b))
  | _ => none
def evBin (op : BinOp) (T : TypeId) (x y : D) (K : D → Option R) : Option R :=
  match x with
  | .int k a => (match y with
    | .int k' b => (match op with
      | .shl => (shlI k a b).bind fun n => K (.int k n)
      | .shr => (shrI k a b).bind fun n => K (.int k n)
      | op => cond (decide (k = k')) (evInt op k a b K) none)
    | _ => none)
  | .str l => (match y with
    | .str m => (match op with
      | .eql => K (.bool (decide (l = m)))
      | .neq => K (.bool (decide (l ≠ m)))
      | .add => (catS l m).bind fun r => K (.str r)
      | _ => none)
    | _ => none)
  | .bool a => (match y with
    | .bool b => (match ti C T with
      | some ⟨.bool, _, _, _, _, _⟩ => evEq op (a == b) K
      | _ => none)
    | _ => none)
  | .np o => (match ti C T with
    | some ⟨.ptr e, _, _, _, _, _⟩ => (match ti C e with
      | some te => cond (Nat.blt 0 te.size) (match y with
        | .np o' => evEq op (decide (o = o')) K
        | .pnil => evEq op o.isNone K
        | _ => none) none
      | none => none)
    | _ => none)
  | .fp _ _ => (match ti C T with
    | some ⟨.ptr _, _, _, _, _, _⟩ => (match y with
      | .pnil => evEq op false K
      | _ => none)
    | _ => none)
  | .op _ _ => (match ti C T with
    | some ⟨.ptr _, _, _, _, _, _⟩ => (match y with
      | .pnil => evEq op false K
      | _ => none)
    | _ => none)
  | .pnil => (match ti C T with
    | some ⟨.ptr _, _, _, _, _, _⟩ => (match y with
      | .np o' => evEq op o'.isNone K
      | .pnil => evEq op true K
      | _ => none)
    | _ => none)
  | .mnil => (match ti C T with
    | some ⟨.map _ _, _, _, _, _, _⟩ => (match y with
      | .mnil => evEq op true K
      | _ => none)
    | _ => none)
  | .fnl => (match ti C T with
    | some ⟨.func, _, _, _, _, _⟩ => (match y with
      | .fnl => evEq op true K
      | _ => none)
    | _ => none)
  | .clo _ _ => (match ti C T with
    | some ⟨.func, _, _, _, _, _⟩ => (match y with
      | .fnl => evEq op false K
      | _ => none)
    | _ => none)
  | _ => none

/-- In the place of a list that was owned stands what it reads as. -/
def D.frz1 (y : D) (t : Nat) (d : D) : D :=
  match y with
  | .own t' => cond (t' == t) d (.own t')
  | .op t' o => cond (t' == t) (match d with
    | .fp ds _ => .fp ds o
    | _ => .u) (.op t' o)
  | .oe t' z i o => cond (t' == t) .u (.oe t' z i o)
  | .na i => cond (NT == t) .u (.na i)
  | .nae i j o => cond (NT == t) .u (.nae i j o)
  | x => x
def D.frz (y : D) (t : Nat) (d : D) : D :=
  match y with
  | .tup ds => .tup (ds.map (fun x => x.frz1 t d))
  | x => x.frz1 t d
def OB.frz (t : Nat) (d : D) : OB → OB
  | .cells T ds => .cells T (ds.map (fun x => x.frz1 t d))
  | b => b
def St.freeze (s : St) (t : Nat) (d : D) : St := ⟨s.n, s.np, s.nw, fun i => (s.sl i).frz t d, (s.ow.filter fun p => !(p.1 == t)).map fun p => (p.1, OB.frz t d p.2)⟩

/-- The nodes, as they are; own: those that the call owns. -/
def St.nodes (s : St) : Option (Bool × List HN) :=
  match s.look NTR with
  | some (.nodesR hs) => some (false, hs)
  | _ => match s.look NT with
    | some (.nodes _ _ hs _) => some (true, hs)
    | _ => none
def rdCells (ds : List D) (off : Nat) (i : TI) (K : D → Option R) : Option R :=
  cond i.agg
    (cond (Nat.ble (off + i.size) ds.length && ((ds.drop off).take i.size).all D.plain) (K (.agg ((ds.drop off).take i.size))) none)
    (match ds[off]? with
     | some d => K d
     | none => none)
def placed (fs : List (TypeId × Nat)) (C : Cx) : List (Nat × D) → List D → Option (List D)
  | [], z => some z
  | (i, d) :: r, z => match fs[i]? with
    | none => none
    | some (ft, fo) => match (C.tb[ft]?).join with
      | none => none
      | some t => match d with
        | .agg l => cond (l.length == t.size && Nat.ble (fo + t.size) z.length && l.all D.plain) (placed fs C r (z.take fo ++ l ++ z.drop (fo + t.size))) none
        | d => cond (t.size == 1 && Nat.blt fo z.length && d.plain) (placed fs C r (z.set fo d)) none

def evBI (s : St) (b : Builtin) (xs : List Operand) (ts : List TypeId) (K : D → Option R) : Option R :=
  match b with
  | .len => (match xs with
    | [x] => (match ts with
      | [T] => (match ti C T with
        | some ⟨.str, _, _, _, _, _⟩ => (match g s x with
          | .str l => K (.int .i64 (l.length : Int))
          | _ => none)
        | some ⟨.slice _, _, _, _, _, _⟩ => (match g s x with
          | .lst _ xs => K (.int .i64 (xs.length : Int))
          | .nil => K (.int .i64 0)
          | .own t => (match s.look t with
            | some (.rows _ _ xs) => K (.int .i64 (xs.length : Int))
            | _ => none)
          | .na i => (match s.look NT with
            | some (.nodes _ _ hs none) => (hs[i]?).bind fun h => K (.int .i64 (h.attrs.length : Int))
            | _ => none)
          | _ => none)
        | _ => none)
      | _ => none)
    | _ => none)
  | .min => (match xs with
    | [x, y] => (match g s x with
      | .int k a => (match g s y with
        | .int k' b => cond (decide (k = k')) (K (.int k (if b < a then b else a))) none
        | _ => none)
      | _ => none)
    | _ => none)
  | .max => (match xs with
    | [x, y] => (match g s x with
      | .int k a => (match g s y with
        | .int k' b => cond (decide (k = k')) (K (.int k (if a < b then b else a))) none
        | _ => none)
      | _ => none)
    | _ => none)
  | _ => none

/-- Operations that change nothing. -/
def evPure (s : St) (o : Op) (K : D → Option R) : Option R :=
  match o with
  | .move x => K (g s x)
  | .assign x => K (g s x)
  | .pick c x y => (match g s c with
    | .bool b => cond b (K (g s x)) (K (g s y))
    | _ => none)
  | .binOp op T x y _ => (match y with
    | .const .nilIface => (match g s x with
      | .inil => (match ti C T with
        | some ⟨.iface, _, _, _, _, _⟩ => evEq op true K
        | _ => none)
      | _ => none)
    | .const (.map none) => (match ti C T with
      | some ⟨.map _ _, _, _, _, _, _⟩ => (match g s x with
        | .mnil => evEq op true K
        | .own t => (match s.look t with
          | some (.mp _) => evEq op false K
          | _ => none)
        | _ => none)
      | _ => none)
    | _ => evBin C op T (g s x) (g s y) K)
  | .unOp .not _ x => (match g s x with
    | .bool b => K (.bool (!b))
    | _ => none)
  | .unOp .neg _ x => (match g s x with
    | .int k n => K (.int k (k.wrap (0 - n)))
    | _ => none)
  | .extract x i => (match g s x with
    | .tup l => (match l[i]? with
      | some d => K d
      | none => none)
    | _ => none)
  | .index T x y => (match ti C T with
    | some ⟨.str, _, _, _, _, _⟩ => (match g s x with
      | .str l => (match g s y with
        | .int _ i => (atI l i).bind fun c => K (.int .u8 (c.toNat : Int))
        | _ => none)
      | _ => none)
    | _ => none)
  | .indexAddr T x y => (match ti C T with
    | some ⟨.slice et, _, _, _, _, _⟩ => (match ti C et with
      | some te => (match g s y with
        | .int _ i => (match g s x with
          | .lst e xs => cond (te.size == e.sz) ((atI xs i).bind fun v => K (.fp (e.enc v) 0)) none
          | .own t => (match s.look t with
            | some (.rows e _ xs) => cond (te.size == e.sz) ((atI xs i).bind fun _ => K (.oe t e.sz i.toNat 0)) none
            | _ => none)
          | .na j => (match s.look NT with
            | some (.nodes _ _ hs none) => cond (te.size == 3) ((hs[j]?).bind fun h => (atI h.attrs i).bind fun _ => K (.nae j i.toNat 0)) none
            | _ => none)
          | _ => none)
        | _ => none)
      | none => none)
    | _ => none)
  | .fieldAddr T x i => (match ti C T with
    | some ⟨.struct fs, _, _, _, _, _⟩ => (match fs[i]? with
      | some (ft, fo) => (match ti C ft with
        | some t => cond (Nat.blt 0 t.size) (match g s x with
          | .fp ds off => K (.fp ds (off + fo))
          | .op t off => K (.op t (off + fo))
          | .oe t z j off => K (.oe t z j (off + fo))
          | .np o => o.bind fun i => K (.nf i fo)
          | .nae i j off => K (.nae i j (off + fo))
          | _ => none) none
        | none => none)
      | none => none)
    | _ => none)
  | .load T x => (match ti C T with
    | some t => (match g s x with
      | .fp ds off => rdCells ds off t K
      | .op b off => (match s.look b with
        | some (.cells _ ds) => rdCells ds off t K
        | _ => none)
      | .oe b z i off => (match s.look b with
        | some (.rows e _ xs) => cond (z == e.sz) ((xs[i]?).bind fun v => rdCells (e.enc v) off t K) none
        | _ => none)
      | .nf i off => (match s.nodes with
        | some (own, hs) => cond t.agg none (cond (off == 9) ((hs[i]?).bind fun h => cond own (K (.na i)) (K (.lst .hattr h.attrs))) ((hs[i]?).bind fun h => rdCells h.enc off t K))
        | none => none)
      | .nae i j off => (match s.look NT with
        | some (.nodes _ _ hs none) => (hs[i]?).bind fun h => (h.attrs[j]?).bind fun a => rdCells (E.hattr.enc a) off t K
        | _ => none)
      | _ => none)
    | none => none)
  | .nilCheck x => (match g s x with
    | .fp ds off => K (.fp ds off)
    | .op t off => K (.op t off)
    | .np o => o.bind fun i => K (.np (some i))
    | .nae i j off => K (.nae i j off)
    | .oe t z i off => K (.oe t z i off)
    | _ => none)
  | .field T x i => (match ti C T with
    | some ⟨.struct fs, _, _, _, _, _⟩ => (match fs[i]? with
      | some (ft, fo) => (match ti C ft with
        | some t => (match g s x with
          | .agg ds => cond t.agg none (rdCells ds fo t K)
          | _ => none)
        | none => none)
      | none => none)
    | _ => none)
  | .build T parts => (match ti C T with
    | some ⟨.struct fs, _, _, z, _, _⟩ => cond (fs.all fun f => (C.tb[f.1]?).join.isSome) (match placed fs C (parts.toList.map fun p => (p.1, g s p.2)) (z.cells.toList.map ofVal) with
      | some ds => cond (ds.all D.plain) (K (.agg ds)) none
      | none => none) none
    | _ => none)
  | .slice T x lo hi .none => (match ti C T with
    | some ⟨.str, _, _, _, _, _⟩ => (match g s x with
      | .str l => (match (match lo with | none => D.int .i64 0 | some y => g s y) with
        | .int _ a => (match (match hi with | none => D.int .i64 (l.length : Int) | some y => g s y) with
          | .int _ b => (subL l a b).bind fun m => K (.str m)
          | _ => none)
        | _ => none)
      | _ => none)
    | some ⟨.slice et, _, _, _, _, _⟩ => (match ti C et with
      | some te => (match g s x with
        | .lst e xs => cond (te.size == e.sz) (match (match lo with | none => D.int .i64 0 | some y => g s y) with
          | .int _ a => (match (match hi with | none => D.int .i64 (xs.length : Int) | some y => g s y) with
            | .int _ b => (subL xs a b).bind fun m => K (.lst e m)
            | _ => none)
          | _ => none) none
        | _ => none)
      | none => none)
    | _ => none)
  | .convert S T x => (match ti C S with
    | some ⟨.int _, _, _, _, _, _⟩ => (match ti C T with
      | some ⟨.int k, _, _, _, _, _⟩ => (match g s x with
        | .int _ a => K (.int k (k.wrap a))
        | _ => none)
      | _ => none)
    | some ⟨.slice et, _, _, _, _, _⟩ => (match ti C et with
      | some ⟨.int .u8, 1, _, _, _, _⟩ => (match ti C T with
        | some ⟨.str, _, _, _, _, _⟩ => (match g s x with
          | .nil => K (.str [])
          | .lst e xs => (castE e .u8 xs).bind fun xs => K (.str xs)
          | .own t => (match s.look t with
            | some (.rows e _ xs) => (castE e .u8 xs).bind fun xs => K (.str xs)
            | _ => none)
          | _ => none)
        | _ => none)
      | _ => none)
    | _ => none)
  | .lookup T x y false => (match ti C T with
    | some ⟨.map kt vt, _, _, _, _, _⟩ => (match ti C kt with
      | some ⟨.ptr e, _, _, _, _, _⟩ => (match ti C e with
        | some te => cond (Nat.blt 0 te.size) (match ti C vt with
          | some ⟨.bool, _, _, .bool false, _, _⟩ => (match dPtr (g s y) with
            | some o => (match g s x with
              | .mnil => K (.bool false)
              | .own t => (match s.look t with
                | some (.mp l) => K (.bool (mget l o))
                | _ => none)
              | _ => none)
            | none => none)
          | _ => none) none
        | none => none)
      | _ => none)
    | _ => none)
  | .makeFunc (.func f) fs cs => cond (fs.isEmpty && (cs.toList.map (g s)).all D.plain) (K (.clo f (cs.toList.map (g s)))) none
  | .call c => (match c.callee with
    | .builtin b => evBI C s b c.args.toList c.argTypes.toList K
    | _ => none)
  | _ => none
end
end Go.Proofs.Ytchhjooifjcnkaa.V
