/-
  An evaluator of a function's code over plain data: numbers, texts, lists. What it says is shown in KSound to be what the machine does.
-/
import Derived.Test.YtpedmnlpccngiaaDoorKGl
set_option linter.unusedVariables false
set_option linter.unusedSimpArgs false
namespace Go.Proofs.YtpedmnlpccngiaaDoor.V
open Go

structure Attr where
  key : List UInt8
  val : List UInt8
structure Node where
  kind : Int
  tag : List UInt8
  text : List UInt8
  attrs : List Attr
  size : Int
structure Sel where
  kind : Int
  op : Int
  key : List UInt8
  val : List UInt8
  a : Int
  b : Int
  flag : Int
  size : Int

/-- html.Attribute and html.Node: a node's relatives are told by their numbers. -/
structure HAttr where
  ns : List UInt8
  key : List UInt8
  val : List UInt8
structure HN where
  par : Option Nat
  fst : Option Nat
  lst : Option Nat
  prv : Option Nat
  nxt : Option Nat
  ty : Int
  atom : Int
  data : List UInt8
  ns : List UInt8
  attrs : List HAttr

/-- A node of a tree that changes: its place, what it is, what stands above it and beneath it. -/
structure KN where
  pl : Int
  n : Node
  up : Option Nat
  kids : List (Option Nat)

/-- The fields of small structs. fsel: a selection's address, as its nodes; fnil: that of one without nodes; clon: a function that has captured no interface, and nodes. -/
inductive Fl | int (k : IntKind) | bool | str | np | pnil | nil | ints | strs | bools | nps | hattrs | nodes | fsel | fnil | inil | fnl | any | clon (f : FuncId)
  deriving DecidableEq
abbrev Fl.T : Fl → Type
  | .int _ => Int | .bool => Bool | .str => List UInt8 | .np => Option Nat | .pnil => Unit | .nil => Unit | .ints => List Int | .strs => List (List UInt8) | .bools => List Bool
  | .nps => List (Option Nat) | .hattrs => List HAttr | .nodes => List Node | .fsel => List (Option Nat) | .fnil => Unit | .inil => Unit | .fnl => Unit | .any => Unit | .clon _ => List (Option Nat)
abbrev recT : Fl → List Fl → Type
  | f, [] => f.T
  | f, g :: fs => f.T × recT g fs
/-- The kinds of elements that lists have, and of structs. rec: some fields, and behind them k cells of which nothing is told. -/
inductive E | int | u8 | str | bool | attr | node | sel | hattr | np | rc (f : Fl) (fs : List Fl) (k : Nat)
  deriving DecidableEq
abbrev E.T : E → Type
  | .int => Int | .u8 => UInt8 | .str => List UInt8 | .bool => Bool | .attr => Attr | .node => Node | .sel => Sel | .hattr => HAttr | .np => Option Nat | .rc f fs _ => recT f fs
def E.sz : E → Nat
  | .int => 1 | .u8 => 1 | .str => 1 | .bool => 1 | .attr => 2 | .node => 5 | .sel => 8 | .hattr => 3 | .np => 1 | .rc _ fs k => 1 + fs.length + k
abbrev E.rune : E := .rc (.int .i32) [] 0
/-- The tags of the store of nodes: of one that is owned, and of one that is only looked at. -/
def uT : TypeId := 5
def NT : Nat := 1000000000
def NTR : Nat := 1000000001
/-- The tags of what stands in the fields of variables. -/
def SB : Nat := 2000000000
def subT (i j : Nat) : Nat := SB + 64 * i + j

/-- An interface's value of type T that holds a pointer to a variable is told as a function value of number ifN T; a method of such a value as one of number mtN T c. -/
def IFB : Nat := 500000000
def ifN (T : Nat) : Nat := IFB + 2 * T
def mtN (T c : Nat) : Nat := IFB + 2 * (16 * T + c) + 1
def mname : Nat → String
  | 0 => "WriteString"
  | 1 => "WriteByte"
  | _ => "Write"
def mcode (n : String) : Nat := if n = "WriteString" then 0 else if n = "WriteByte" then 1 else 2
/-- A map of a package: whether a text is in it. -/
def gmem (g : Nat) (k : List UInt8) : Bool := match GT g with
  | some (.mp l) => l.contains k
  | _ => false

/-- What a slot holds, as data. -/
inductive D
  | u | und
  | int (k : IntKind) (n : Int) | bool (b : Bool) | str (l : List UInt8)
  | nil | lst (e : E) (xs : List e.T) | own (tag : Nat)
  | op (tag off : Nat) | oe (tag sz i off : Nat)
  | fp (ds : List D) (off : Nat) | agg (ds : List D) | tup (ds : List D) | pnil
  | np (o : Option Nat) | nf (i off : Nat) | any | na (i : Nat) | nae (z i j off : Nat) | nas (z i a b : Nat) | mnil
  | clo (f : FuncId) (ds : List D) | inil | fnl | aggo (ds : List D) (tag : Nat)
  | clov (f : FuncId) (tag : Nat) (ds : List D) | err (b : Bool) | opb (tag : Nat) (b : Bool) | ifc (T : TypeId) (ds : List D) | aggh (tag : Nat) (ds : List D) | nap (o : Option (Nat × Nat)) | gm (g : Nat)
  deriving Inhabited

def Fl.enc : (f : Fl) → f.T → D
  | .int k, n => .int k n
  | .bool, b => .bool b
  | .str, l => .str l
  | .np, o => .np o
  | .pnil, _ => .pnil
  | .nil, _ => .nil
  | .ints, xs => .lst .int xs
  | .strs, xs => .lst .str xs
  | .bools, xs => .lst .bool xs
  | .nps, xs => .lst .np xs
  | .hattrs, xs => .lst .hattr xs
  | .nodes, xs => .lst .node xs
  | .fsel, xs => .fp [.lst .np xs, .any, .any] 0
  | .fnil, _ => .fp [.nil, .any, .any] 0
  | .inil, _ => .inil
  | .fnl, _ => .fnl
  | .any, _ => .any
  | .clon f, xs => .clo f [.fp [.inil] 0, .fp [.lst .np xs] 0]
def recEnc : (f : Fl) → (fs : List Fl) → recT f fs → List D
  | f, [], x => [f.enc x]
  | f, g :: fs, x => f.enc x.1 :: recEnc g fs x.2
def HN.enc (h : HN) : List D := [.np h.par, .np h.fst, .np h.lst, .np h.prv, .np h.nxt, .int .u32 h.ty, .int .u32 h.atom, .str h.data, .str h.ns]

def E.enc : (e : E) → e.T → List D
  | .int, n => [.int .i64 n]
  | .u8, c => [.int .u8 (c.toNat : Int)]
  | .str, s => [.str s]
  | .bool, b => [.bool b]
  | .attr, a => [.str a.key, .str a.val]
  | .node, n => [.int .i64 n.kind, .str n.tag, .str n.text, .lst .attr n.attrs, .int .i64 n.size]
  | .sel, s => [.int .i64 s.kind, .int .i64 s.op, .str s.key, .str s.val, .int .i64 s.a, .int .i64 s.b, .int .i64 s.flag, .int .i64 s.size]
  | .hattr, a => [.str a.ns, .str a.key, .str a.val]
  | .np, o => [.np o]
  | .rc f fs k, x => recEnc f fs x ++ List.replicate k .any
def D.plain : D → Bool
  | .int _ _ => true | .bool _ => true | .str _ => true | .nil => true | .lst _ _ => true | .pnil => true | .fp _ _ => true | .np _ => true | .any => true | .mnil => true | .clo _ _ => true | .inil => true | .fnl => true | .err _ => true | .ifc _ _ => true | .gm _ => true
  | _ => false
/-- What stands in one cell. -/
def D.cell : D → Bool
  | .own _ => true | .op _ _ => true
  | d => d.plain
def dPtr : D → Option (Option Nat)
  | .np o => some o
  | .pnil => some none
  | _ => none
def castE (e e' : E) (xs : List e.T) : Option (List e'.T) := if h : e = e' then some (h ▸ xs) else none
def dLst (e : E) : D → Option (List e.T)
  | .lst e' xs => castE e' e xs
  | .nil => some []
  | _ => none
def Fl.dec : (f : Fl) → D → Option f.T
  | .int k, .int k' n => cond (decide (k' = k)) (some n) none
  | .bool, .bool b => some b
  | .str, .str l => some l
  | .np, d => dPtr d
  | .pnil, .pnil => some ()
  | .nil, .nil => some ()
  | .ints, d => dLst .int d
  | .strs, d => dLst .str d
  | .bools, d => dLst .bool d
  | .nps, d => dLst .np d
  | .hattrs, d => dLst .hattr d
  | .nodes, d => dLst .node d
  | .fsel, .fp [d, a, b] 0 => cond (a.plain && b.plain) (dLst .np d) none
  | .fnil, .fp [.nil, a, b] 0 => cond (a.plain && b.plain) (some ()) none
  | .inil, .inil => some ()
  | .fnl, .fnl => some ()
  | .any, d => cond d.plain (some ()) none
  | .clon f, .clo f' [.fp [.inil] 0, .fp [d] 0] => cond (decide (f' = f)) (dLst .np d) none
  | _, _ => none
def recDec : (f : Fl) → (fs : List Fl) → (k : Nat) → List D → Option (recT f fs)
  | f, [], k, d :: ds => cond (ds.length == k && ds.all D.plain) (f.dec d) none
  | f, g :: fs, k, d :: ds => match f.dec d with
    | none => none
    | some x => match recDec g fs k ds with
      | none => none
      | some y => some (x, y)
  | _, _, _, [] => none
def HN.dec (as1 : List HAttr) : List D → Option HN
  | [a, b, c, d, e, .int .u32 t, .int .u32 m, .str da, .str n] => (match dPtr a with
    | none => none
    | some a => match dPtr b with
      | none => none
      | some b => match dPtr c with
        | none => none
        | some c => match dPtr d with
          | none => none
          | some d => match dPtr e with
            | none => none
            | some e => some ⟨a, b, c, d, e, t, m, da, n, as1⟩)
  | _ => none
def dAttrs : D → Option (List Attr)
  | .lst .attr xs => some xs
  | .nil => some []
  | _ => none
/-- What nodes are made of: cells, and behind them a list. -/
inductive Cl | h | k
  deriving DecidableEq
abbrev Cl.R : Cl → Type
  | .h => HN | .k => KN
def Cl.n : Cl → Nat
  | .h => 9 | .k => 7
abbrev Cl.e : Cl → E
  | .h => .hattr | .k => .np
def Cl.xs : (c : Cl) → c.R → List c.e.T
  | .h, x => x.attrs
  | .k, x => x.kids
def HN.wa (x : HN) (xs : List HAttr) : HN := ⟨x.par, x.fst, x.lst, x.prv, x.nxt, x.ty, x.atom, x.data, x.ns, xs⟩
def KN.wk (x : KN) (xs : List (Option Nat)) : KN := ⟨x.pl, x.n, x.up, xs⟩
def Cl.wx : (c : Cl) → c.R → List c.e.T → c.R
  | .h, x, xs => x.wa xs
  | .k, x, xs => x.wk xs
def KN.enc (h : KN) : List D := [.int .i64 h.pl, .int .i64 h.n.kind, .str h.n.tag, .str h.n.text, .lst .attr h.n.attrs, .int .i64 h.n.size, .np h.up]
def Cl.enc : (c : Cl) → c.R → List D
  | .h, x => x.enc
  | .k, x => x.enc
def KN.dec (l : List (Option Nat)) : List D → Option KN
  | [.int .i64 a, .int .i64 k, .str tg, .str tx, d, .int .i64 z, p] => (match dAttrs d with
    | none => none
    | some as1 => match dPtr p with
      | none => none
      | some o => some ⟨a, ⟨k, tg, tx, as1, z⟩, o, l⟩)
  | _ => none
def Cl.dec : (c : Cl) → List c.e.T → List D → Option c.R
  | .h, as1, ds => HN.dec as1 ds
  | .k, as1, ds => KN.dec as1 ds
def Cl.cast (c c' : Cl) (hs : List c.R) : Option (List c'.R) := if e : c = c' then some (e ▸ hs) else none
/-- A byte, of its number. -/
def byteI (n : Int) : Option UInt8 := if 0 ≤ n ∧ n < 256 then some (UInt8.ofNat n.toNat) else none
def E.dec : (e : E) → List D → Option e.T
  | .int, [.int .i64 n] => some n
  | .u8, [.int .u8 n] => byteI n
  | .str, [.str s] => some s
  | .bool, [.bool b] => some b
  | .attr, [.str k, .str v] => some ⟨k, v⟩
  | .node, [.int .i64 k, .str tg, .str tx, d, .int .i64 z] => (dAttrs d).bind fun as1 => some ⟨k, tg, tx, as1, z⟩
  | .sel, [.int .i64 k, .int .i64 o, .str ke, .str v, .int .i64 a, .int .i64 b, .int .i64 f, .int .i64 z] => some ⟨k, o, ke, v, a, b, f, z⟩
  | .hattr, [.str n, .str k, .str v] => some ⟨n, k, v⟩
  | .np, [d] => dPtr d
  | .rc f fs k, ds => recDec f fs k ds
  | _, _ => none
/-- The element that new lists hold. -/
def zeroE : (e : E) → List D → Option e.T
  | .u8, [.int .u8 0] => some 0
  | e, ds => e.dec ds
theorem zeroE_dec {e : E} {ds : List D} {v : e.T} (h : zeroE e ds = some v) : e.dec ds = some v := by
  unfold zeroE at h
  split at h
  · cases h; rfl
  · exact h
/-- The fields of a variable that is owned: a list that is owned, too; the variable's own address, or nil. -/
inductive FX | fl (f : Fl) | own | self
abbrev FX.T : FX → Type
  | .fl f => f.T | .own => Unit | .self => Bool
abbrev fxT : List FX → Type
  | [] => Unit
  | [f] => f.T
  | f :: g :: fs => f.T × fxT (g :: fs)
def FX.enc (i j : Nat) : (f : FX) → f.T → D
  | .fl f, x => f.enc x
  | .own, _ => .own (subT i j)
  | .self, b => .opb i b
def fxEnc (i : Nat) : (j : Nat) → (fs : List FX) → fxT fs → List D
  | _, [], _ => []
  | j, [f], x => [f.enc i j x]
  | j, f :: g :: fs, x => f.enc i j x.1 :: fxEnc i (j + 1) (g :: fs) x.2
def FX.dec (t : Nat) : (f : FX) → D → Option f.T
  | .fl f, d => f.dec d
  | .own, .own _ => some ()
  | .own, .nil => some ()
  | .self, .opb t' b => cond (t' == t) (some b) none
  | .self, .op t' 0 => cond (t' == t) (some true) none
  | .self, .pnil => some false
  | _, _ => none
def fxDec (t : Nat) : (fs : List FX) → List D → Option (fxT fs)
  | [], [] => some ()
  | [f], [d] => f.dec t d
  | f :: g :: fs, d :: ds => match f.dec t d with
    | none => none
    | some x => match fxDec t (g :: fs) ds with
      | none => none
      | some y => some (x, y)
  | _, _ => none
def FX.flat : FX → Bool
  | .fl f => (match f with | .int _ => true | .bool => true | .str => true | .np => true | .pnil => true | .nil => true | _ => false)
  | _ => true
/-- A block that the call owns: a list, or a variable's cells. -/
inductive OB
  | rows (e : E) (T : TypeId) (xs : List e.T)
  | cells (T : TypeId) (ds : List D)
  | nodes (c : Cl) (T A : TypeId) (hs : List c.R) (hole : Option Nat)
  | nodesR (c : Cl) (hs : List c.R)
  | mp (l : List (Option Nat × Bool))
  | sit (l : List UInt8) (pos : Nat)
/-- np: ghosts of tags from np / 1000 on, below np % 1000, stay. nw: nodes may be made. -/
structure St where
  n : Nat
  np : Nat
  nw : Bool
  sl : Nat → D
  ow : List (Nat × OB)

def St.look (s : St) (t : Nat) : Option OB := (s.ow.find? fun p => p.1 == t).map (·.2)
def St.set (s : St) (t : Nat) (d : D) : St := { s with sl := fun i => cond (i == t) d (s.sl i) }
/-- Nobody speaks of a tag any more. -/
def D.purge1 (t : Nat) : D → D
  | .own t' => cond (t' == t) .u (.own t')
  | .op t' o => cond (t' == t) .u (.op t' o)
  | .oe t' z i o => cond (t' == t) .u (.oe t' z i o)
  | .na i => cond (NT == t) .u (.na i)
  | .nae z i j o => cond (NT == t) .u (.nae z i j o)
  | .nas z i a b => cond (NT == t) .u (.nas z i a b)
  | .aggo ds t' => cond (t' == t) .u (.aggo ds t')
  | .aggh t' ds => cond (t' == t) .u (.aggh t' ds)
  | .clov f t' ds => cond (t' == t) .u (.clov f t' ds)
  | .opb t' b => cond (t' == t) .u (.opb t' b)
  | .nap o => cond (NT == t) .u (.nap o)
  | d => d
def D.purge (t : Nat) : D → D
  | .tup ds => .tup (ds.map (D.purge1 t))
  | d => d.purge1 t
/-- In a cell a list that is taken away leaves a value of which nothing is told. -/
def D.purgeC (k : Bool) (t : Nat) : D → D
  | .own t' => cond (t' == t) (cond k .any .u) (.own t')
  | d => d.purge1 t
def OB.isRows : OB → Bool
  | .rows _ _ _ => true
  | _ => false
def OB.purge (k : Bool) (t : Nat) : OB → OB
  | .cells T ds => .cells T (ds.map (D.purgeC k t))
  | b => b
def St.gone (s : St) (t : Nat) : Bool := match s.look t with
  | some b => b.isRows
  | none => false
def St.purge (s : St) (t : Nat) : St := ⟨s.n, s.np, s.nw, fun i => (s.sl i).purge t, (s.ow.filter fun p => !(p.1 == t)).map fun p => (p.1, p.2.purge (s.gone t) t)⟩
def St.put (s : St) (d : Option Tmp) (x : D) : Option St :=
  match d with
  | none => some s
  | some t => cond (Nat.blt t s.n) (some (s.set t x)) none
/-- A block that is made: its tag is the slot's number. -/
def St.make (s : St) (t : Nat) (b : OB) : St := ⟨s.n, s.np, s.nw, s.sl, (t, b) :: s.ow⟩
def St.upd (s : St) (t : Nat) (b : OB) : St := ⟨s.n, s.np, s.nw, s.sl, s.ow.map fun p => cond (p.1 == t) (t, b) p⟩

inductive Sh | bool | int (k : IntKind) | str | slice (e : TypeId) | struct (fs : List (TypeId × Nat)) | ptr (e : TypeId) | map (k v : TypeId) | iface | func | other
/-- A type of which an interface's value may be made. -/
def Sh.conc : Sh → Bool
  | .ptr _ => true | .str => true | .struct _ => true | .int _ => true
  | _ => false
structure TI where
  sh : Sh
  size : Nat
  agg : Bool
  zv : Value
  bytes : Nat
  el : Option E

def ofVal : Value → D
  | .int k n => .int k n
  | .bool b => .bool b
  | .string s => .str s.data.toList
  | .slice none 0 0 => .nil
  | .pointer none => .pnil
  | .map none => .mnil
  | .nilIface => .inil
  | .nilFunc => .fnl
  | _ => .u

/-- What a function that is handed on has captured: variables that nobody changes. -/
abbrev esT : List E → Type
  | [] => Unit
  | [e] => e.T
  | e :: e' :: es => e.T × esT (e' :: es)
def esEnc : (es : List E) → esT es → List D
  | [], _ => []
  | [e], x => [.fp (e.enc x) 0]
  | e :: e' :: es, x => .fp (e.enc x.1) 0 :: esEnc (e' :: es) x.2
def esDec : (es : List E) → List D → Option (esT es)
  | [], [] => some ()
  | [e], [.fp ds 0] => e.dec ds
  | e :: e' :: es, .fp ds 0 :: r => match e.dec ds with
    | none => none
    | some x => match esDec (e' :: es) r with
      | none => none
      | some y => some (x, y)
  | _, _ => none
/-- What a slot is, where its kind is known. -/
inductive Kd | int (k : IntKind) | bool | str | lst (e : E) | el (e : E) | own (e : E) (T : TypeId) | blk (e : E) (T : TypeId) | np | any | mnil | emp | fp (e : E) | ns (c : Cl) (T A : TypeId) | nsr (c : Cl) | clo (f : FuncId) (es : List E) | intc (k : IntKind) (n : Int) | inil | fnl | al (j : Nat) | mp | sit | err | blkx (T : TypeId) (fs : List FX) | hown (i0 j : Nat) (e : E) (T : TypeId) | clox (f : FuncId) (T : TypeId) (fs : List FX) (es : List E) | ifc (T : TypeId) (e : E) | nal | nap | snil
abbrev Kd.T : Kd → Type
  | .int _ => Int | .bool => Bool | .str => List UInt8 | .lst e => List e.T | .el e => e.T | .own e _ => List e.T | .blk e _ => e.T
  | .np => Option Nat | .any => Unit | .mnil => Unit | .emp => Unit | .fp e => e.T | .ns c _ _ => List c.R | .nsr c => List c.R | .clo _ es => esT es | .intc _ _ => Unit | .inil => Unit | .fnl => Unit | .al _ => Unit | .mp => List (Option Nat × Bool) | .sit => List UInt8 × Nat
  | .snil => Unit | .ifc _ e => e.T | .nal => Nat | .nap => Option (Nat × Nat) | .err => Bool | .blkx _ fs => fxT fs | .hown _ _ e _ => List e.T | .clox _ _ fs es => fxT fs × esT es
/-- Slots and their kinds. -/
abbrev Pt := List (Nat × Kd)
abbrev Tup : Pt → Type
  | [] => Unit
  | [p] => p.2.T
  | p :: q :: ps => p.2.T × Tup (q :: ps)
abbrev SumT : List Pt → Type
  | [] => Empty
  | [p] => Tup p
  | p :: q :: ps => Tup p ⊕ SumT (q :: ps)

/-- A function that is known: what it takes, what it hands back, and what it computes. pin: the arguments 0, 1 .., and NT or NTR: the nodes. pout: the answers 0, 1 .., 1000 + i: what argument i holds behind the call, NT: the nodes. np: the arguments below it keep their ghosts. -/
structure Ent where
  np : Nat
  pin : Pt
  pout : Pt
  m : Tup pin → Option (Tup pout)
inductive Xt | nm | ex (id : Nat) | rt | gt (l : Nat)
  deriving DecidableEq
/-- A loop that is known: the slots at its head, and at its exits. -/
structure LEnt where
  pin : Pt
  exits : List (Xt × Pt)
  m : Tup pin → Option (SumT (exits.map (·.2)))

structure Cx where
  tb : List (Option TI)
  fns : FuncId → Option Ent
  /-- regions that draw their order: what is taken early, what is carried out, in which order -/
  sch : Nat → Option (List (Bool × Nat))
  /-- methods of types of which interfaces' values are made; the interfaces that such a type has -/
  mth : List (TypeId × String × FuncId)
  ast : List (TypeId × TypeId)

def atI {α : Type} (l : List α) (i : Int) : Option α := if 0 ≤ i then l[i.toNat]? else none
def enc8 (n : Int) : List UInt8 := (Go.Utf8.encode n).data.toList
def encs8 (l : List Int) : List UInt8 := l.flatMap enc8
def subL {α : Type} (l : List α) (lo hi : Int) : Option (List α) := if 0 ≤ lo ∧ lo ≤ hi ∧ hi ≤ l.length then some ((l.take hi.toNat).drop lo.toNat) else none
def catS (l m : List UInt8) : Option (List UInt8) := if l.length + m.length ≤ 9223372036854775807 then some (l ++ m) else none
def appL {α : Type} (l m : List α) : Option (List α) := if l.length + m.length ≤ 2147483648 then some (l ++ m) else none
def divI (k : IntKind) (a b : Int) : Option Int := if b = 0 then none else some (IntKind.wrap k (a.tdiv b))
def remI (a b : Int) : Option Int := if b = 0 then none else some (a.tmod b)
def shlI (k : IntKind) (a b : Int) : Option Int := if b < 0 then none else some (IntKind.wrap k (a * 2 ^ min b.toNat k.bits))
def shrI (k : IntKind) (a b : Int) : Option Int := if b < 0 then none else some (a.fdiv (2 ^ min b.toNat k.bits))
/-- A map of nodes. -/
def mget : List (Option Nat × Bool) → Option Nat → Bool
  | [], _ => false
  | (k, v) :: l, o => if o = k then v else mget l o
def mput : List (Option Nat × Bool) → Option Nat → Bool → List (Option Nat × Bool)
  | [], o, b => [(o, b)]
  | (k, v) :: l, o, b => if o = k then (o, b) :: l else (k, v) :: mput l o b
/-- The character at a place of a text, and how many bytes it takes. -/
def dec8 (l : List UInt8) (i : Nat) : Nat × Nat := Utf8.decode ⟨l.toArray⟩ i
def andI (k : IntKind) (a b : Int) : Int := IntKind.wrap k (((a % 2 ^ k.bits).toNat &&& (b % 2 ^ k.bits).toNat : Nat) : Int)
def orI (k : IntKind) (a b : Int) : Int := IntKind.wrap k (((a % 2 ^ k.bits).toNat ||| (b % 2 ^ k.bits).toNat : Nat) : Int)

section
variable (C : Cx) {R : Type}

def g (s : St) : Operand → D
  | .tmp t => s.sl t
  | .const v => ofVal v
  | .func f => .clo f []
  | _ => .u
def ti (T : TypeId) : Option TI := (C.tb[T]?).join

def mfind (f : Nat) (n : String) : Option (TypeId × String × FuncId) := C.mth.find? fun q => ifN q.1 == f && q.2.1 == n
/-- An interface's value that holds a variable's address. -/
def isIf (f : Nat) : Bool := C.mth.any fun q => ifN q.1 == f
/-- A method of such a value. -/
def isMt (f : Nat) : Bool := C.mth.any fun q => mtN q.1 (mcode q.2.1) == f && mname (mcode q.2.1) == q.2.1
def evInt (op : BinOp) (k : IntKind) (a b : Int) (K : D → Option R) : Option R :=
  match op with
  | .add => K (.int k (k.wrap (a + b)))
  | .sub => K (.int k (k.wrap (a - b)))
  | .mul => K (.int k (k.wrap (a * b)))
  | .eql => K (.bool (decide (a = b)))
  | .neq => K (.bool (decide (a ≠ b)))
  | .lss => K (.bool (decide (a < b)))
  | .leq => K (.bool (decide (a ≤ b)))
  | .gtr => K (.bool (decide (b < a)))
  | .geq => K (.bool (decide (b ≤ a)))
  | .and => K (.int k (andI k a b))
  | .or => K (.int k (orI k a b))
  | .quo => (divI k a b).bind fun n => K (.int k n)
  | .rem => (remI a b).bind fun n => K (.int k n)
  | _ => none
def evEq (op : BinOp) (b : Bool) (K : D → Option R) : Option R :=
  match op with
  | .eql => K (.bool b)
  | .neq => K (.bool (!b))
  | _ => none
def dStr : D → Option (List UInt8)
  | .str a => some a
  | _ => none
def dTwo (l : List D) : Option (List UInt8 × List UInt8) :=
  match l with
  | [x, y] => (match dStr x with
    | some a => (match dStr y with
      | some b => some (a, b)
      | none => none)
    | none => none)
  | _ => none
def D.parts : D → List D
  | .agg ds => ds
  | _ => []
def evBin (op : BinOp) (T : TypeId) (x y : D) (K : D → Option R) : Option R :=
  match x with
  | .int k a => (match y with
    | .int k' b => (match op with
      | .shl => (shlI k a b).bind fun n => K (.int k n)
      | .shr => (shrI k a b).bind fun n => K (.int k n)
      | op => cond (decide (k = k')) (evInt op k a b K) none)
    | _ => none)
  | .str l => (match y with
    | .str m => (match op with
      | .eql => K (.bool (decide (l = m)))
      | .neq => K (.bool (decide (l ≠ m)))
      | .add => (catS l m).bind fun r => K (.str r)
      | _ => none)
    | _ => none)
  | .bool a => (match y with
    | .bool b => (match ti C T with
      | some ⟨.bool, _, _, _, _, _⟩ => evEq op (a == b) K
      | _ => none)
    | _ => none)
  | .np o => (match ti C T with
    | some ⟨.ptr e, _, _, _, _, _⟩ => (match ti C e with
      | some te => cond (Nat.blt 0 te.size) (match y with
        | .np o' => evEq op (decide (o = o')) K
        | .pnil => evEq op o.isNone K
        | _ => none) none
      | none => none)
    | _ => none)
  | .fp _ _ => (match ti C T with
    | some ⟨.ptr _, _, _, _, _, _⟩ => (match y with
      | .pnil => evEq op false K
      | _ => none)
    | _ => none)
  | .nap o => (match ti C T with
    | some ⟨.ptr _, _, _, _, _, _⟩ => (match y with
      | .pnil => evEq op o.isNone K
      | _ => none)
    | _ => none)
  | .nae _ _ _ _ => (match ti C T with
    | some ⟨.ptr _, _, _, _, _, _⟩ => (match y with
      | .pnil => evEq op false K
      | _ => none)
    | _ => none)
  | .op _ _ => (match ti C T with
    | some ⟨.ptr _, _, _, _, _, _⟩ => (match y with
      | .pnil => evEq op false K
      | _ => none)
    | _ => none)
  | .opb t b => (match ti C T with
    | some ⟨.ptr e, _, _, _, _, _⟩ => (match y with
      | .pnil => evEq op (!b) K
      | .op t' 0 => (match ti C e with
        | some te => cond (Nat.blt 0 te.size && t' == t) (evEq op b K) none
        | none => none)
      | _ => none)
    | _ => none)
  | .pnil => (match ti C T with
    | some ⟨.ptr _, _, _, _, _, _⟩ => (match y with
      | .np o' => evEq op o'.isNone K
      | .pnil => evEq op true K
      | _ => none)
    | _ => none)
  | .mnil => (match ti C T with
    | some ⟨.map _ _, _, _, _, _, _⟩ => (match y with
      | .mnil => evEq op true K
      | _ => none)
    | _ => none)
  | .err a => (match ti C T with
    | some ⟨.iface, _, _, _, _, _⟩ => (match y with
      | .err b => cond a (cond b none (evEq op false K)) (cond b (evEq op false K) none)
      | _ => none)
    | _ => none)
  | .inil => (match ti C T with
    | some ⟨.iface, _, _, _, _, _⟩ => (match y with
      | .err b => cond b (evEq op false K) none
      | _ => none)
    | _ => none)
  | .fnl => (match ti C T with
    | some ⟨.func, _, _, _, _, _⟩ => (match y with
      | .fnl => evEq op true K
      | _ => none)
    | _ => none)
  | .clo _ _ => (match ti C T with
    | some ⟨.func, _, _, _, _, _⟩ => (match y with
      | .fnl => evEq op false K
      | _ => none)
    | _ => none)
  | .agg xs => (match (ti C T).bind TI.el with
    | some .attr => (match dTwo xs with
      | some a => (match dTwo y.parts with
        | some b => evEq op (decide (a.1 = b.1 ∧ a.2 = b.2)) K
        | none => none)
      | none => none)
    | some .sel => (match E.dec .sel xs with
      | some a => (match E.dec .sel y.parts with
        | some b => evEq op (decide (a.kind = b.kind ∧ a.op = b.op ∧ a.key = b.key ∧ a.val = b.val ∧ a.a = b.a ∧ a.b = b.b ∧ a.flag = b.flag ∧ a.size = b.size)) K
        | none => none)
      | none => none)
    | _ => none)
  | _ => none

/-- In the place of a list that was owned stands what it reads as. -/
def D.frz1 (y : D) (t : Nat) (d : D) : D :=
  match y with
  | .own t' => cond (t' == t) d (.own t')
  | .op t' o => cond (t' == t) (match d with
    | .fp ds _ => .fp ds o
    | _ => .u) (.op t' o)
  | .oe t' z i o => cond (t' == t) .u (.oe t' z i o)
  | .na i => cond (NT == t) .u (.na i)
  | .nae z i j o => cond (NT == t) .u (.nae z i j o)
  | .nas z i a b => cond (NT == t) .u (.nas z i a b)
  | .aggo ds t' => cond (t' == t) .u (.aggo ds t')
  | .aggh t' ds => cond (t' == t) .u (.aggh t' ds)
  | .clov f t' ds => cond (t' == t) .u (.clov f t' ds)
  | .opb t' b => cond (t' == t) .u (.opb t' b)
  | .nap o => cond (NT == t) .u (.nap o)
  | x => x
def D.frz (y : D) (t : Nat) (d : D) : D :=
  match y with
  | .tup ds => .tup (ds.map (fun x => x.frz1 t d))
  | x => x.frz1 t d
def OB.frz (t : Nat) (d : D) : OB → OB
  | .cells T ds => .cells T (ds.map (fun x => x.frz1 t d))
  | b => b
def St.freeze (s : St) (t : Nat) (d : D) : St := ⟨s.n, s.np, s.nw, fun i => (s.sl i).frz t d, (s.ow.filter fun p => !(p.1 == t)).map fun p => (p.1, OB.frz t d p.2)⟩

/-- The nodes, as they are; own: those that the call owns. -/
def St.nodes (s : St) : Option (Bool × (Σ c : Cl, List c.R)) :=
  match s.look NTR with
  | some (.nodesR c hs) => some (false, ⟨c, hs⟩)
  | _ => match s.look NT with
    | some (.nodes c _ _ hs _) => some (true, ⟨c, hs⟩)
    | _ => none
/-- A node's list. -/
def naL (s : St) (i : Nat) (e : E) : Option (List e.T) :=
  match s.look NT with
  | some (.nodes c _ _ hs none) => (match hs[i]? with
    | some h => castE c.e e (c.xs h)
    | none => none)
  | _ => none
def rdCells (ds : List D) (off : Nat) (i : TI) (K : D → Option R) : Option R :=
  cond i.agg
    (cond (Nat.ble (off + i.size) ds.length && ((ds.drop off).take i.size).all D.plain) (K (.agg ((ds.drop off).take i.size))) none)
    (match ds[off]? with
     | some d => K d
     | none => none)
/-- A cell's worth: plain, or a list that is owned. -/
def cellB (s : St) (d : D) : Bool := d.plain || (match d with
  | .opb _ _ => true
  | .own t => (match s.look t with
    | some (.rows _ _ _) => true
    | _ => false)
  | _ => false)
def placed (fs : List (TypeId × Nat)) (C : Cx) (s : St) : List (Nat × D) → List D → Option (List D)
  | [], z => some z
  | (i, d) :: r, z => match fs[i]? with
    | none => none
    | some (ft, fo) => match (C.tb[ft]?).join with
      | none => none
      | some t => match d with
        | .agg l => cond (l.length == t.size && Nat.ble (fo + t.size) z.length && l.all D.plain) (placed fs C s r (z.take fo ++ l ++ z.drop (fo + t.size))) none
        | d => cond (t.size == 1 && Nat.blt fo z.length && cellB s d) (placed fs C s r (z.set fo d)) none

def evBI (s : St) (b : Builtin) (xs : List Operand) (ts : List TypeId) (K : D → Option R) : Option R :=
  match b with
  | .len => (match xs with
    | [x] => (match ts with
      | [T] => (match ti C T with
        | some ⟨.str, _, _, _, _, _⟩ => (match g s x with
          | .str l => K (.int .i64 (l.length : Int))
          | _ => none)
        | some ⟨.slice _, _, _, _, _, _⟩ => (match g s x with
          | .lst _ xs => K (.int .i64 (xs.length : Int))
          | .nil => K (.int .i64 0)
          | .own t => (match s.look t with
            | some (.rows _ _ xs) => K (.int .i64 (xs.length : Int))
            | _ => none)
          | .na i => (match s.look NT with
            | some (.nodes c _ _ hs none) => (hs[i]?).bind fun h => K (.int .i64 ((c.xs h).length : Int))
            | _ => none)
          | _ => none)
        | _ => none)
      | _ => none)
    | _ => none)
  | .min => (match xs with
    | [x, y] => (match g s x with
      | .int k a => (match g s y with
        | .int k' b => cond (decide (k = k')) (K (.int k (if b < a then b else a))) none
        | _ => none)
      | _ => none)
    | _ => none)
  | .max => (match xs with
    | [x, y] => (match g s x with
      | .int k a => (match g s y with
        | .int k' b => cond (decide (k = k')) (K (.int k (if a < b then b else a))) none
        | _ => none)
      | _ => none)
    | _ => none)
  | _ => none

/-- Operations that change nothing. -/
def evPure (s : St) (o : Op) (K : D → Option R) : Option R :=
  match o with
  | .move x => K (g s x)
  | .assign x => K (g s x)
  | .pick c x y => (match g s c with
    | .bool b => cond b (K (g s x)) (K (g s y))
    | _ => none)
  | .binOp op T x y _ => (match y with
    | .const .nilIface => (match g s x with
      | .inil => (match ti C T with
        | some ⟨.iface, _, _, _, _, _⟩ => evEq op true K
        | _ => none)
      | .err b => (match ti C T with
        | some ⟨.iface, _, _, _, _, _⟩ => evEq op (!b) K
        | _ => none)
      | .ifc _ _ => (match ti C T with
        | some ⟨.iface, _, _, _, _, _⟩ => evEq op false K
        | _ => none)
      | .clov f _ _ => (match ti C T with
        | some ⟨.iface, _, _, _, _, _⟩ => cond (isIf C f) (evEq op false K) none
        | _ => none)
      | _ => none)
    | .const (.slice none 0 0) => (match ti C T with
      | some ⟨.slice _, _, _, _, _, _⟩ => (match g s x with
        | .nil => evEq op true K
        | .own t => (match s.look t with
          | some (.rows _ _ xs) => cond (decide ((xs.length : Int) = 0)) none (evEq op false K)
          | _ => none)
        | _ => none)
      | _ => none)
    | .const (.map none) => (match ti C T with
      | some ⟨.map _ _, _, _, _, _, _⟩ => (match g s x with
        | .mnil => evEq op true K
        | .own t => (match s.look t with
          | some (.mp _) => evEq op false K
          | _ => none)
        | _ => none)
      | _ => none)
    | _ => evBin C op T (g s x) (g s y) K)
  | .unOp .not _ x => (match g s x with
    | .bool b => K (.bool (!b))
    | _ => none)
  | .unOp .neg _ x => (match g s x with
    | .int k n => K (.int k (k.wrap (0 - n)))
    | _ => none)
  | .extract x i => (match g s x with
    | .tup l => (match l[i]? with
      | some d => K d
      | none => none)
    | _ => none)
  | .index T x y => (match ti C T with
    | some ⟨.str, _, _, _, _, _⟩ => (match g s x with
      | .str l => (match g s y with
        | .int _ i => (atI l i).bind fun c => K (.int .u8 (c.toNat : Int))
        | _ => none)
      | _ => none)
    | _ => none)
  | .indexAddr T x y => (match ti C T with
    | some ⟨.slice et, _, _, _, _, _⟩ => (match ti C et with
      | some te => (match g s y with
        | .int _ i => (match g s x with
          | .lst e xs => cond (te.size == e.sz) ((atI xs i).bind fun v => K (.fp (e.enc v) 0)) none
          | .own t => (match s.look t with
            | some (.rows e _ xs) => cond (te.size == e.sz) ((atI xs i).bind fun _ => K (.oe t e.sz i.toNat 0)) none
            | _ => none)
          | .na j => (match s.look NT with
            | some (.nodes c _ _ hs none) => cond (te.size == c.e.sz) ((hs[j]?).bind fun h => (atI (c.xs h) i).bind fun _ => K (.nae c.e.sz j i.toNat 0)) none
            | _ => none)
          | _ => none)
        | _ => none)
      | none => none)
    | _ => none)
  | .fieldAddr T x i => (match ti C T with
    | some ⟨.struct fs, _, _, _, _, _⟩ => (match fs[i]? with
      | some (ft, fo) => (match ti C ft with
        | some t => cond (Nat.blt 0 t.size) (match g s x with
          | .fp ds off => K (.fp ds (off + fo))
          | .op t off => K (.op t (off + fo))
          | .oe t z j off => K (.oe t z j (off + fo))
          | .np o => o.bind fun i => K (.nf i fo)
          | .nae z i j off => K (.nae z i j (off + fo))
          | .nf i off => K (.nf i (off + fo))
          | _ => none) none
        | none => none)
      | none => none)
    | _ => none)
  | .load T (.global n) => (match ti C T with
    | some ⟨.iface, 1, false, _, _, _⟩ => (match GT n with
      | some .er => K (.err true)
      | _ => none)
    | some ⟨.map _ _, 1, false, _, _, _⟩ => (match GT n with
      | some (.mp _) => K (.gm n)
      | _ => none)
    | _ => none)
  | .load T x => (match ti C T with
    | some t => (match g s x with
      | .fp ds off => rdCells ds off t K
      | .op b off => (match s.look b with
        | some (.cells _ ds) => rdCells ds off t K
        | _ => none)
      | .oe b z i off => (match s.look b with
        | some (.rows e _ xs) => cond (z == e.sz) ((xs[i]?).bind fun v => rdCells (e.enc v) off t K) none
        | _ => none)
      | .nf i off => (match s.nodes with
        | some (own, ⟨c, hs⟩) => cond (off == c.n) (cond t.agg none ((hs[i]?).bind fun h => cond own (K (.na i)) (K (.lst c.e (c.xs h))))) ((hs[i]?).bind fun h => rdCells (c.enc h) off t K)
        | none => none)
      | .nae z i j off => (match s.look NT with
        | some (.nodes c _ _ hs none) => cond (z == c.e.sz) ((hs[i]?).bind fun h => ((c.xs h)[j]?).bind fun a => rdCells (c.e.enc a) off t K) none
        | _ => none)
      | _ => none)
    | none => none)
  | .nilCheck x => (match g s x with
    | .fp ds off => K (.fp ds off)
    | .op t off => K (.op t off)
    | .np o => o.bind fun i => K (.np (some i))
    | .nae z i j off => K (.nae z i j off)
    | .nap o => o.bind fun q => K (.nae 3 q.1 q.2 0)
    | .nf i off => K (.nf i off)
    | .oe t z i off => K (.oe t z i off)
    | .clov f t ds => cond (isMt C f) (K (.clov f t ds)) none
    | _ => none)
  | .field T x i => (match ti C T with
    | some ⟨.struct fs, _, _, _, _, _⟩ => (match fs[i]? with
      | some (ft, fo) => (match ti C ft with
        | some t => (match g s x with
          | .agg ds => cond t.agg none (rdCells ds fo t K)
          | _ => none)
        | none => none)
      | none => none)
    | _ => none)
  | .build T parts => (match ti C T with
    | some ⟨.struct fs, _, _, z, _, _⟩ => cond (fs.all fun f => (C.tb[f.1]?).join.isSome) (match placed fs C s (parts.toList.map fun p => (p.1, g s p.2)) (z.cells.toList.map ofVal) with
      | some ds => cond (ds.all D.plain) (K (.agg ds)) (match ds.drop 9 with
        | [.own t] => cond ((ds.take 9).all D.plain) (K (.aggo (ds.take 9) t)) none
        | _ => (match ds with
          | .own t :: rest => cond (rest.all D.plain) (K (.aggh t rest)) none
          | _ => none))
      | none => none) none
    | _ => none)
  | .slice T x lo hi .none => (match ti C T with
    | some ⟨.str, _, _, _, _, _⟩ => (match g s x with
      | .str l => (match (match lo with | none => D.int .i64 0 | some y => g s y) with
        | .int _ a => (match (match hi with | none => D.int .i64 (l.length : Int) | some y => g s y) with
          | .int _ b => (subL l a b).bind fun m => K (.str m)
          | _ => none)
        | _ => none)
      | _ => none)
    | some ⟨.slice et, _, _, _, _, _⟩ => (match ti C et with
      | some te => (match g s x with
        | .lst e xs => cond (te.size == e.sz) (match (match lo with | none => D.int .i64 0 | some y => g s y) with
          | .int _ a => (match (match hi with | none => D.int .i64 (xs.length : Int) | some y => g s y) with
            | .int _ b => (subL xs a b).bind fun m => K (.lst e m)
            | _ => none)
          | _ => none) none
        | .na j => (match s.look NT with
          | some (.nodes c _ _ hs none) => cond (te.size == c.e.sz) ((hs[j]?).bind fun n => (match (match lo with | none => D.int .i64 0 | some y => g s y) with
            | .int _ a => (match (match hi with | none => D.int .i64 ((c.xs n).length : Int) | some y => g s y) with
              | .int _ b => (subL (c.xs n) a b).bind fun _ => K (.nas c.e.sz j a.toNat b.toNat)
              | _ => none)
            | _ => none)) none
          | _ => none)
        | _ => none)
      | none => none)
    | _ => none)
  | .convert S T x => (match ti C S with
    | some ⟨.int _, _, _, _, _, _⟩ => (match ti C T with
      | some ⟨.int k, _, _, _, _, _⟩ => (match g s x with
        | .int _ a => K (.int k (k.wrap a))
        | _ => none)
      | some ⟨.str, _, _, _, _, _⟩ => (match g s x with
        | .int _ a => K (.str (enc8 a))
        | _ => none)
      | _ => none)
    | some ⟨.slice et, _, _, _, _, _⟩ => (match ti C et with
      | some ⟨.int .i32, 1, _, _, _, _⟩ => (match ti C T with
        | some ⟨.str, _, _, _, _, _⟩ => (match g s x with
          | .nil => K (.str [])
          | .lst e xs => (castE e E.rune xs).bind fun xs => K (.str (encs8 xs))
          | .own t => (match s.look t with
            | some (.rows e _ xs) => (castE e E.rune xs).bind fun xs => K (.str (encs8 xs))
            | _ => none)
          | _ => none)
        | _ => none)
      | some ⟨.int .u8, 1, _, _, _, _⟩ => (match ti C T with
        | some ⟨.str, _, _, _, _, _⟩ => (match g s x with
          | .nil => K (.str [])
          | .lst e xs => (castE e .u8 xs).bind fun xs => K (.str xs)
          | .own t => (match s.look t with
            | some (.rows e _ xs) => (castE e .u8 xs).bind fun xs => K (.str xs)
            | _ => none)
          | _ => none)
        | _ => none)
      | _ => none)
    | _ => none)
  | .lookup T x y false => (match ti C T with
    | some ⟨.map kt vt, _, _, _, _, _⟩ => (match ti C kt with
      | some ⟨.ptr e, _, _, _, _, _⟩ => (match ti C e with
        | some te => cond (Nat.blt 0 te.size) (match ti C vt with
          | some ⟨.bool, _, _, .bool false, _, _⟩ => (match dPtr (g s y) with
            | some o => (match g s x with
              | .mnil => K (.bool false)
              | .own t => (match s.look t with
                | some (.mp l) => K (.bool (mget l o))
                | _ => none)
              | _ => none)
            | none => none)
          | _ => none) none
        | none => none)
      | some ⟨.str, _, _, _, _, _⟩ => (match ti C vt with
        | some ⟨.bool, _, _, .bool false, _, _⟩ => (match g s y with
          | .str k => (match g s x with
            | .gm n => (match GT n with
              | some (.mp _) => K (.bool (gmem n k))
              | _ => none)
            | _ => none)
          | _ => none)
        | _ => none)
      | _ => none)
    | _ => none)
  | .makeFunc (.method n) fs cs => (match fs.toList with
    | [x] => (match g s x with
      | .clov f t [] => (match mfind C f n with
        | some q => cond (cs.isEmpty && mname (mcode n) == n) (K (.clov (mtN q.1 (mcode n)) t [])) none
        | none => none)
      | _ => none)
    | _ => none)
  | .makeFunc (.func f) fs cs => cond fs.isEmpty (match cs.toList.map (g s) with
    | .op t 0 :: ds => cond (ds.all D.plain && Nat.blt f 1000000) (K (.clov f t ds)) none
    | ds => cond (ds.all D.plain) (K (.clo f ds)) none) none
  | .typeAssert x _ T true => (match ti C T with
    | some ⟨.struct _, _, _, _, _, _⟩ => (match g s x with
      | .ifc T' l => cond (T' == T) (K (.tup [.agg l, .bool true])) (K (.tup [.u, .bool false]))
      | _ => none)
    | some ⟨.iface, _, _, _, _, _⟩ => (match g s x with
      | .clov f t ds => cond (C.ast.any fun q => ifN q.1 == f && q.2 == T) (K (.tup [.clov f t ds, .bool true])) none
      | _ => none)
    | _ => none)
  | .makeInterface T x => (match ti C T with
    | some t => cond t.sh.conc (match g s x with
      | .agg l => cond (l.all D.plain) (K (.ifc T l)) (K (.err true))
      | .op b 0 => cond (C.mth.any fun q => q.1 == T) (K (.clov (ifN T) b [])) (K (.err true))
      | _ => K (.err true)) none
    | none => none)
  | .call c => (match c.callee with
    | .builtin b => evBI C s b c.args.toList c.argTypes.toList K
    | _ => none)
  | _ => none
end
end Go.Proofs.YtpedmnlpccngiaaDoor.V
namespace Go.Proofs.YtpedmnlpccngiaaDoor.V
open Go

section
variable (C : Cx) {R : Type}

/-- What lies behind a slice's elements that are handed on. -/
def listOf (s : St) (d : D) (e : E) : Option (List e.T) :=
  match d with
  | .nil => some []
  | .lst e' xs => castE e' e xs
  | .own t => match s.look t with
    | some (.rows e' _ xs) => castE e' e xs
    | _ => none
  | .na i => naL s i e
  | .nas z i a b => cond (z == e.sz) (match naL s i e with
    | some xs => some ((xs.take b).drop a)
    | none => none) none
  | _ => none
/-- The same, handed on; a node's list is looked up on the way. -/
def listK (s : St) (d : D) (e : E) (k : List e.T → Option R) : Option R :=
  match d with
  | .na i => (match s.look NT with
    | some (.nodes c _ _ hs none) => (hs[i]?).bind fun h => (match castE c.e e (c.xs h) with
      | some xs => k xs
      | none => none)
    | _ => none)
  | .nas z i a b => cond (z == e.sz) (match s.look NT with
    | some (.nodes c _ _ hs none) => (hs[i]?).bind fun h => (match castE c.e e (c.xs h) with
      | some xs => k ((xs.take b).drop a)
      | none => none)
    | _ => none) none
  | d => (match listOf s d e with
    | some xs => k xs
    | none => none)
/-- The bytes of a text that is handed on in the place of a slice. -/
def strOf (d : D) (e : E) : Option (List e.T) :=
  match d with
  | .str l => castE .u8 e l
  | _ => none
def cellsOf (s : St) (d : D) : Option (List D) :=
  match d with
  | .agg l => cond (l.all D.plain) (some l) none
  | .op t o => some [.op t o]
  | .opb t b => some [.opb t b]
  | .own t => (match s.look t with
    | some (.rows _ _ _) => some [.own t]
    | _ => none)
  | .aggh t l => (match s.look t with
    | some (.rows _ _ _) => cond (l.all D.plain) (some (.own t :: l)) none
    | _ => none)
  | d => cond d.plain (some [d]) none
/-- What cells read as, handed on. -/
def decK : (e : E) → List D → (e.T → Option R) → Option R
  | .u8, [.int .u8 n], k => (byteI n).bind fun v => k v
  | e, ds, k => match e.dec ds with
    | some v => k v
    | none => none
def decAll (e : E) : List (List D) → Option (List e.T)
  | [] => some []
  | r :: rs => match e.dec r with
    | none => none
    | some x => match decAll e rs with
      | none => none
      | some xs => some (x :: xs)
def decAllK (e : E) : List (List D) → (List e.T → Option R) → Option R
  | [], k => k []
  | r :: rs, k => decK e r fun x => decAllK e rs fun xs => k (x :: xs)

def evAppend (sy s : St) (d : Tmp) (x y : Operand) (S X : TypeId) (K : D → St → Option R) : Option R :=
  match ti C S with
  | some ⟨.slice et, _, _, _, _, _⟩ => (match ti C X with
    | some ⟨.slice _, _, _, _, _, _⟩ => (match ti C et with
      | some ⟨_, sz, _, _, bytes, some e⟩ => cond (sz == e.sz && Nat.ble (sz * (bytes + 1)) 32768) (match g s x with
        | .own tx => (match s.look tx with
          | some (.rows e' T xs) => (match castE e' e xs with
            | some xs => let s1 := s.purge tx
              listK (sy.purge tx) (g (sy.purge tx) y) e fun ys => cond (T == et) ((appL xs ys).bind fun r => K (.own d) ((s1.purge d).make d (.rows e et r))) none
            | none => none)
          | _ => none)
        | .nil => listK sy (g sy y) e fun ys => (appL [] ys).bind fun r => K (.own d) ((s.purge d).make d (.rows e et r))
        | .na i => (match s.look NT with
          | some (.nodes c T A hs none) => let s1 := s.purge NT
            listK (sy.purge NT) (g (sy.purge NT) y) c.e fun ys => cond (A == et && decide (e = c.e) && Nat.ble (s.np % 1000) NT && !(d == NT)) ((hs[i]?).bind fun h => (appL (c.xs h) ys).bind fun r => K (.own d) (((s1.make NT (.nodes c T A hs (some i))).purge d).make d (.rows c.e et r))) none
          | _ => none)
        | _ => none) none
      | _ => none)
    | _ => none)
  | _ => none
/-- append of a text to bytes. -/
def evAppendS (s : St) (d : Tmp) (x y : Operand) (S : TypeId) (K : D → St → Option R) : Option R :=
  match ti C S with
  | some ⟨.slice et, _, _, _, _, _⟩ => (match ti C et with
    | some ⟨_, 1, _, _, bytes, some .u8⟩ => cond (Nat.ble (bytes + 1) 32768) (match g s y with
      | .str ys => (match g s x with
        | .own tx => (match s.look tx with
          | some (.rows e' T xs) => (match castE e' .u8 xs with
            | some xs => cond (T == et) ((appL xs ys).bind fun r => K (.own d) (((s.purge tx).purge d).make d (.rows .u8 et r))) none
            | none => none)
          | _ => none)
        | .nil => (appL [] ys).bind fun r => K (.own d) ((s.purge d).make d (.rows .u8 et r))
        | _ => none)
      | _ => none) none
    | _ => none)
  | _ => none
/-- copy into a node's list. -/
def evCopy (s : St) (x y : Operand) (S : TypeId) (K : D → St → Option R) : Option R :=
  match ti C S with
  | some ⟨.slice et, _, _, _, _, _⟩ => (match ti C et with
    | some te => (match g s x with
      | .na j => (match s.look NT with
        | some (.nodes c T A hs none) => cond (te.size == c.e.sz && A == et) ((hs[j]?).bind fun h => listK s (g s y) c.e fun ys => K (.int .i64 ((min ys.length (c.xs h).length : Nat) : Int)) (s.upd NT (.nodes c T A (hs.set j (c.wx h (ys.take (min ys.length (c.xs h).length) ++ (c.xs h).drop (min ys.length (c.xs h).length)))) none))) none
        | _ => none)
      | .own t => (match g s y with
        | .str ys => (match s.look t with
          | some (.rows e' T xs) => (match castE e' .u8 xs with
            | some xs => cond (te.size == 1 && T == et) (K (.int .i64 ((min ys.length xs.length : Nat) : Int)) (s.upd t (.rows .u8 T (ys.take (min ys.length xs.length) ++ xs.drop (min ys.length xs.length))))) none
            | none => none)
          | _ => none)
        | _ => none)
      | _ => none)
    | none => none)
  | _ => none
def evBox (s : St) (d : Tmp) (T : TypeId) (x : Operand) (K : D → St → Option R) : Option R :=
  let s' := s.purge d
  match cellsOf s' (g s' x) with
    | some ds => K (.op d 0) (s'.make d (.cells T ds))
    | none => none
/-- A node's cell is written. -/
def evNf (s : St) (i off : Nat) (d : D) (K : D → St → Option R) : Option R :=
  match s.look NT with
  | some (.nodes c TN A hs hole) => cond (Nat.blt off c.n) (cond d.plain ((hs[i]?).bind fun h => match c.dec (c.xs h) ((c.enc h).set off d) with
      | some h' => K .und (s.upd NT (.nodes c TN A (hs.set i h') hole))
      | none => none) none)
    (cond (off == c.n) (match d with
      | .own t => (match s.look t with
        | some (.rows e T xs) => (match castE e c.e xs with
          | some xs => cond (T == A && !(t == NT) && Nat.ble (s.np % 1000) NT) ((hs[i]?).bind fun h => (match hole with
            | none => K .und (((s.purge t).purge NT).make NT (.nodes c TN A (hs.set i (c.wx h xs)) none))
            | some j => cond (decide (j = i)) (K .und (((s.purge t).purge NT).make NT (.nodes c TN A (hs.set i (c.wx h xs)) none))) none)) none
          | none => none)
        | _ => none)
      | .nas z i' 0 b => cond (z == c.e.sz && hole.isNone && Nat.ble (s.np % 1000) NT) (cond (decide (i' = i)) ((hs[i]?).bind fun h => K .und ((s.purge NT).make NT (.nodes c TN A (hs.set i (c.wx h ((c.xs h).take b))) none))) none) none
      | _ => none) none)
  | _ => none
/-- An element of a node's list is written. -/
def evNae (s : St) (t : TI) (z i j off : Nat) (d : D) (K : D → St → Option R) : Option R :=
  match s.look NT with
  | some (.nodes c TN A hs none) => (match cellsOf s d with
    | some l => cond (z == c.e.sz && l.length == t.size && Nat.ble (off + t.size) c.e.sz && l.all D.plain) ((hs[i]?).bind fun h => ((c.xs h)[j]?).bind fun v => decK c.e ((c.e.enc v).take off ++ l ++ (c.e.enc v).drop (off + t.size)) fun v' => K .und (s.upd NT (.nodes c TN A (hs.set i (c.wx h ((c.xs h).set j v'))) none))) none
    | none => none)
  | _ => none
/-- Operations that make or change memory. d: where the answer goes. -/
def evEff (s : St) (d : Tmp) (o : Op) (K : D → St → Option R) : Option R :=
  match o with
  | .alloc T => (match ti C T with
    | some t => let s' := s.purge d
      K (.op d 0) (s'.make d (.cells T (t.zv.cells.toList.map ofVal)))
    | none => none)
  | .box T x => (match s.look NT with
    | some (.nodes c TN A hs hole) => cond (T == TN) (match g s x with
        | .agg l => (match l.drop c.n with
          | [.nil] => (match c.dec [] (l.take c.n) with
            | some h => cond (s.nw && Nat.ble (s.np % 1000) NT && !(T == uT)) (K (.np (some hs.length)) ((s.purge NT).make NT (.nodes c TN A (hs ++ [h]) hole))) none
            | none => none)
          | _ => none)
        | .aggo l t => (match s.look t with
          | some (.rows e A' xs) => (match castE e c.e xs with
            | some xs => (match c.dec xs l with
              | some h => cond (s.nw && Nat.ble (s.np % 1000) NT && A' == A && !(t == NT) && hole.isNone && !(T == uT)) (K (.np (some hs.length)) (((s.purge t).purge NT).make NT (.nodes c TN A (hs ++ [h]) hole))) none
              | none => none)
            | none => none)
          | _ => none)
        | _ => none) (evBox s d T x K)
    | _ => evBox s d T x K)
  | .store T x y => (match ti C T with
    | some t => (match g s x with
      | .op b off => (match s.look b with
        | some (.cells T0 ds) => (match cellsOf s (g s y) with
          | some l => cond (l.length == t.size && Nat.ble (off + t.size) ds.length) (K .und (s.upd b (.cells T0 (ds.take off ++ l ++ ds.drop (off + t.size))))) none
          | none => none)
        | _ => none)
      | .oe b z i off => (match s.look b with
        | some (.rows e T0 xs) => (match cellsOf s (g s y) with
          | some l => cond (z == e.sz && l.length == t.size && Nat.ble (off + t.size) e.sz && l.all D.plain) ((xs[i]?).bind fun v => decK e ((e.enc v).take off ++ l ++ (e.enc v).drop (off + t.size)) fun v' => K .und (s.upd b (.rows e T0 (xs.set i v')))) none
          | none => none)
        | _ => none)
      | .nf i off => cond (t.size == 1 && !t.agg) (evNf s i off (g s y) K) none
      | .nae z i j off => evNae s t z i j off (g s y) K
      | _ => none)
    | none => none)
  | .buildSlice T n parts => (match ti C T with
    | some ⟨.slice et, _, _, _, _, _⟩ => (match ti C et with
      | some ⟨_, sz, _, _, _, some e⟩ => let s' := s.purge d
        (match (parts.toList.map fun p => g s' p.2).mapM (cellsOf s') with
        | some rows => decAllK e rows fun xs => cond (sz == e.sz && (parts.toList.map (·.1) == List.range n) && rows.all (·.all D.plain) && Nat.ble (n * sz) 16777216) (K (.own d) (s'.make d (.rows e et xs))) none
        | none => none)
      | _ => none)
    | _ => none)
  | .makeSlice T x y => (match ti C T with
    | some ⟨.slice et, _, _, _, _, _⟩ => (match ti C et with
      | some ⟨_, sz, _, z, bytes, some e⟩ => (match g s x with
        | .int .i64 a => (match g s y with
          | .int .i64 b => (match zeroE e (z.cells.toList.map ofVal) with
            | some v => let s' := s.purge d
              cond (sz == e.sz && Nat.ble bytes 300 && decide (a ≤ b ∧ 0 ≤ a ∧ b ≤ 1048576)) (K (.own d) (s'.make d (.rows e et (List.replicate a.toNat v)))) none
            | none => none)
          | _ => none)
        | _ => none)
      | _ => none)
    | _ => none)
  | .call c => (match c.callee with
    | .builtin .append => (match c.args.toList with
      | [x, y] => (match c.argTypes.toList with
        | [S, X] => (match ti C X with
          | some ⟨.str, _, _, _, _, _⟩ => evAppendS C s d x y S K
          | _ => evAppend C s s d x y S X K)
        | _ => none)
      | _ => none)
    | .builtin .copy => (match c.args.toList with
      | [x, y] => (match c.argTypes.toList with
        | S :: _ => evCopy C s x y S K
        | _ => none)
      | _ => none)
    | _ => none)
  | .convert S T x => (match ti C S with
    | some ⟨.str, _, _, _, _, _⟩ => (match ti C T with
      | some ⟨.slice et, _, _, _, _, _⟩ => (match ti C et with
        | some ⟨.int .u8, 1, _, _, _, _⟩ => (match g s x with
          | .str l => K (.own d) ((s.purge d).make d (.rows .u8 et l))
          | _ => none)
        | _ => none)
      | _ => none)
    | _ => none)
  | .range T x => (match ti C T with
    | some ⟨.str, _, _, _, _, _⟩ => (match g s x with
      | .str l => K (.op d 0) ((s.purge d).make d (.sit l 0))
      | _ => none)
    | _ => none)
  | .next x true => (match g s x with
    | .op t 0 => (match s.look t with
      | some (.sit l pos) => cond (decide (pos < l.length)) (K (.tup [.bool true, .int .i64 (pos : Int), .int .i32 ((dec8 l pos).1 : Int)]) (s.upd t (.sit l (pos + (dec8 l pos).2)))) (K (.tup [.bool false]) s)
      | _ => none)
    | _ => none)
  | .makeMap T r => (match ti C T with
    | some ⟨.map _ _, _, _, _, _, _⟩ => (match (match r with | none => D.int .i64 0 | some y => g s y) with
      | .int _ _ => K (.own d) ((s.purge d).make d (.mp []))
      | _ => none)
    | _ => none)
  | .mapUpdate T x y z => (match ti C T with
    | some ⟨.map kt _, _, _, _, _, _⟩ => (match ti C kt with
      | some ⟨.ptr e, _, _, _, _, _⟩ => (match ti C e with
        | some te => cond (Nat.blt 0 te.size) (match dPtr (g s y) with
          | some o => (match g s z with
            | .bool b => (match g s x with
              | .own t => (match s.look t with
                | some (.mp l) => K .und (s.upd t (.mp (mput l o b)))
                | _ => none)
              | _ => none)
            | _ => none)
          | none => none) none
        | none => none)
      | _ => none)
    | _ => none)
  | _ => none

/-! Slots of known kinds -/
def mk1 (i : Nat) : (k : Kd) → k.T → D × List (Nat × OB)
  | .int k, n => (.int k n, [])
  | .bool, b => (.bool b, [])
  | .str, l => (.str l, [])
  | .lst e, xs => (.lst e xs, [])
  | .el e, x => (.agg (e.enc x), [])
  | .own e T, xs => (.own i, [(i, .rows e T xs)])
  | .blk e T, x => (.op i 0, [(i, .cells T (e.enc x))])
  | .np, o => (.np o, [])
  | .any, _ => (.any, [])
  | .mnil, _ => (.mnil, [])
  | .snil, _ => (.nil, [])
  | .emp, _ => (.agg [], [])
  | .fp e, x => (.fp (e.enc x) 0, [])
  | .clo f es, x => (.clo f (esEnc es x), [])
  | .intc k n, _ => (.int k n, [])
  | .inil, _ => (.inil, [])
  | .fnl, _ => (.fnl, [])
  | .al j, _ => (.own j, [])
  | .nal, j => (.na j, [])
  | .nap, o => (.nap o, [])
  | .mp, l => (.own i, [(i, .mp l)])
  | .sit, x => (.op i 0, [(i, .sit x.1 x.2)])
  | .err, b => (.err b, [])
  | .ifc T e, x => (.ifc T (e.enc x), [])
  | .blkx T fs, x => (.op i 0, [(i, .cells T (fxEnc i 0 fs x))])
  | .hown _ _ e T, xs => (.u, [(i, .rows e T xs)])
  | .clox f T fs es, x => (.clov f i (esEnc es x.2), [(i, .cells T (fxEnc i 0 fs x.1))])
  | .ns c T A, hs => (.u, [(i, .nodes c T A hs none)])
  | .nsr c, hs => (.u, [(i, .nodesR c hs)])
def mkSl : (p : Pt) → Tup p → Nat → D
  | [], _, _ => .u
  | [p], x, i => cond (i == p.1) (mk1 p.1 p.2 x).1 .u
  | p :: q :: ps, x, i => cond (i == p.1) (mk1 p.1 p.2 x.1).1 (mkSl (q :: ps) x.2 i)
def mkOw : (p : Pt) → Tup p → List (Nat × OB)
  | [], _ => []
  | [p], x => (mk1 p.1 p.2 x).2
  | p :: q :: ps, x => (mk1 p.1 p.2 x.1).2 ++ mkOw (q :: ps) x.2
/-- A tag's ghost may change: it is none of np / 1000 .. np % 1000 - 1. -/
def nkp (np i : Nat) : Bool := Nat.ble (np % 1000) i || Nat.blt i (np / 1000)
def mkP (n np : Nat) (nw : Bool) (p : Pt) (x : Tup p) : St := ⟨n, np, nw, mkSl p x, mkOw p x⟩
/-- What stands in a field of the variable that a slot points to. -/
def subF (s : St) (i0 j : Nat) : D :=
  match s.sl i0 with
  | .op t 0 => (match s.look t with
    | some (.cells _ ds) => ds.getD j .u
    | _ => .u)
  | .clov _ t _ => (match s.look t with
    | some (.cells _ ds) => ds.getD j .u
    | _ => .u)
  | _ => .u
/-- lax: a list that is owned may be looked at. -/
def un1 (s : St) (lax : Bool) (i : Nat) : (k : Kd) → Option k.T
  | .int k => match s.sl i with
    | .int k' n => cond (decide (k' = k)) (some n) none
    | _ => none
  | .bool => match s.sl i with
    | .bool b => some b
    | _ => none
  | .str => match s.sl i with
    | .str l => some l
    | _ => none
  | .lst e => match s.sl i with
    | .lst e' xs => castE e' e xs
    | .nil => some []
    | .own t => cond lax (match s.look t with
      | some (.rows e' _ xs) => castE e' e xs
      | _ => none) none
    | _ => none
  | .el e => match s.sl i with
    | .agg ds => e.dec ds
    | _ => none
  | .own e T => match s.sl i with
    | .own t => cond ((nkp s.np i || t == i) && !(i == NT) && !(Nat.ble NTR i)) (match s.look t with
      | some (.rows e' T' xs) => cond (T' == T) (castE e' e xs) none
      | _ => none) none
    | .nil => cond (nkp s.np i && !(i == NT) && !(Nat.ble NTR i)) (some []) none
    | _ => none
  | .blk e T => match s.sl i with
    | .op t 0 => cond ((nkp s.np i || t == i) && !(i == NT) && !(Nat.ble NTR i)) (match s.look t with
      | some (.cells T' ds) => cond (T' == T) (e.dec ds) none
      | _ => none) none
    | _ => none
  | .np => dPtr (s.sl i)
  | .any => match s.sl i with
    | .op _ _ => some ()
    | d => cond d.plain (some ()) none
  | .mnil => match s.sl i with
    | .mnil => some ()
    | _ => none
  | .snil => match s.sl i with
    | .nil => some ()
    | _ => none
  | .emp => match s.sl i with
    | .agg [] => some ()
    | _ => none
  | .fp e => match s.sl i with
    | .fp ds 0 => e.dec ds
    | .op t 0 => cond lax (match s.look t with
      | some (.cells _ ds) => cond (ds.all D.plain) (e.dec ds) none
      | _ => none) none
    | _ => none
  | .clo f es => match s.sl i with
    | .clo f' ds => cond (decide (f' = f)) (esDec es ds) none
    | _ => none
  | .intc k n => match s.sl i with
    | .int k' n' => cond (decide (k' = k ∧ n' = n)) (some ()) none
    | _ => none
  | .inil => match s.sl i with
    | .inil => some ()
    | _ => none
  | .fnl => match s.sl i with
    | .fnl => some ()
    | _ => none
  | .nal => match s.sl i with
    | .na j => some j
    | _ => none
  | .nap => match s.sl i with
    | .nap o => some o
    | .nae z j k 0 => cond (z == 3) (some (some (j, k))) none
    | .pnil => some none
    | _ => none
  | .al j => match s.sl i with
    | .own t => match s.sl j with
      | .own t' => cond (t == t' && ((nkp s.np j || t' == j) && !(j == NT) && !(Nat.ble NTR j))) (some ()) none
      | _ => none
    | .nil => match s.sl j with
      | .nil => cond (nkp s.np j && !(j == NT) && !(Nat.ble NTR j)) (some ()) none
      | _ => none
    | _ => none
  | .mp => match s.sl i with
    | .own t => cond ((nkp s.np i || t == i) && !(i == NT) && !(Nat.ble NTR i)) (match s.look t with
      | some (.mp l) => some l
      | _ => none) none
    | _ => none
  | .sit => match s.sl i with
    | .op t 0 => cond ((nkp s.np i || t == i) && !(i == NT) && !(Nat.ble NTR i)) (match s.look t with
      | some (.sit l pos) => some (l, pos)
      | _ => none) none
    | _ => none
  | .ifc T e => match s.sl i with
    | .ifc T' ds => cond (T' == T) (e.dec ds) none
    | _ => none
  | .err => match s.sl i with
    | .inil => some false
    | .ifc _ _ => some true
    | .err b => some b
    | _ => none
  | .blkx T fs => match s.sl i with
    | .op t 0 => cond ((nkp s.np i || t == i) && !(i == NT) && !(Nat.ble NTR i)) (match s.look t with
      | some (.cells T' ds) => cond (T' == T && Nat.ble fs.length 64) (fxDec t fs ds) none
      | _ => none) none
    | _ => none
  | .clox f T fs es => match s.sl i with
    | .clov f' t cs => cond ((nkp s.np i || t == i) && !(i == NT) && !(Nat.ble NTR i)) (match s.look t with
      | some (.cells T' ds) => cond (T' == T && Nat.ble fs.length 64 && decide (f' = f)) (match fxDec t fs ds with
        | none => none
        | some x => match esDec es cs with
          | none => none
          | some y => some (x, y)) none
      | _ => none) none
    | _ => none
  | .hown i0 j e T => cond (i == subT i0 j && Nat.blt j 64) (match subF s i0 j with
    | .own t => (match s.look t with
      | some (.rows e' T' xs) => cond (T' == T) (castE e' e xs) none
      | _ => none)
    | .nil => some []
    | _ => none) none
  | .ns c T A => cond (i == NT) (match s.look NT with
    | some (.nodes c' T' A' hs none) => cond (T' == T && A' == A) (Cl.cast c' c hs) none
    | _ => none) none
  | .nsr c => cond (i == NTR) (match s.look NTR with
    | some (.nodesR c' hs) => Cl.cast c' c hs
    | _ => cond lax (match s.look NT with
      | some (.nodes c' _ _ hs none) => Cl.cast c' c hs
      | _ => none) none) none
def tag1 (s : St) (i : Nat) : Kd → List Nat
  | .own _ _ => match s.sl i with
    | .own t => [t]
    | _ => []
  | .blk _ _ => match s.sl i with
    | .op t _ => [t]
    | _ => []
  | .mp => match s.sl i with
    | .own t => [t]
    | _ => []
  | .sit => match s.sl i with
    | .op t _ => [t]
    | _ => []
  | .ns _ _ _ => [NT]
  | .blkx _ _ => match s.sl i with
    | .op t _ => [t]
    | _ => []
  | .clox _ _ _ _ => match s.sl i with
    | .clov _ t _ => [t]
    | _ => []
  | .hown i0 j _ _ => match subF s i0 j with
    | .own t => [t]
    | _ => []
  | _ => []
def unP (s : St) (lax : Bool) : (p : Pt) → Option (Tup p)
  | [] => some ()
  | [p] => un1 s lax p.1 p.2
  | p :: q :: ps => match un1 s lax p.1 p.2 with
    | none => none
    | some x => match unP s lax (q :: ps) with
      | none => none
      | some y => some (x, y)
def tags (s : St) (p : Pt) : List Nat := p.flatMap fun q => tag1 s q.1 q.2
def nodupB : List Nat → Bool
  | [] => true
  | t :: ts => !(ts.any (· == t)) && nodupB ts
/-- The slots of known kinds, and no two of them share a block. -/
def unD (s : St) (p : Pt) : Option (Tup p) := cond (nodupB (tags s p) && nodupB (p.map (·.1))) (unP s false p) none

/-! Calls -/
def Fl.flat : Fl → Bool
  | .int _ => true | .bool => true | .str => true | .np => true | .pnil => true | .nil => true
  | _ => false
def E.flat : E → Bool
  | .node => false
  | .rc f fs _ => f.flat && fs.all Fl.flat
  | _ => true
/-- What does not lean on memory that nobody changes. -/
def Kd.flat : Kd → Bool
  | .lst _ => false | .el e => e.flat | .own e _ => e.flat | .blk e _ => e.flat | .fp _ => false | .nsr _ => false | .ns c _ _ => (match c with | .h => true | .k => false) | .clo _ _ => false | .ifc _ _ => false
  | .blkx _ fs => fs.all FX.flat | .hown _ _ e _ => e.flat | .clox _ _ _ _ => false
  | _ => true
def Kd.scalar : Kd → Bool
  | .int _ => true | .bool => true | .str => true
  | _ => false
/-- What is handed to a callee as a list to look at, of lists that the caller owns. -/
def lent (s : St) : Pt → List Nat
  | [] => []
  | (i, .lst _) :: ps => match s.sl i with
    | .own t => t :: lent s ps
    | _ => lent s ps
  | (i, .fp _) :: ps => match s.sl i with
    | .op t 0 => t :: lent s ps
    | _ => lent s ps
  | (_, .nsr _) :: ps => match s.look NTR with
    | some (.nodesR _ _) => lent s ps
    | _ => match s.look NT with
      | some (.nodes _ _ _ _ _) => NT :: lent s ps
      | _ => lent s ps
  | _ :: ps => lent s ps
def freezeAll (s : St) : List Nat → Option St
  | [] => some s
  | t :: ts => match s.look t with
    | some (.rows e _ xs) => freezeAll (s.freeze t (.lst e xs)) ts
    | some (.cells _ ds) => cond (ds.all D.plain) (freezeAll (s.freeze t (.fp ds 0)) ts) none
    | _ => none
def purgeAll (s : St) : List Nat → St
  | [] => s
  | t :: ts => purgeAll (s.purge t) ts
def realK (p : Pt) : List Nat := (p.map (·.1)).filter fun k => Nat.blt k 1000
def hasNT (p : Pt) : Bool := p.any fun q => q.1 == NT
/-- The tags of what a call hands back. -/
def outTag0 (d : Nat) (args : List D) (k : Nat) : Nat := cond (Nat.blt k 1000) (1000 * (d + 1) + k) (cond (k == NT) NT (match args.getD (k - 1000) .u with
  | .op t _ => t
  | .own t => t
  | .clov _ t _ => t
  | _ => 0))
def outTag (d : Nat) (args : List D) (k : Nat) : Nat := cond (Nat.ble SB k) (subT (outTag0 d args ((k - SB) / 64)) ((k - SB) % 64)) (outTag0 d args k)
def outOw (τ : Nat → Nat) : (p : Pt) → Tup p → List (Nat × OB)
  | [], _ => []
  | [p], x => (mk1 (τ p.1) p.2 x).2
  | p :: q :: ps, x => (mk1 (τ p.1) p.2 x.1).2 ++ outOw τ (q :: ps) x.2
def outDs (τ : Nat → Nat) : (p : Pt) → Tup p → List D
  | [], _ => []
  | [p], x => cond (Nat.blt p.1 1000) [(mk1 (τ p.1) p.2 x).1] []
  | p :: q :: ps, x => cond (Nat.blt p.1 1000) ((mk1 (τ p.1) p.2 x.1).1 :: outDs τ (q :: ps) x.2) (outDs τ (q :: ps) x.2)
def joinD : List D → D
  | [d] => d
  | [] => .u
  | ds => .tup ds
def argSt (s : St) (args : List D) : St := ⟨args.length, 0, s.nw, fun i => args.getD i .u, s.ow⟩
def backT (τ : Nat → Nat) (p : Pt) : List Nat := ((p.map (·.1)).filter fun k => !(Nat.blt k 1000) && Nat.blt k SB).map τ
/-- What comes under tags of its own. -/
def newK (p : Pt) : List Nat := (p.map (·.1)).filter fun k => Nat.blt k 1000 || Nat.ble SB k
/-- The places of lists that are owned, within a variable. -/
def subsF : Nat → List FX → List Nat
  | _, [] => []
  | j, .own :: fs => j :: subsF (j + 1) fs
  | j, _ :: fs => subsF (j + 1) fs
def Kd.subs : Kd → List Nat
  | .blkx _ fs => subsF 0 fs
  | .clox _ _ fs _ => subsF 0 fs
  | _ => []
/-- The lists within variables are told, too. -/
def wfX (p : Pt) : Bool := p.all fun q => q.2.subs.all fun j => (p.map (·.1)).contains (subT q.1 j) && Nat.blt j 64 && Nat.blt q.1 SB
/-- .. and the variables of these lists. -/
def pfX (p : Pt) : Bool := p.all fun q => Nat.blt q.1 SB || ((p.map (·.1)).contains ((q.1 - SB) / 64) && Nat.blt ((q.1 - SB) / 64) SB)
def Kd.noAl (b : Bool) : Kd → Bool
  | .al _ => false
  | .nal => false
  | .nap => b
  | _ => true
def D.isRef : D → Bool
  | .own _ => true
  | .op _ _ => true
  | .clov _ _ _ => true
  | _ => false
def callOK (s : St) (d : Nat) (args : List D) (ent : Ent) : Bool :=
  nodupB (tags (argSt s args) ent.pin ++ lent (argSt s args) ent.pin) && realK ent.pin == List.range args.length && realK ent.pout == List.range (realK ent.pout).length
  && (backT (outTag d args) ent.pout).all (fun t => (tags (argSt s args) ent.pin).contains t) && ent.pout.all (fun q => Nat.blt q.1 1000 || q.1 == NT || Nat.ble SB q.1 || (Nat.blt q.1 NT && (args.getD (q.1 - 1000) .u).isRef)) && nodupB (ent.pout.map fun q => outTag d args q.1)
  && Nat.ble (s.np % 1000) (1000 * (d + 1)) && Nat.ble (s.np % 1000) NT && (!(hasNT ent.pout) || s.nw) && ent.pout.all (fun q => q.2.noAl (hasNT ent.pout)) && wfX ent.pout && pfX ent.pout
/-- What is known of a function; of one that is handed another function it may be known for each such one. -/
def pickE (f : FuncId) (args : List D) : Option Ent :=
  cond (Nat.blt f 1000000) (match args.findSome? (fun d => match d with | .clo g _ => some g | .clov g _ _ => some g | _ => none) with
    | some g => (match C.fns (f + 1000000 * (g + 1)) with
      | some e => some e
      | none => C.fns f)
    | none => C.fns f) none
def evCall (s : St) (d : Nat) (f : FuncId) (args : List D) (K : D → St → Option R) : Option R :=
  match pickE C f args with
  | none => none
  | some ent =>
    cond (callOK s d args ent)
      (match unP (argSt s args) true ent.pin with
       | none => none
       | some x =>
         match (cond (ent.pout.all fun q => q.2.flat) (some s) (freezeAll s (lent (argSt s args) ent.pin)) : Option St) with
         | none => none
         | some s0 =>
         let τ := outTag d args
         let back := backT τ ent.pout
         let s2 := purgeAll s0 (((tags (argSt s args) ent.pin).filter fun t => !(back.contains t) || t == NT) ++ (newK ent.pout).map τ)
         (ent.m x).bind fun r => K (joinD (outDs τ ent.pout r)) ⟨s2.n, s2.np, s2.nw, s2.sl, outOw τ ent.pout r ++ s2.ow.filter fun p => !(back.contains p.1)⟩)
      none

def isPure : Op → Bool
  | .move _ => true | .assign _ => true | .pick _ _ _ => true | .lookup _ _ _ _ => true | .binOp _ _ _ _ _ => true | .unOp _ _ _ => true | .extract _ _ => true | .index _ _ _ => true | .indexAddr _ _ _ => true | .fieldAddr _ _ _ => true | .load _ _ => true | .nilCheck _ => true | .field _ _ _ => true | .build _ _ => true | .slice _ _ _ _ _ => true | .makeFunc _ _ _ => true | .makeInterface _ _ => true | .typeAssert _ _ _ _ => true
  | .call c => (match c.callee with
    | .builtin .len => true | .builtin .min => true | .builtin .max => true
    | _ => false)
  | _ => false
/-- A call whose answer is a number, a bool or a text, of arguments that it only looks at. -/
def evCallQ (s : St) (f : FuncId) (args : List D) (K : D → Option R) : Option R :=
  match pickE C f args with
  | none => none
  | some ent =>
    cond (ent.pout.all (fun q => q.2.scalar) && (tags (argSt s args) ent.pin).isEmpty && nodupB (lent (argSt s args) ent.pin) && realK ent.pin == List.range args.length && ent.pout.map (·.1) == List.range ent.pout.length && (realK ent.pout).length == ent.pout.length)
      (match unP (argSt s args) true ent.pin with
       | none => none
       | some x => (ent.m x).bind fun r => K (joinD (outDs id ent.pout r)))
      none
def ownTags : List D → List Nat
  | [] => []
  | .own t :: ds => t :: ownTags ds
  | _ :: ds => ownTags ds
/-- A node's type. -/
def nodeB (s : St) (T : TypeId) : Bool := match s.look NT with
  | some (.nodes _ TN _ _ _) => T == TN
  | _ => false
/-- Lists within a variable that is loaded whole. -/
def preL (s : St) (T : TypeId) (x : Operand) : List Nat :=
  match ti C T with
  | some t => cond t.agg (match g s x with
    | .op b off => (match s.look b with
      | some (.cells _ ds) => ownTags ((ds.drop off).take t.size)
      | _ => [])
    | _ => []) []
  | none => []
def preE (s : St) : Op → Bool
  | .load T x => (preL C s T x).isEmpty
  | _ => true
/-- Lists that are frozen ahead of an operation. -/
def preO (s : St) : Op → List Nat
  | .buildSlice _ _ parts => ownTags (parts.toList.map fun q => g s q.2)
  | .store _ x y => (match g s x with
    | .nf _ off => (match g s y with
      | .own t => (match s.look NT with
        | some (.nodes c _ _ _ _) => cond (Nat.blt off c.n) [t] []
        | _ => [])
      | _ => [])
    | _ => [])
  | _ => []
/-- Lists within variables that a callee looks at. -/
def preP (s : St) (args : List D) : Pt → List Nat
  | [] => []
  | (i, .fp _) :: ps => (match args.getD i .u with
    | .op t 0 => (match s.look t with
      | some (.cells _ ds) => ownTags ds
      | _ => [])
    | _ => []) ++ preP s args ps
  | _ :: ps => preP s args ps
def preC (s : St) (f : FuncId) (args : List D) : List Nat :=
  match pickE C f args with
  | some ent => preP s args ent.pin
  | none => []
def evOp (s : St) (dst : Option Tmp) (o : Op) (K : D → St → Option R) : Option R :=
  match o with
  | .call ⟨.value (.func f), xs, _⟩ => (match freezeAll s (preC C s f (xs.toList.map (g s))) with
    | some s' => evCall C s' (dst.getD 900000) f (xs.toList.map (g s')) K
    | none => none)
  | .call ⟨.value (.tmp t), xs, _⟩ => (match s.sl t with
    | .clo f ds => evCall C s (dst.getD 900000) f (xs.toList.map (g s) ++ ds) K
    | .clov f t ds => cond (Nat.blt f 1000000) (evCall C s (dst.getD 900000) f (xs.toList.map (g s) ++ .op t 0 :: ds) K) none
    | _ => none)
  | .call ⟨.invoke x n, xs, _⟩ => (match g s x with
    | .clov f t [] => (match mfind C f n with
      | some q => evCall C s (dst.getD 900000) q.2.2 (.op t 0 :: xs.toList.map (g s)) K
      | none => none)
    | _ => none)
  | .convert S T x => (match ti C T with
    | some ⟨.slice _, _, _, _, _, _⟩ => cond (Nat.ble (s.np % 1000) (dst.getD 900000)) (evEff C s (dst.getD 900000) (.convert S T x) K) none
    | _ => evPure C s (.convert S T x) fun d => K d s)
  | .load T x => (match freezeAll s (preL C s T x) with
    | some s' => evPure C s' (.load T x) fun d => K d s'
    | none => none)
  | .build T parts => cond (nodeB s T || (C.sch (1000000 + T)).isSome) (evPure C s (.build T parts) fun d => K d s) (match freezeAll s (ownTags (parts.toList.map fun q => g s q.2)) with
    | some s' => evPure C s' (.build T parts) fun d => K d s'
    | none => none)
  | o => cond (isPure o) (evPure C s o fun d => K d s) (cond (Nat.ble (s.np % 1000) (dst.getD 900000)) (match freezeAll s (preO s o) with
    | some s' => evEff C s' (dst.getD 900000) o K
    | none => none) none)
def evOpQ (s : St) (o : Op) (K : D → Option R) : Option R :=
  match o with
  | .call ⟨.value (.func f), xs, _⟩ => evCallQ C s f (xs.toList.map (g s)) K
  | o => evPure C s o K

/-- The operations of a region, one behind the other. -/
def evOps (step : St → Oper → (St → Option R) → Option R) (all : List Oper) : List Oper → St → (St → Option R) → Option R
  | [], s, k => k s
  | o :: l, s, k =>
    match o.guard with
    | none => step s o fun s' => evOps step all l s' k
    | some (j, b) => match (all[j]?).bind (·.dst) with
      | none => none
      | some t => match s.sl t with
        | .bool c => cond c
            (let s' := s.set t (.bool true); cond b (step s' o fun s' => evOps step all l s' k) (match s'.put o.dst .und with
              | some s' => evOps step all l s' k
              | none => none))
            (let s' := s.set t (.bool false); cond b (match s'.put o.dst .und with
              | some s' => evOps step all l s' k
              | none => none) (step s' o fun s' => evOps step all l s' k))
        | .und => (match s.put o.dst .und with
            | some s' => evOps step all l s' k
            | none => none)
        | _ => none
def stepN (s : St) (o : Oper) (k : St → Option R) : Option R := evOp C s o.dst o.op fun d s' => match s'.put o.dst d with
  | some s'' => k s''
  | none => none
def stepQ (s : St) (o : Oper) (k : St → Option R) : Option R := evOpQ C s o.op fun d => match s.put o.dst d with
  | some s'' => k s''
  | none => none

/-! Regions that draw their order, and write -/
/-- What is so of the region's text; not to be looked into where models are printed. -/
def chk (b : Bool) : Bool := b
/-- What reads the nodes, or changes anything. -/
def lateB (s : St) (o : Op) : Bool :=
  !isPure o || (match o with
    | .load _ x => (match g s x with
      | .nf _ _ => true | .nae _ _ _ _ => true
      | _ => false)
    | .indexAddr _ x _ => (match g s x with
      | .na _ => true | .nas _ _ _ _ => true
      | _ => false)
    | .call c => c.args.any fun x => (match g s x with
      | .na _ => true | .nas _ _ _ _ => true
      | _ => false)
    | _ => false)
def lateO (s : St) (late : List Nat) (o : Oper) : Bool :=
  o.after.any (fun e => late.contains e.on) || (match o.guard with | some (j, _) => late.contains j | none => false) || lateB s o.op
def earlyE (ops : Array Oper) : List Oper → Nat → Array Bool → List Nat → St → (Array Bool → List Nat → St → Option R) → Option R
  | [], _, listed, late, s, K => K listed late s
  | o :: l, i, listed, late, s, K =>
    cond (lateO s late o) (earlyE ops l (i + 1) listed (late ++ [i]) s K)
      (cond (chk (Region.free .any ops listed i && (Region.ready .any ops listed).contains i)) (match o.guard with
        | none => evPure C ⟨s.n, s.np, s.nw, s.sl, s.ow.filter fun p => !(p.1 == NT)⟩ o.op fun d => match s.put o.dst d with
          | some s' => earlyE ops l (i + 1) (listed.setIfInBounds i true) late s' K
          | none => none
        | some (j, b) => match (ops.toList[j]?).bind (·.dst) with
          | none => none
          | some t => match s.sl t with
            | .bool c => cond (c == b) (evPure C ⟨s.n, s.np, s.nw, s.sl, s.ow.filter fun p => !(p.1 == NT)⟩ o.op fun d => match s.put o.dst d with
                | some s' => earlyE ops l (i + 1) (listed.setIfInBounds i true) late s' K
                | none => none) (match s.put o.dst .und with
                | some s' => earlyE ops l (i + 1) (listed.setIfInBounds i true) late s' K
                | none => none)
            | .und => (match s.put o.dst .und with
                | some s' => earlyE ops l (i + 1) (listed.setIfInBounds i true) late s' K
                | none => none)
            | _ => none) none)
/-- Two may come up: a load, and a slice that is built of what is there. -/
def diam (ops : Array Oper) (listed : Array Bool) (i j : Nat) : Bool :=
  match ops.toList[i]? with
  | some ⟨some di, .load _ (.tmp a), _, _, _, none⟩ => (match ops.toList[j]? with
    | some ⟨some dj, .buildSlice _ _ parts, _, _, _, none⟩ => !(a == dj) && !(di == dj) && parts.toList.all (fun q => match q.2 with | .tmp b => !(b == di) | _ => true)
      && Region.ready .any ops listed == [i, j] && Region.ready .any ops (listed.setIfInBounds i true) == [j] && Region.ready .any ops (listed.setIfInBounds j true) == [i]
      && (listed.setIfInBounds i true).setIfInBounds j true == (listed.setIfInBounds j true).setIfInBounds i true
    | _ => false)
  | _ => false
/-- Of several that may come up, one that reads slots, and what is hidden. -/
def slotB (w0 : List (Nat × OB)) (s : St) : Op → Bool
  | .extract _ _ => true
  | .move _ => true
  | .assign _ => true
  | .fieldAddr _ _ _ => true
  | .load _ x => (match g s x with
    | .fp _ _ => true
    | .und => true
    | .op b _ => w0.any fun p => p.1 == b
    | _ => false)
  | .call ⟨.builtin .len, xs, _⟩ => (match xs.toList with
    | [x] => (match g s x with
      | .str _ => true
      | .lst _ _ => true
      | .und => true
      | _ => false)
    | _ => false)
  | .binOp _ _ _ _ _ => true
  | .unOp _ _ _ => true
  | .pick _ _ _ => true
  | _ => false
def quickB (w0 : List (Nat × OB)) (ops : Array Oper) (listed : Array Bool) (s : St) (i : Nat) : Bool :=
  (match ops.toList[i]? with | some o => slotB w0 s o.op | none => false) && Region.free .any ops listed i && (Region.ready .any ops listed).contains i
/-- An operation under its guard. -/
def guardE (ops : Array Oper) (s : St) (o : Oper) (go skip : St → Option R) : Option R :=
  match o.guard with
  | none => go s
  | some (j, b) => match (ops.toList[j]?).bind (·.dst) with
    | none => none
    | some t => match s.sl t with
      | .bool c => cond c
          (let s' := s.set t (.bool true); cond b (go s') (match s'.put o.dst .und with
            | some s' => skip s'
            | none => none))
          (let s' := s.set t (.bool false); cond b (match s'.put o.dst .und with
            | some s' => skip s'
            | none => none) (go s'))
      | .und => (match s.put o.dst .und with
          | some s' => skip s'
          | none => none)
      | _ => none
def lateE (ops : Array Oper) (w0 : List (Nat × OB)) : Nat → List Nat → Array Bool → St → (St → Option R) → Option R
  | _, [], listed, s, K => cond (chk (Region.ready .any ops listed == [])) (K ⟨s.n, s.np, s.nw, s.sl, w0 ++ s.ow⟩) none
  | 0, _ :: _, _, _, _ => none
  | n + 1, i :: late, listed, s, K =>
    cond (chk (Region.ready .any ops listed == [i])) (match ops.toList[i]? with
      | none => none
      | some o => cond (w0.all fun p => !(p.1 == o.dst.getD 900000) && !(p.1 / 1000 == o.dst.getD 900000 + 1) && Nat.blt p.1 SB) (guardE ops s o
          (fun s => cond (slotB w0 s o.op) (evPure C ⟨s.n, s.np, s.nw, s.sl, w0⟩ o.op fun d => match s.put o.dst d with
            | some s' => lateE ops w0 n late (listed.setIfInBounds i true) s' K
            | none => none)
            (stepN C s o fun s' => cond (s'.ow.all fun q => w0.all fun p => !(p.1 == q.1)) (lateE ops w0 n late (listed.setIfInBounds i true) s' K) none))
          (fun s' => lateE ops w0 n late (listed.setIfInBounds i true) s' K)) none)
      (match (i :: late).find? (quickB w0 ops listed s) with
      | some k => (match ops.toList[k]? with
        | none => none
        | some o => guardE ops s o
          (fun s => evPure C ⟨s.n, s.np, s.nw, s.sl, w0⟩ o.op fun d => match s.put o.dst d with
            | some s' => lateE ops w0 n ((i :: late).erase k) (listed.setIfInBounds k true) s' K
            | none => none)
          (fun s' => lateE ops w0 n ((i :: late).erase k) (listed.setIfInBounds k true) s' K))
      | none => match late, n with
        | j :: late, n + 1 => cond (chk (diam ops listed i j)) (match ops.toList[i]? with
          | none => none
          | some o => match ops.toList[j]? with
            | none => none
            | some o' => cond (w0.all fun p => !(p.1 == o'.dst.getD 900000) && !(p.1 / 1000 == o'.dst.getD 900000 + 1) && Nat.blt p.1 SB) (cond (preE C s o.op) (stepN C s o fun s => stepN C s o' fun s' => cond (s'.ow.all fun q => w0.all fun p => !(p.1 == q.1)) (lateE ops w0 n late ((listed.setIfInBounds i true).setIfInBounds j true) s' K) none) none) none) none
        | _, _ => none)
/-- What is hidden speaks of nothing else. -/
def hidden (w0 : List (Nat × OB)) : Bool := w0.all fun p => match p.2 with
  | .cells _ ds => ds.all fun d => d.plain || (match d with
    | .own t => w0.any fun q => q.1 == t
    | .op t _ => w0.any fun q => q.1 == t
    | _ => false)
  | .rows _ _ _ => true
  | .nodes _ _ _ _ _ => false
  | .nodesR _ _ => true
  | .mp _ => true
  | .sit _ _ => true
def evHeld (s : St) (ops : Array Oper) (k : St → Option R) : Option R :=
  cond (chk (Region.noSelect ops)) (earlyE C ops ops.toList 0 (Array.replicate ops.size false) [] s fun listed late s' =>
    cond (hidden (s'.ow.filter fun p => !(p.1 == NT))) (lateE C ops (s'.ow.filter fun p => !(p.1 == NT)) late.length late listed ⟨s'.n, s'.np, s'.nw, s'.sl, s'.ow.filter fun p => p.1 == NT⟩ k) none) none
/-! Regions that draw their order: what only reads may be taken early, as long as nobody changes what it reads -/
/-- What an operation that only reads looks at. -/
def fpr0 (s : St) (o : Op) : List Nat :=
  let own := fun x => (match g s x with
    | .own t => [t]
    | .na _ => [NT]
    | .nas _ _ _ _ => [NT]
    | _ => [])
  match o with
  | .load _ x => (match g s x with
    | .op t _ => [t]
    | .oe t _ _ _ => [t]
    | .nf _ _ => [NT, NTR]
    | .nae _ _ _ _ => [NT]
    | _ => [])
  | .indexAddr _ x _ => own x
  | .slice _ x _ _ _ => own x
  | .convert _ _ x => own x
  | .lookup _ x _ _ => own x
  | .binOp _ _ x _ _ => own x
  | .call c => c.args.toList.flatMap own
  | .build _ parts => parts.toList.flatMap fun q => own q.2
  | _ => []
/-- .. and what that speaks of. -/
def fpr (s : St) (o : Op) : List Nat := fpr0 s o ++ (fpr0 s o).flatMap fun t => (match s.look t with
  | some (.cells _ ds) => ds.flatMap fun d => (match d with
    | .own t' => [t']
    | .op t' _ => [t']
    | _ => [])
  | _ => [])
/-- What looks at a list's head alone: whatever stands in memory. -/
def freeB (s : St) : Op → Bool
  | .slice _ x _ _ .none => (match g s x with
    | .na _ => true
    | _ => false)
  | .call ⟨.builtin .len, xs, _⟩ => (match xs.toList with
    | [x] => (match g s x with
      | .na _ => true
      | _ => false)
    | _ => false)
  | _ => false
def hidN (w0 : List (Nat × OB)) : Bool := w0.all fun p => match p.2 with
  | .cells _ ds => ds.all fun d => d.plain || (match d with
    | .own t => w0.any fun q => q.1 == t
    | .op t _ => w0.any fun q => q.1 == t
    | .opb t _ => w0.any fun q => q.1 == t
    | _ => false)
  | _ => true
/-- A hidden block's ghost stays, whatever an operation makes. -/
def othB (ow : List (Nat × OB)) (dt t : Nat) : Bool := !(t == dt) && !(t / 1000 == dt + 1) && (Nat.blt t SB || (ow.all (fun q => !(q.1 == (t - SB) / 64)) && !((t - SB) / 64 / 1000 == dt + 1)))
def fireB (ops : Array Oper) (listed : Array Bool) (i : Nat) : Bool := Region.free .any ops listed i && (Region.ready .any ops listed).contains i
/-- append of a node's list, while other things may be read yet. -/
def appNT (s : St) (o : Op) : Bool :=
  match o with
  | .call c => (match c.callee with
    | .builtin .append => (match c.args.toList with
      | [_, y] => (match g s y with
        | .na _ => true
        | .nas _ _ _ _ => true
        | _ => false)
      | _ => false)
    | _ => false)
  | _ => false
def stepA (sy s : St) (o : Oper) (k : St → Option R) : Option R :=
  match o.op with
  | .call c => (match c.callee with
    | .builtin .append => (match c.args.toList with
      | [x, y] => (match c.argTypes.toList with
        | [S, X] => (match ti C X with
          | some ⟨.str, _, _, _, _, _⟩ => none
          | _ => cond (Nat.ble (s.np % 1000) (o.dst.getD 900000)) (evAppend C sy s (o.dst.getD 900000) x y S X fun d s' => match s'.put o.dst d with
            | some s'' => k s''
            | none => none) none)
        | _ => none)
      | _ => none)
    | _ => none)
  | _ => none
def stepM (sy s : St) (o : Oper) (k : St → Option R) : Option R := cond (appNT sy o.op) (stepA C sy s o k) (stepN C s o k)
def evMix (ops : Array Oper) : List (Bool × Nat) → Array Bool → List (Nat × List Nat) → St → (St → Option R) → Option R
  | [], listed, _, s, K => cond (chk (Region.ready .any ops listed == [])) (K s) none
  | (true, i) :: sch, listed, T, s, K => cond (chk (fireB ops listed i)) (match ops.toList[i]? with
    | none => none
    | some o => guardE ops s o
      (fun s => cond (isPure o.op) (evPure C ⟨s.n, s.np, s.nw, s.sl, s.ow.filter fun p => (fpr s o.op).contains p.1⟩ o.op fun d => match s.put o.dst d with
        | some s' => evMix ops sch (listed.setIfInBounds i true) (cond (freeB s o.op) ((i, []) :: T) ((i, fpr s o.op ++ (T.filter fun q => Go.Proofs.YtpedmnlpccngiaaDoor.K.waitsB .any ops i q.1).flatMap (·.2)) :: T.filter fun q => !(Go.Proofs.YtpedmnlpccngiaaDoor.K.waitsB .any ops i q.1))) s' K
        | none => none) none)
      (fun s' => evMix ops sch (listed.setIfInBounds i true) T s' K)) none
  | (false, i) :: sch, listed, T, s, K => cond (chk (Region.ready .any ops listed == [i])) (match ops.toList[i]? with
    | none => none
    | some o => guardE ops s o
      (fun s => let T' := T.filter fun q => !(Go.Proofs.YtpedmnlpccngiaaDoor.K.waitsB .any ops i q.1)
        let pd := T'.flatMap (·.2)
        cond (hidN (s.ow.filter fun p => pd.contains p.1) && (s.ow.filter fun p => pd.contains p.1).all (fun p => othB (s.ow.filter fun p => !(pd.contains p.1)) (o.dst.getD 900000) p.1))
          (stepM C s ⟨s.n, s.np, s.nw && !(pd.contains NT), s.sl, s.ow.filter fun p => !(pd.contains p.1)⟩ o fun s' =>
            cond (s'.ow.all fun q => !(pd.contains q.1)) (evMix ops sch (listed.setIfInBounds i true) T' ⟨s'.n, s'.np, s.nw, s'.sl, (s.ow.filter fun p => pd.contains p.1) ++ s'.ow⟩ K) none) none)
      (fun s' => evMix ops sch (listed.setIfInBounds i true) (T.filter fun q => !(Go.Proofs.YtpedmnlpccngiaaDoor.K.waitsB .any ops i q.1)) s' K)) none
/-! Regions in which several may come up: each is walked, and all must come to the same -/
open Classical in
noncomputable def both {R : Type} (a b : Option R) : Option R := if a = b then a else none
def mixE (ops : Array Oper) (i : Nat) (T : List (Nat × List Nat)) (s : St) (Q : List (Nat × List Nat) → St → Option R) : Option R :=
  match ops.toList[i]? with
    | none => none
    | some o => guardE ops s o
      (fun s => cond (isPure o.op) (evPure C ⟨s.n, s.np, s.nw, s.sl, s.ow.filter fun p => (fpr s o.op).contains p.1⟩ o.op fun d => match s.put o.dst d with
        | some s' => Q ((i, fpr s o.op ++ (T.filter fun q => Go.Proofs.YtpedmnlpccngiaaDoor.K.waitsB .any ops i q.1).flatMap (·.2)) :: T.filter fun q => !(Go.Proofs.YtpedmnlpccngiaaDoor.K.waitsB .any ops i q.1)) s'
        | none => none) none)
      (fun s' => Q T s')
def mixL (ops : Array Oper) (i : Nat) (T : List (Nat × List Nat)) (s : St) (Q : List (Nat × List Nat) → St → Option R) : Option R :=
  match ops.toList[i]? with
    | none => none
    | some o => guardE ops s o
      (fun s => let T' := T.filter fun q => !(Go.Proofs.YtpedmnlpccngiaaDoor.K.waitsB .any ops i q.1)
        let pd := T'.flatMap (·.2)
        cond (hidN (s.ow.filter fun p => pd.contains p.1) && (s.ow.filter fun p => pd.contains p.1).all (fun p => othB (s.ow.filter fun p => !(pd.contains p.1)) (o.dst.getD 900000) p.1))
          (stepM C s ⟨s.n, s.np, s.nw && !(pd.contains NT), s.sl, s.ow.filter fun p => !(pd.contains p.1)⟩ o fun s' =>
            cond (s'.ow.all fun q => !(pd.contains q.1)) (Q T' ⟨s'.n, s'.np, s.nw, s'.sl, (s.ow.filter fun p => pd.contains p.1) ++ s'.ow⟩) none) none)
      (fun s' => Q (T.filter fun q => !(Go.Proofs.YtpedmnlpccngiaaDoor.K.waitsB .any ops i q.1)) s')
structure TPr where
  ia : Nat
  ib : Nat
  t : Nat
  T : TypeId
  z : List D
  l : List D
def cellP : D → Option (List D)
  | .agg l => cond (l.all D.plain) (some l) none
  | d => cond d.plain (some [d]) none
def tailPairs : List (Bool × Nat) → List (Nat × Nat)
  | (_, i) :: (_, j) :: r => (i, j) :: tailPairs r
  | _ => []
def tailTs (ops : Array Oper) (l : List (Nat × Nat)) : List Nat := l.filterMap fun q => (ops.toList[q.1]?).bind (·.dst)
def dpurge (d : D) : List Nat → D
  | [] => d
  | t :: ts => dpurge (d.purge t) ts
def mkTPr (C : Cx) (ops : Array Oper) (ts : List Nat) (s : St) (q : Nat × Nat) : Option TPr :=
  match ops.toList[q.1]? with
  | some a => (match ops.toList[q.2]? with
    | some b => (match a.op with
      | .alloc T => (match b.op with
        | .store T' (.tmp u) x => (match a.dst with
          | some t => (match ti C T with
            | some tt => (match cellP (g s x) with
              | some l => cond (a.guard.isNone && b.guard.isNone && b.dst.isNone && T' == T && u == t && Nat.blt t s.n && Nat.ble (s.np % 1000) t && l.length == tt.size && tt.zv.cells.toList.length == tt.size && (tt.zv.cells.toList.map ofVal).all D.plain && (match x with
                | .tmp v => !(ts.contains v)
                | .const _ => true
                | _ => false)) (some ⟨q.1, q.2, t, T, tt.zv.cells.toList.map ofVal, l⟩) none
              | none => none)
            | none => none)
          | none => none)
        | _ => none)
      | _ => none)
    | none => none)
  | none => none
/-- What is ready of what is left: a variable to be made, or one that is made to be written. -/
def tailB (ops : Array Oper) (prs : List TPr) : Nat → Array Bool → Bool
  | 0, L => Region.ready .any ops L == [] && prs.all fun p => L[p.ia]? == some true && L[p.ib]? == some true
  | n + 1, L => cond (Region.ready .any ops L == []) (prs.all fun p => L[p.ia]? == some true && L[p.ib]? == some true)
      ((Region.ready .any ops L).all fun q => (prs.any fun p => (q == p.ia && L[p.ia]? == some false && L[p.ib]? == some false) || (q == p.ib && L[p.ia]? == some true && L[p.ib]? == some false)) && tailB ops prs n (L.setIfInBounds q true))
def tailO (ts : List Nat) (ow : List (Nat × OB)) : Bool := ow.all fun p => !(ts.contains p.1) && (match p.2 with
  | .cells _ ds => ds.all fun d => d.plain || (match d with
    | .own t => !(ts.contains t)
    | .op t _ => !(ts.contains t)
    | .opb t _ => !(ts.contains t)
    | _ => false)
  | _ => true)
def tailF (ts : List Nat) (prs : List TPr) (s : St) : St := ⟨s.n, s.np, s.nw, fun u => cond (ts.contains u) (.op u 0) (s.sl u), prs.map (fun p => (p.t, .cells p.T p.l)) ++ s.ow⟩
def evTail {R : Type} (C : Cx) (ops : Array Oper) (n : Nat) (sch : List (Bool × Nat)) (listed : Array Bool) (T : List (Nat × List Nat)) (s : St) (K : St → Option R) : Option R :=
  let ps := tailPairs sch
  let ts := tailTs ops ps
  let s0 : St := ⟨s.n, s.np, s.nw, fun u => dpurge (s.sl u) ts, s.ow⟩
  match ps.mapM (mkTPr C ops ts s0) with
  | some prs => cond (nodupB ts && tailO ts s.ow && T.all (fun q => q.2.isEmpty)) (cond (chk (tailB ops prs n listed && nodupB (prs.flatMap fun p => [p.ia, p.ib]) && (prs.map (·.t) == ts) && prs.all (fun p => listed[p.ia]? == some false && listed[p.ib]? == some false))) (K (tailF ts prs s0)) none) none
  | none => none
noncomputable def evMixB (ops : Array Oper) : Nat → List (Bool × Nat) → Array Bool → List (Nat × List Nat) → St → (St → Option R) → Option R
  | _, [], listed, _, s, K => cond (chk (Region.ready .any ops listed == [])) (K s) none
  | 0, _ :: _, _, _, _, _ => none
  | n + 1, (true, i) :: sch, listed, T, s, K => cond (chk (fireB ops listed i)) (mixE C ops i T s fun T s => evMixB ops n sch (listed.setIfInBounds i true) T s K) none
  | n + 1, (false, i) :: sch, listed, T, s, K => cond (Nat.blt i 1000000)
      (cond (chk (Region.ready .any ops listed == [i])) (mixL C ops i T s fun T s => evMixB ops n sch (listed.setIfInBounds i true) T s K) none)
      (match sch.drop (i / 1000000 - 1) with
      | (false, j) :: u => cond (chk (Region.ready .any ops listed == [i % 1000000, j] || Region.ready .any ops listed == [j, i % 1000000]))
          (both (mixL C ops (i % 1000000) T s fun T s => evMixB ops n (sch.take (i / 1000000 - 1)) (listed.setIfInBounds (i % 1000000) true) T s K)
            (mixL C ops j T s fun T s => evMixB ops n u (listed.setIfInBounds j true) T s K)) none
      | _ => evTail C ops (n + 1) sch listed T s K)
def quietB (o : Oper) : Bool :=
  match o.op with
  | .call ⟨.value (.func f), _, _⟩ => (match C.fns f with
    | some ent => ent.pout.all (fun q => q.2.scalar) && ent.pin.all fun q => (match q.2 with | .own _ _ => false | .blk _ _ => false | .ns _ _ _ => false | _ => true)
    | none => true)
  | .convert _ T _ => (match ti C T with
    | some ⟨.slice _, _, _, _, _, _⟩ => false
    | _ => true)
  | o => isPure o

/-- Variables that a function made here has captured, and only looks at. -/
def capTs (s : St) (f : FuncId) (j : Nat) : List Operand → List Nat
  | [] => []
  | x :: xs => match g s x with
    | .op t 0 => (match C.fns f with
      | some ent => (match ent.pin.find? (fun q => q.1 == j) with
        | some (_, Kd.fp _) => t :: capTs s f (j + 1) xs
        | _ => capTs s f (j + 1) xs)
      | none => capTs s f (j + 1) xs)
    | _ => capTs s f (j + 1) xs
def capOps (np : FuncId → Nat) (s : St) : List Oper → List Nat
  | [] => []
  | o :: os => match o.op with
    | .makeFunc (.func f) _ cs => capTs C s f (np f) cs.toList ++ capOps np s os
    | _ => capOps np s os
def dedup : List Nat → List Nat
  | [] => []
  | t :: ts => cond (ts.any (· == t)) (dedup ts) (t :: dedup ts)
/-- The captured variables stay as they are from here on. -/
def capS (s : St) (ops : Array Oper) : Option St := freezeAll s (dedup (capOps C (fun f => match C.fns f with
  | some ent => (realK ent.pin).length - (ops.toList.foldl (fun n o => match o.op with | .makeFunc (.func f') _ cs => cond (f' == f) cs.size n | _ => n) 0)
  | none => 0) s ops.toList))

/-! Code -/
def outS (n np : Nat) (nw : Bool) : (xs : List (Xt × Pt)) → SumT (xs.map (·.2)) → Xt × St
  | [], x => x.elim
  | [p], x => (p.1, mkP n np nw p.2 x)
  | p :: q :: ps, x => match x with
    | .inl y => (p.1, mkP n np nw p.2 y)
    | .inr y => outS n np nw (q :: ps) y
def selim {α β γ : Type} (f : α → γ) (h : β → γ) : α ⊕ β → γ
  | .inl a => f a
  | .inr b => h b
def outK {R : Type} (n np : Nat) (nw : Bool) (k : Xt → St → Option R) : (xs : List (Xt × Pt)) → SumT (xs.map (·.2)) → Option R
  | [], _ => none
  | [p], x => k p.1 (mkP n np nw p.2 x)
  | p :: q :: ps, x => selim (fun y => k p.1 (mkP n np nw p.2 y)) (fun y => outK n np nw k (q :: ps) y) x
/-- Where what is known of blocks is kept. -/
def BK : Nat := 1000000
noncomputable def evC0 (L : Nat → Option LEnt) (G : Code → Nat → Nat → St → (Xt → St → Option R) → Option R) : Code → Nat → St → (Xt → St → Option R) → Option R
  | .skip, _, s, k => k .nm s
  | .region id ops drawn, _, s, k => (match capS C s ops with
    | none => none
    | some s => cond drawn (cond (ops.toList.all (quietB C)) (cond (chk (Region.lexB .any ops)) (evOps (stepQ C) ops.toList ops.toList s fun s' => k .nm s') none) (match C.sch id with
      | none => evHeld C s ops fun s' => k .nm s'
      | some sch => cond (sch.any fun q => Nat.ble 1000000 q.2) (cond (chk (Region.noSelect ops)) (evMixB C ops ops.size sch (Array.replicate ops.size false) [] s fun s' => k .nm s') none)
        (cond (chk (Region.noSelect ops && Nat.ble sch.length ops.size)) (evMix C ops sch (Array.replicate ops.size false) [] s fun s' => k .nm s') none))) (evOps (stepN C) ops.toList ops.toList s fun s' => k .nm s'))
  | .seq a b, i, s, k => evC0 L G a i s fun e s' => match e with
    | .nm => evC0 L G b i s' k
    | e => k e s'
  | .cond x a b, i, s, k => (match x with
    | .tmp t => (match s.sl t with
      | .bool c => cond c (evC0 L G a i (s.set t (.bool true)) k) (evC0 L G b i (s.set t (.bool false)) k)
      | _ => none)
    | .const (.bool c) => cond c (evC0 L G a i s k) (evC0 L G b i s k)
    | _ => none)
  | .block id c, _, s, k => (match L (BK + id) with
    | some le => (match unD s le.pin with
      | none => none
      | some x => (le.m x).bind fun y => outK s.n s.np s.nw k le.exits y)
    | none => evC0 L G c id s fun e s' => match e with
      | .ex j => cond (j == id) (k .nm s') (k (.ex j) s')
      | e => k e s')
  | .loop _, i, s, k => (match L i with
    | none => none
    | some le => match unD s le.pin with
      | none => none
      | some x => (le.m x).bind fun y => outK s.n s.np s.nw k le.exits y)
  | .scope c, i, s, k => evC0 L G c i s fun e s' => match e with
    | .gt l => G c l i s' k
    | e => k e s'
  | .goto l, _, s, k => k (.gt l) s
  | .label _, _, s, k => k .nm s
  | .exit id, _, s, k => k (.ex id) s
  | .ret, _, s, k => k .rt s
  | _, _, _, _ => none
/-- At a label of a scope's. -/
noncomputable def evG (L : Nat → Option LEnt) : Nat → Code → Nat → Nat → St → (Xt → St → Option R) → Option R
  | 0, _, _, _, _, _ => none
  | n + 1, c, l, i, s, k => match findLabel c l with
    | some rest => evC0 C L (evG L n) rest i s fun e s' => match e with
      | .gt l' => evG L n c l' i s' k
      | e => k e s'
    | none => k (.gt l) s
noncomputable def evC (L : Nat → Option LEnt) : Code → Nat → St → (Xt → St → Option R) → Option R := evC0 C L (evG C L 8)

/-- A round of a loop: on, or out. -/
inductive Stp (X B : Type) | nx (x : X) | out (b : B)
def decOut (e : Xt) (s : St) : (xs : List (Xt × Pt)) → Option (SumT (xs.map (·.2)))
  | [] => none
  | [p] => cond (decide (p.1 = e)) (unD s p.2) none
  | p :: q :: ps => cond (decide (p.1 = e)) (match unD s p.2 with
    | some x => some (.inl x)
    | none => (match decOut e s (q :: ps) with
      | some x => some (.inr x)
      | none => none)) (match decOut e s (q :: ps) with
    | some x => some (.inr x)
    | none => none)
def decRound (pin : Pt) (exits : List (Xt × Pt)) (e : Xt) (s : St) : Option (Stp (Tup pin) (SumT (exits.map (·.2)))) :=
  match e with
  | .nm => (match unD s pin with
    | some x => some (.nx x)
    | none => none)
  | e => (match decOut e s exits with
    | some b => some (.out b)
    | none => none)
noncomputable def evRound (L : Nat → Option LEnt) (c : Code) (n np : Nat) (nw : Bool) (pin : Pt) (exits : List (Xt × Pt)) (x : Tup pin) : Option (Stp (Tup pin) (SumT (exits.map (·.2)))) :=
  evC C L c 0 (mkP n np nw pin x) (decRound pin exits)

/-- A round of a loop at whose head slots are of two kinds. -/
def decRound2 (pin pin2 : Pt) (exits : List (Xt × Pt)) (e : Xt) (s : St) : Option (Stp (Tup pin ⊕ Tup pin2) (SumT (exits.map (·.2)))) :=
  match e with
  | .nm => (match unD s pin with
    | some x => some (.nx (.inl x))
    | none => (match unD s pin2 with
      | some x => some (.nx (.inr x))
      | none => none))
  | e => (match decOut e s exits with
    | some b => some (.out b)
    | none => none)
noncomputable def evRound2 (L : Nat → Option LEnt) (c : Code) (n np : Nat) (nw : Bool) (pin pin2 : Pt) (exits : List (Xt × Pt)) (x : Tup pin) : Option (Stp (Tup pin ⊕ Tup pin2) (SumT (exits.map (·.2)))) :=
  evC C L c 0 (mkP n np nw pin x) (decRound2 pin pin2 exits)
noncomputable def evRound3 (L : Nat → Option LEnt) (c : Code) (n np : Nat) (nw : Bool) (pin pin2 : Pt) (exits : List (Xt × Pt)) (x : Tup pin2) : Option (Stp (Tup pin ⊕ Tup pin2) (SumT (exits.map (·.2)))) :=
  evC C L c 0 (mkP n np nw pin2 x) (decRound2 pin pin2 exits)

/-- What a function hands back. -/
def resV (s : St) : List ResultVar → Option (St × List D)
  | [] => some (s, [])
  | .tmp t :: rs => (match resV s rs with
    | some (s', ds) => some (s', s'.sl t :: ds)
    | none => none)
  | .cell t T :: rs => (match s.sl t with
    | .op b off => (match s.look b with
      | some (.cells _ ds) => (match freezeAll s (ownTags ds) with
        | some s1 => (match ti C T with
          | some i => (match s1.look b with
            | some (.cells _ ds) => rdCells ds off i fun d => match resV s1 rs with
              | some (s', ds) => some (s', d :: ds)
              | none => none
            | _ => none)
          | none => none)
        | none => none)
      | _ => none)
    | _ => none)
/-- Structs whose address is handed back: nobody changes them any more. -/
def frzB (s : St) (t : Nat) : Option St :=
  match s.look t with
  | some (.cells _ ds) => (match freezeAll s (ownTags ds) with
    | some s1 => (match s1.look t with
      | some (.cells _ ds1) => cond (ds1.all D.plain) (some (s1.freeze t (.fp ds1 0))) none
      | _ => none)
    | none => none)
  | _ => none
def preFrz (s : St) : List ResultVar → List (Nat × Kd) → Option St
  | .tmp t :: rs, (_, .fp _) :: ks => (match s.sl t with
    | .op b 0 => (match frzB s b with
      | some s' => preFrz s' rs ks
      | none => none)
    | _ => preFrz s rs ks)
  | .tmp t :: rs, (_, .lst _) :: ks => (match s.sl t with
    | .own b => (match freezeAll s [b] with
      | some s' => preFrz s' rs ks
      | none => none)
    | _ => preFrz s rs ks)
  | _ :: rs, _ :: ks => preFrz s rs ks
  | _, _ => some s
def ioD (s : St) (i : Nat) : D :=
  match s.look i with
  | some (.rows _ _ _) => .own i
  | some (.cells _ _) => .op i 0
  | some (.mp _) => .own i
  | _ => .u
def Kd.isRef : Kd → Bool
  | .own _ _ => true | .blk _ _ => true | .mp => true | .blkx _ _ => true
  | _ => false
def endSt (s : St) (ds : List D) : St := ⟨0, 0, s.nw, fun k => cond (Nat.blt k 1000) (ds.getD k .u) (cond (k == NT || Nat.ble SB k) .u (ioD s (k - 1000))), s.ow⟩
def decRes (ent : Ent) (fn : Func) (e : Xt) (s : St) : Option (Tup ent.pout) :=
  cond (match e with | .rt => true | .nm => fn.results.isEmpty | _ => false)
    (match preFrz s fn.results.toList ent.pout with
    | some s => match resV C s fn.results.toList with
      | some (s', ds) => cond (realK ent.pout == List.range ds.length && ent.pout.all (fun q => Nat.blt q.1 1000 || q.1 == NT || Nat.ble SB q.1 || (Nat.blt q.1 (1000 + ent.np % 1000) && Nat.ble (1000 + ent.np / 1000) q.1 && q.2.isRef))) (unD (endSt s' ds) ent.pout) none
      | none => none
    | none => none) none
noncomputable def evF (L : Nat → Option LEnt) (fn : Func) (c : Code) (ent : Ent) (x : Tup ent.pin) : Option (Tup ent.pout) :=
  evC C L c 0 (mkP fn.ntmps ent.np (hasNT ent.pout) ent.pin x) (decRes C ent fn)
end

/-! Loops -/
inductive LoopTo {X B : Type} (body : X → Option (Stp X B)) : X → B → Prop
  | out {x : X} {b : B} : body x = some (.out b) → LoopTo body x b
  | nx {x y : X} {b : B} : body x = some (.nx y) → LoopTo body y b → LoopTo body x b
open Classical in
noncomputable def loopO {X B : Type} (body : X → Option (Stp X B)) (x : X) : Option B := if h : ∃ b, LoopTo body x b then some h.choose else none
theorem LoopTo.unique {X B : Type} {body : X → Option (Stp X B)} {x : X} {b b' : B} (h : LoopTo body x b) (h' : LoopTo body x b') : b = b' := by
  induction h with
  | out h1 =>
    cases h' with
    | out h2 => rw [h1] at h2; cases h2; rfl
    | nx h2 _ => rw [h1] at h2; cases h2
  | nx h1 _ ih =>
    cases h' with
    | out h2 => rw [h1] at h2; cases h2
    | nx h2 h3 => rw [h1] at h2; cases h2; exact ih h3
theorem loopO_iff {X B : Type} {body : X → Option (Stp X B)} {x : X} {b : B} : loopO body x = some b ↔ LoopTo body x b := by
  unfold loopO
  constructor
  · intro h
    split at h
    · rename_i hh
      cases h
      exact hh.choose_spec
    · cases h
  · intro h
    have hh : ∃ b, LoopTo body x b := ⟨b, h⟩
    rw [dif_pos hh]
    exact congrArg some (hh.choose_spec.unique h)
theorem loopO_nx {X B : Type} {body : X → Option (Stp X B)} {x y : X} (h : body x = some (.nx y)) : loopO body x = loopO body y := by
  cases hy : loopO body y with
  | some b => exact loopO_iff.2 (.nx h (loopO_iff.1 hy))
  | none =>
    cases hx : loopO body x with
    | none => rfl
    | some b =>
      have := loopO_iff.1 hx
      cases this with
      | out h2 => rw [h] at h2; cases h2
      | nx h2 h3 => rw [h] at h2; cases h2; rw [loopO_iff.2 h3] at hy; cases hy
theorem loopO_out {X B : Type} {body : X → Option (Stp X B)} {x : X} {b : B} (h : body x = some (.out b)) : loopO body x = some b := loopO_iff.2 (.out h)
end Go.Proofs.YtpedmnlpccngiaaDoor.V
namespace Go.Proofs.YtpedmnlpccngiaaDoor.V
open Go K

/-- m: blocks that nobody changes any more. nid: where the nodes lie, by their numbers; lv: blocks that stay blocks of cells. -/
structure Frz where
  m : Nat → Option Obj
  nid : Nat → Option Nat
  lv : Nat → Prop
  inj : ∀ i j b, nid i = some b → nid j = some b → i = j
  nlt : ∀ i b, nid i = some b → lv b
def Frz.le (F F' : Frz) : Prop := (∀ b o, F.m b = some o → F'.m b = some o) ∧ (∀ i b, F.nid i = some b → F'.nid i = some b) ∧ ∀ b, F.lv b → F'.lv b
theorem Frz.le.refl (F : Frz) : F.le F := ⟨fun _ _ h => h, fun _ _ h => h, fun _ h => h⟩
theorem Frz.le.trans {F F' F'' : Frz} (h : F.le F') (h' : F'.le F'') : F.le F'' := ⟨fun b o hb => h'.1 b o (h.1 b o hb), fun b o hb => h'.2.1 b o (h.2.1 b o hb), fun b hb => h'.2.2 b (h.2.2 b hb)⟩
def cellF (F : Frz) (a : Addr) : Option Value :=
  match F.m a.block with
  | some (.cells c _ _) => if a.spot.isSome then none else c[a.off]?
  | _ => none
def cellsF (F : Frz) (B : Nat) : Nat → List Value → Prop
  | _, [] => True
  | off, c :: cs => cellF F ⟨B, off, none⟩ = some c ∧ cellsF F B (off + 1) cs
theorem cellF.mono {F F' : Frz} (h : F.le F') {a : Addr} {v : Value} (hc : cellF F a = some v) : cellF F' a = some v := by
  unfold cellF at *
  cases hb : F.m a.block with
  | none => rw [hb] at hc; cases hc
  | some o => rw [h.1 _ _ hb]; rw [hb] at hc; exact hc
theorem cellsF.mono {F F' : Frz} (h : F.le F') {B : Nat} : ∀ {cs : List Value} {off : Nat}, cellsF F B off cs → cellsF F' B off cs
  | [], _, _ => trivial
  | _ :: _, _, ⟨h1, h2⟩ => ⟨cellF.mono h h1, cellsF.mono h h2⟩

/-- A map's entries: keys and values by turns. -/
def pairsO : List Value → Nat → List MapEntry
  | k :: v :: r, i => { key := k, val := v, born := i } :: pairsO r (i + 1)
  | _, _ => []
def mapO (cs : List Value) : Obj := .map (pairsO cs 0).toArray (cs.length / 2)
def sitO : List Value → Obj
  | [.string s, .int _ n] => .stringIter s n.toNat
  | _ => .stringIter .empty 0
/-- An object is a block. -/
def isB (o : Option Obj) : Blk → Prop
  | (_, cs, .c T) => ∃ fz, fzok fz cs.length ∧ o = some (.cells cs.toArray T fz)
  | (_, cs, .map) => o = some (mapO cs)
  | (_, cs, .sit) => o = some (sitO cs)
theorem isB.some {o : Option Obj} {p : Blk} (h : isB o p) : ∃ x, o = some x := by
  obtain ⟨b, cs, T⟩ := p
  cases T with
  | c T => obtain ⟨fz, _, h⟩ := h; exact ⟨_, h⟩
  | map => exact ⟨_, h⟩
  | sit => exact ⟨_, h⟩
theorem isB.cells {o : Option Obj} {b : Nat} {cs : List Value} {T : TypeId} (h : isB o (b, cs, T)) : ∃ fz, fzok fz cs.length ∧ o = Option.some (.cells cs.toArray T fz) := h
theorem isB.mk {o : Option Obj} {b : Nat} {cs : List Value} {T : TypeId} (h : o = Option.some (.cells cs.toArray T (0, 0))) : isB o (b, cs, T) := ⟨(0, 0), fzok0 _, h⟩
structure Hp (h : Array Obj) (F : Frz) (L : List Blk) : Prop where
  frz : ∀ b o, F.m b = some o → h[b]? = some o
  own : ∀ p ∈ L, isB h[p.1]? p
  sep : ∀ p ∈ L, F.m p.1 = none
  nodup : (L.map (·.1)).Nodup
  live : ∀ b, F.lv b → ∃ cs T, h[b]? = some (.cells cs T (0, 0)) ∧ T ≠ uT
  gl : Gl F.m

section
variable {h h' : Array Obj} {F F' : Frz} {L L' L1 L2 Lv : List Blk}
theorem isB.mono {p : Blk} (h : isB (F.m p.1) p) (hf : F.le F') : isB (F'.m p.1) p := by
  obtain ⟨x, hx⟩ := h.some
  rw [hf.1 _ _ hx]
  rw [hx] at h
  exact h
theorem isB.frz {p : Blk} (hi : isB (F.m p.1) p) (hm : Hp h F L) : isB h[p.1]? p := by
  obtain ⟨x, hx⟩ := hi.some
  rw [hm.frz _ _ hx]
  rw [hx] at hi
  exact hi
theorem Hp.cell (hm : Hp h F L) {a : Addr} {v : Value} (hc : cellF F a = some v) : K.cell h a = some v := by
  unfold cellF at hc
  unfold K.cell
  cases hb : F.m a.block with
  | none => rw [hb] at hc; cases hc
  | some o => rw [hm.frz _ _ hb]; rw [hb] at hc; exact hc
theorem Hp.cells (hm : Hp h F L) {B : Nat} : ∀ {cs : List Value} {off : Nat}, cellsF F B off cs → cellsFrom h B off cs
  | [], _, _ => trivial
  | _ :: _, _, ⟨h1, h2⟩ => ⟨hm.cell h1, hm.cells h2⟩
theorem Hp.lt (hm : Hp h F L) {p : Blk} (hp : p ∈ L) : p.1 < h.size := by
  obtain ⟨x, hx⟩ := (hm.own p hp).some
  exact (Array.getElem?_eq_some_iff.1 hx).1
theorem Hp.flt (hm : Hp h F L) {b : Nat} {o : Obj} (hb : F.m b = some o) : b < h.size := (Array.getElem?_eq_some_iff.1 (hm.frz b o hb)).1
theorem Hp.sub (hm : Hp h F L) (hs : L'.Sublist L) : Hp h F L' := ⟨hm.frz, fun p hp => hm.own p (hs.subset hp), fun p hp => hm.sep p (hs.subset hp), hm.nodup.sublist (hs.map _), hm.live, hm.gl⟩
theorem Hp.perm (hm : Hp h F L) (hp : L'.Perm L) : Hp h F L' := ⟨hm.frz, fun p hq => hm.own p (hp.mem_iff.1 hq), fun p hq => hm.sep p (hp.mem_iff.1 hq), ((hp.map _).nodup_iff).2 hm.nodup, hm.live, hm.gl⟩
theorem Hp.weaken (hm : Hp h F' L) (hf : F.le F') (hg : Gl F.m) : Hp h F L := ⟨fun b o hb => hm.frz b o (hf.1 b o hb), hm.own, (fun p hp => by
  cases hb : F.m p.1 with
  | none => rfl
  | some o => (have := hm.sep p hp); rw [hf.1 _ _ hb] at this; cases this), hm.nodup, (fun b hb => hm.live b (hf.2.2 b hb)), hg⟩
theorem Hp.pushB (hm : Hp h F L) (o : Obj) (cs : List Value) (T : BT) (ho : isB (some o) (h.size, cs, T)) : Hp (h.push o) F ((h.size, cs, T) :: L) := by
  refine ⟨fun b o hb => ?_, fun p hp => ?_, fun p hp => ?_, ?_, fun b hb => ?_, hm.gl⟩
  · have := hm.flt hb
    rw [Array.getElem?_push, if_neg (by omega)]
    exact hm.frz b o hb
  · rcases List.mem_cons.1 hp with rfl | hp
    · simpa using ho
    · have := hm.lt hp
      rw [Array.getElem?_push, if_neg (by omega)]
      exact hm.own p hp
  · rcases List.mem_cons.1 hp with rfl | hp
    · cases hb : F.m h.size with
      | none => rfl
      | some o => have := hm.flt hb; omega
    · exact hm.sep p hp
  · rw [List.map_cons, List.nodup_cons]
    refine ⟨fun hin => ?_, hm.nodup⟩
    obtain ⟨q, hq, he⟩ := List.mem_map.1 hin
    have := hm.lt hq
    omega
  · obtain ⟨cs', T', h1, h3⟩ := hm.live b hb
    have h2 := (Array.getElem?_eq_some_iff.1 h1).1
    exact ⟨cs', T', by rw [Array.getElem?_push, if_neg (by omega)]; exact h1, h3⟩
theorem Hp.push (hm : Hp h F L) (cs : List Value) (T : TypeId) : Hp (h.push (.cells cs.toArray T (0, 0))) F ((h.size, cs, BT.c T) :: L) := hm.pushB _ cs T (.mk rfl)
theorem Hp.pushed (hm : Hp h F L) (ob : Obj) : Hp (h.push ob) F L := ⟨fun b o hb => by
  have := hm.flt hb
  rw [Array.getElem?_push, if_neg (by omega)]
  exact hm.frz b o hb, fun p hp => by
  have := hm.lt hp
  rw [Array.getElem?_push, if_neg (by omega)]
  exact hm.own p hp, hm.sep, hm.nodup, (fun b hb => by
  obtain ⟨cs', T', h1, h3⟩ := hm.live b hb
  have h2 := (Array.getElem?_eq_some_iff.1 h1).1
  exact ⟨cs', T', by rw [Array.getElem?_push, if_neg (by omega)]; exact h1, h3⟩), hm.gl⟩
/-- A block is written whole: j is its place. -/
theorem Hp.putB (hm : Hp h F L) {j B : Nat} {cs cs' : List Value} {T : BT} (hj : L[j]? = some (B, cs, T)) (ho : ∀ b, b ≠ B → h'[b]? = h[b]?) (hb : isB h'[B]? (B, cs', T)) (hl : ∀ c t, h[B]? = some (.cells c t (0, 0)) → ∃ c, h'[B]? = some (.cells c t (0, 0))) : Hp h' F (L.set j (B, cs', T)) := by
  have hjl : j < L.length := (List.getElem?_eq_some_iff.1 hj).1
  have hkeys : (L.set j (B, cs', T)).map (·.1) = L.map (·.1) := by
    rw [List.map_set]
    apply List.ext_getElem?
    intro i
    by_cases e : j = i
    · subst e
      rw [List.getElem?_set_self (by simpa using hjl), List.getElem?_map, hj]
      rfl
    · rw [List.getElem?_set_ne e]
  refine ⟨fun b o hbo => ?_, fun p hp => ?_, fun p hp => ?_, by rw [hkeys]; exact hm.nodup, fun b hbi => ?_, hm.gl⟩
  · have hne : b ≠ B := fun e => by
      subst e
      have := hm.sep _ (List.mem_of_getElem? hj)
      simp only at this
      rw [this] at hbo
      cases hbo
    rw [ho b hne]
    exact hm.frz b o hbo
  · obtain ⟨i, hi⟩ := List.mem_iff_getElem?.1 hp
    by_cases e : j = i
    · subst e
      rw [List.getElem?_set_self hjl] at hi
      obtain rfl := Option.some.inj hi
      exact hb
    · rw [List.getElem?_set_ne e] at hi
      have hne : p.1 ≠ B := fun he => by
        have h1 : (L.map (·.1))[i]? = some p.1 := by simp [hi]
        have h2 : (L.map (·.1))[j]? = some B := by simp [hj]
        rw [he] at h1
        obtain ⟨hi', hi''⟩ := List.getElem?_eq_some_iff.1 h1
        obtain ⟨hj', hj''⟩ := List.getElem?_eq_some_iff.1 h2
        exact e ((List.getElem_inj (h₀ := hi') (h₁ := hj') hm.nodup).1 (hi''.trans hj''.symm)).symm
      rw [ho _ hne]
      exact hm.own p (List.mem_of_getElem? hi)
  · have : p.1 ∈ L.map (·.1) := by rw [← hkeys]; exact List.mem_map.2 ⟨p, hp, rfl⟩
    obtain ⟨q, hq, he⟩ := List.mem_map.1 this
    rw [← he]
    exact hm.sep q hq
  · obtain ⟨c0, T0, h1, h3⟩ := hm.live b hbi
    by_cases e : b = B
    · subst e; obtain ⟨c, h4⟩ := hl _ _ h1; exact ⟨c, T0, h4, h3⟩
    · exact ⟨c0, T0, by rw [ho b e]; exact h1, h3⟩
theorem Hp.put (hm : Hp h F L) {j B : Nat} {cs cs' : List Value} {T : TypeId} {fz : Nat × Nat} (hj : L[j]? = some (B, cs, BT.c T)) (ho : ∀ b, b ≠ B → h'[b]? = h[b]?) (h0 : h[B]? = some (.cells cs.toArray T fz)) (hz : fzok fz cs'.length) (hb : h'[B]? = some (.cells cs'.toArray T fz)) : Hp h' F (L.set j (B, cs', BT.c T)) :=
  hm.putB hj ho ⟨fz, hz, hb⟩ fun c t h1 => by
    rw [h0] at h1
    cases h1
    exact ⟨_, hb⟩
/-- Owned blocks that nobody changes from here on. -/
def Frz.add (F : Frz) (h : Array Obj) (L : List Blk) : Frz := ⟨fun b => match L.find? (fun p => p.1 == b) with
  | some _ => h[b]?
  | none => F.m b, F.nid, F.lv, F.inj, F.nlt⟩
theorem Hp.freeze (hm : Hp h F (Lv ++ L)) : Hp h (F.add h Lv) L ∧ F.le (F.add h Lv) := by
  have hn := hm.nodup
  rw [List.map_append, List.nodup_append] at hn
  refine ⟨⟨fun b o hb => ?_, fun p hp => hm.own p (by simp [hp]), fun p hp => ?_, hn.2.1, hm.live, hm.gl.mono fun b o hb => ?_⟩, ⟨fun b o hb => ?_, fun _ _ h => h, fun _ h => h⟩⟩
  · simp only [Frz.add] at hb
    split at hb
    · exact hb
    · exact hm.frz b o hb
  · simp only [Frz.add]
    split
    · rename_i q hq
      have h1 := List.find?_some hq
      have h2 := List.mem_of_find?_eq_some hq
      simp at h1
      exact absurd rfl (hn.2.2 q.1 (List.mem_map.2 ⟨q, h2, rfl⟩) q.1 (by rw [h1]; exact List.mem_map.2 ⟨p, hp, rfl⟩))
    · exact hm.sep p (by simp [hp])
  · simp only [Frz.add]
    split
    · exact hm.frz b o hb
    · exact hb
  · simp only [Frz.add]
    split
    · exact hm.frz b o hb
    · exact hb
theorem add_get (hm : Hp h F (Lv ++ L)) {p : Blk} (hp : p ∈ Lv) : isB ((F.add h Lv).m p.1) p := by
  simp only [Frz.add]
  cases hf : Lv.find? (fun q => q.1 == p.1) with
  | none =>
    have := List.find?_eq_none.1 hf p hp
    simp at this
  | some q => exact hm.own p (by simp [hp])

/-- Nodes that are made. -/
def Frz.node (F : Frz) (i B : Nat) (hB : ∀ j, F.nid j ≠ some B) : Frz := ⟨F.m, fun j => if j = i then some B else F.nid j, fun b => b = B ∨ F.lv b, fun a b c h1 h2 => by
  by_cases ha : a = i <;> by_cases hb : b = i
  · rw [ha, hb]
  · rw [if_pos ha] at h1; rw [if_neg hb] at h2; cases h1; exact absurd h2 (hB b)
  · rw [if_neg ha] at h1; rw [if_pos hb] at h2; cases h2; exact absurd h1 (hB a)
  · rw [if_neg ha] at h1; rw [if_neg hb] at h2; exact F.inj a b c h1 h2, fun j b hj => by
  by_cases e : j = i
  · rw [if_pos e] at hj; cases hj; exact .inl rfl
  · rw [if_neg e] at hj; exact .inr (F.nlt j b hj)⟩
theorem Frz.node_le {i B : Nat} {hB : ∀ j, F.nid j ≠ some B} (hi : F.nid i = none) : F.le (F.node i B hB) := ⟨fun _ _ h => h, fun j b hj => by
  show (if j = i then some B else F.nid j) = some b
  by_cases e : j = i
  · subst e; rw [hi] at hj; cases hj
  · rw [if_neg e]; exact hj, fun _ h => .inr h⟩
theorem Hp.node {i B : Nat} {hB : ∀ j, F.nid j ≠ some B} (hm : Hp h F L) (hb : ∃ cs T, h[B]? = some (.cells cs T (0, 0)) ∧ T ≠ uT) : Hp h (F.node i B hB) L := ⟨hm.frz, hm.own, hm.sep, hm.nodup, (fun b hl => by
  rcases hl with rfl | hl
  · exact hb
  · exact hm.live b hl), hm.gl⟩
theorem Hp.fresh (hm : Hp h F L) : ∀ j, F.nid j ≠ some h.size := fun j hj => by
  obtain ⟨cs, T, h1, _⟩ := hm.live _ (F.nlt j _ hj)
  have := (Array.getElem?_eq_some_iff.1 h1).1
  omega

/-- What an operation does. -/
structure Ef (P : Program) (ρ : List Value) (o : Oper) (h : Array Obj) (Q : Value → Array Obj → Prop) : Prop where
  out : ∀ E w, At E h w → ∃ n w' h' v, (execOp (ev ρ) o).run P w = .ok n w' ∧ At E h' w' ∧ (n = .value v ∨ (n = .skip ∧ v = undef)) ∧ Q v h'
theorem lw_ef {P : Program} {E : Env} {ops rest : List Oper} {K : List Value → Array Obj → Prop} {ρ : List Value} {o : Oper} {Q : Value → Array Obj → Prop} (hg : Region.wanted o (yielded ops.toArray (act ρ).tmps) = true) (hx : Ef P ρ o h Q) (hk : ∀ v h', Q v h' → LW P E ops K rest (setD ρ o.dst v) h') : LW P E ops K (o :: rest) ρ h := by
  refine ⟨fun w hw => ?_⟩
  unfold wpList
  rw [if_pos hg]
  refine .inl ?_
  obtain ⟨n, w', h', v, hr, hA, hn, hQ⟩ := hx.out E w hw
  unfold Oper.wp
  rw [eval_mk, hr]
  rcases hn with rfl | ⟨rfl, rfl⟩
  · rw [Oper.upon_value, put_mk]; exact (hk _ _ hQ).out w' hA
  · rw [Oper.upon_skip, put_mk]; exact (hk _ _ hQ).out w' hA
theorem Ef.of_ex {P : Program} {ρ : List Value} {o : Oper} {v : Value} {Q : Value → Array Obj → Prop} (hx : Ex P ρ o h v h') (hQ : Q v h') : Ef P ρ o h Q :=
  ⟨fun E w hw => by obtain ⟨n, w', h1, h2, h3⟩ := hx.out E w hw; exact ⟨n, w', h', v, h1, h2, h3, hQ⟩⟩
theorem Ef.mono {P : Program} {ρ : List Value} {o : Oper} {Q Q' : Value → Array Obj → Prop} (hx : Ef P ρ o h Q) (hQ : ∀ v h', Q v h' → Q' v h') : Ef P ρ o h Q' :=
  ⟨fun E w hw => by obtain ⟨n, w', h', v, h1, h2, h3, h4⟩ := hx.out E w hw; exact ⟨n, w', h', v, h1, h2, h3, hQ _ _ h4⟩⟩
end
end Go.Proofs.YtpedmnlpccngiaaDoor.V
