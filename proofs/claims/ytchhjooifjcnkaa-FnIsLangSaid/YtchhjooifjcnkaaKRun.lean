/-
  The evaluator, second part: what makes memory, calls, regions, code.
-/
import Derived.Test.YtchhjooifjcnkaaKEval
namespace Go.Proofs.Ytchhjooifjcnkaa.V
open Go

section
variable (C : Cx) {R : Type}

/-- What lies behind a slice's elements that are handed on. -/
def listOf (s : St) (d : D) (e : E) : Option (List e.T) :=
  match d with
  | .nil => some []
  | .lst e' xs => castE e' e xs
  | .own t => match s.look t with
    | some (.rows e' _ xs) => castE e' e xs
    | _ => none
  | _ => none
/-- The bytes of a text that is handed on in the place of a slice. -/
def strOf (d : D) (e : E) : Option (List e.T) :=
  match d with
  | .str l => castE .u8 e l
  | _ => none
def cellsOf (s : St) (d : D) : Option (List D) :=
  match d with
  | .agg l => cond (l.all D.plain) (some l) none
  | .op t o => some [.op t o]
  | .own t => (match s.look t with
    | some (.rows _ _ _) => some [.own t]
    | _ => none)
  | d => cond d.plain (some [d]) none
/-- What cells read as, handed on. -/
def decK : (e : E) → List D → (e.T → Option R) → Option R
  | .u8, [.int .u8 n], k => (byteI n).bind fun v => k v
  | e, ds, k => match e.dec ds with
    | some v => k v
    | none => none
def decAll (e : E) : List (List D) → Option (List e.T)
  | [] => some []
  | r :: rs => match e.dec r with
    | none => none
    | some x => match decAll e rs with
      | none => none
      | some xs => some (x :: xs)

def evAppend (s : St) (d : Tmp) (x y : Operand) (S X : TypeId) (K : D → St → Option R) : Option R :=
  match ti C S with
  | some ⟨.slice et, _, _, _, _, _⟩ => (match ti C X with
    | some ⟨.slice _, _, _, _, _, _⟩ => (match ti C et with
      | some ⟨_, sz, _, _, bytes, some e⟩ => cond (sz == e.sz && Nat.ble (sz * (bytes + 1)) 32768) (match g s x with
        | .own tx => (match s.look tx with
          | some (.rows e' T xs) => (match castE e' e xs with
            | some xs => let s1 := s.purge tx
              (match listOf s1 (g s1 y) e with
              | some ys => cond (T == et) ((appL xs ys).bind fun r => K (.own d) ((s1.purge d).make d (.rows e et r))) none
              | none => none)
            | none => none)
          | _ => none)
        | .nil => (match listOf s (g s y) e with
          | some ys => (appL [] ys).bind fun r => K (.own d) ((s.purge d).make d (.rows e et r))
          | none => none)
        | .na i => (match s.look NT with
          | some (.nodes T A hs none) => let s1 := s.purge NT
            (match listOf s1 (g s1 y) .hattr with
            | some ys => cond (A == et && decide (e = .hattr) && Nat.ble (s.np % 1000) NT && !(d == NT)) ((hs[i]?).bind fun h => (appL h.attrs ys).bind fun r => K (.own d) (((s1.make NT (.nodes T A hs (some i))).purge d).make d (.rows .hattr et r))) none
            | none => none)
          | _ => none)
        | _ => none) none
      | _ => none)
    | _ => none)
  | _ => none
/-- append of a text to bytes. -/
def evAppendS (s : St) (d : Tmp) (x y : Operand) (S : TypeId) (K : D → St → Option R) : Option R :=
  match ti C S with
  | some ⟨.slice et, _, _, _, _, _⟩ => (match ti C et with
    | some ⟨_, 1, _, _, bytes, some .u8⟩ => cond (Nat.ble (bytes + 1) 32768) (match g s y with
      | .str ys => (match g s x with
        | .own tx => (match s.look tx with
          | some (.rows e' T xs) => (match castE e' .u8 xs with
            | some xs => cond (T == et) ((appL xs ys).bind fun r => K (.own d) (((s.purge tx).purge d).make d (.rows .u8 et r))) none
            | none => none)
          | _ => none)
        | .nil => (appL [] ys).bind fun r => K (.own d) ((s.purge d).make d (.rows .u8 et r))
        | _ => none)
      | _ => none) none
    | _ => none)
  | _ => none
def evBox (s : St) (d : Tmp) (T : TypeId) (x : Operand) (K : D → St → Option R) : Option R :=
  let s' := s.purge d
  match cellsOf s' (g s' x) with
    | some ds => K (.op d 0) (s'.make d (.cells T ds))
    | none => none
/-- A node's cell is written. -/
def evNf (s : St) (i off : Nat) (d : D) (K : D → St → Option R) : Option R :=
  match s.look NT with
  | some (.nodes TN A hs hole) => cond (Nat.blt off 9) (cond d.plain ((hs[i]?).bind fun h => match HN.dec h.attrs (h.enc.set off d) with
      | some h' => K .und (s.upd NT (.nodes TN A (hs.set i h') hole))
      | none => none) none)
    (cond (off == 9) (match d with
      | .own t => (match s.look t with
        | some (.rows e T xs) => (match castE e .hattr xs with
          | some xs => cond (T == A && !(t == NT) && Nat.ble (s.np % 1000) NT) ((hs[i]?).bind fun h => (match hole with
            | none => K .und (((s.purge t).purge NT).make NT (.nodes TN A (hs.set i ⟨h.par, h.fst, h.lst, h.prv, h.nxt, h.ty, h.atom, h.data, h.ns, xs⟩) none))
            | some j => cond (decide (j = i)) (K .und (((s.purge t).purge NT).make NT (.nodes TN A (hs.set i ⟨h.par, h.fst, h.lst, h.prv, h.nxt, h.ty, h.atom, h.data, h.ns, xs⟩) none))) none)) none
          | none => none)
        | _ => none)
      | _ => none) none)
  | _ => none
/-- Operations that make or change memory. d: where the answer goes. -/
def evEff (s : St) (d : Tmp) (o : Op) (K : D → St → Option R) : Option R :=
  match o with
  | .alloc T => (match ti C T with
    | some t => let s' := s.purge d
      K (.op d 0) (s'.make d (.cells T (t.zv.cells.toList.map ofVal)))
    | none => none)
  | .box T x => (match s.look NT with
    | some (.nodes TN A hs hole) => cond (T == TN) (match g s x with
        | .agg l => (match l.drop 9 with
          | [.nil] => (match HN.dec [] (l.take 9) with
            | some h => cond (s.nw && Nat.ble (s.np % 1000) NT) (K (.np (some hs.length)) ((s.purge NT).make NT (.nodes TN A (hs ++ [h]) hole))) none
            | none => none)
          | _ => none)
        | _ => none) (evBox s d T x K)
    | _ => evBox s d T x K)
  | .store T x y => (match ti C T with
    | some t => (match g s x with
      | .op b off => (match s.look b with
        | some (.cells T0 ds) => (match cellsOf s (g s y) with
          | some l => cond (l.length == t.size && Nat.ble (off + t.size) ds.length) (K .und (s.upd b (.cells T0 (ds.take off ++ l ++ ds.drop (off + t.size))))) none
          | none => none)
        | _ => none)
      | .oe b z i off => (match s.look b with
        | some (.rows e T0 xs) => (match cellsOf s (g s y) with
          | some l => cond (z == e.sz && l.length == t.size && Nat.ble (off + t.size) e.sz && l.all D.plain) ((xs[i]?).bind fun v => decK e ((e.enc v).take off ++ l ++ (e.enc v).drop (off + t.size)) fun v' => K .und (s.upd b (.rows e T0 (xs.set i v')))) none
          | none => none)
        | _ => none)
      | .nf i off => cond (t.size == 1 && !t.agg) (evNf s i off (g s y) K) none
      | _ => none)
    | none => none)
  | .buildSlice T n parts => (match ti C T with
    | some ⟨.slice et, _, _, _, _, _⟩ => (match ti C et with
      | some ⟨_, sz, _, _, _, some e⟩ => let s' := s.purge d
        (match (parts.toList.map fun p => g s' p.2).mapM (cellsOf s') with
        | some rows => (match decAll e rows with
          | some xs => cond (sz == e.sz && (parts.toList.map (·.1) == List.range n) && rows.all (·.all D.plain) && Nat.ble (n * sz) 16777216) (K (.own d) (s'.make d (.rows e et xs))) none
          | none => none)
        | none => none)
      | _ => none)
    | _ => none)
  | .makeSlice T x y => (match ti C T with
    | some ⟨.slice et, _, _, _, _, _⟩ => (match ti C et with
      | some ⟨_, sz, _, z, bytes, some e⟩ => (match g s x with
        | .int .i64 a => (match g s y with
          | .int .i64 b => (match e.dec (z.cells.toList.map ofVal) with
            | some v => let s' := s.purge d
              cond (sz == 1 && e.sz == 1 && z.oneCell' && Nat.ble bytes 300 && decide (a = b ∧ 0 ≤ a ∧ a ≤ 1048576)) (K (.own d) (s'.make d (.rows e et (List.replicate a.toNat v)))) none
            | none => none)
          | _ => none)
        | _ => none)
      | _ => none)
    | _ => none)
  | .call c => (match c.callee with
    | .builtin .append => (match c.args.toList with
      | [x, y] => (match c.argTypes.toList with
        | [S, X] => (match ti C X with
          | some ⟨.str, _, _, _, _, _⟩ => evAppendS C s d x y S K
          | _ => evAppend C s d x y S X K)
        | _ => none)
      | _ => none)
    | _ => none)
  | .convert S T x => (match ti C S with
    | some ⟨.str, _, _, _, _, _⟩ => (match ti C T with
      | some ⟨.slice et, _, _, _, _, _⟩ => (match ti C et with
        | some ⟨.int .u8, 1, _, _, _, _⟩ => (match g s x with
          | .str l => K (.own d) ((s.purge d).make d (.rows .u8 et l))
          | _ => none)
        | _ => none)
      | _ => none)
    | _ => none)
  | .range T x => (match ti C T with
    | some ⟨.str, _, _, _, _, _⟩ => (match g s x with
      | .str l => K (.op d 0) ((s.purge d).make d (.sit l 0))
      | _ => none)
    | _ => none)
  | .next x true => (match g s x with
    | .op t 0 => (match s.look t with
      | some (.sit l pos) => cond (decide (pos < l.length)) (K (.tup [.bool true, .int .i64 (pos : Int), .int .i32 ((dec8 l pos).1 : Int)]) (s.upd t (.sit l (pos + (dec8 l pos).2)))) (K (.tup [.bool false]) s)
      | _ => none)
    | _ => none)
  | .makeMap T r => (match ti C T with
    | some ⟨.map _ _, _, _, _, _, _⟩ => (match (match r with | none => D.int .i64 0 | some y => g s y) with
      | .int _ _ => K (.own d) ((s.purge d).make d (.mp []))
      | _ => none)
    | _ => none)
  | .mapUpdate T x y z => (match ti C T with
    | some ⟨.map kt _, _, _, _, _, _⟩ => (match ti C kt with
      | some ⟨.ptr e, _, _, _, _, _⟩ => (match ti C e with
        | some te => cond (Nat.blt 0 te.size) (match dPtr (g s y) with
          | some o => (match g s z with
            | .bool b => (match g s x with
              | .own t => (match s.look t with
                | some (.mp l) => K .und (s.upd t (.mp (mput l o b)))
                | _ => none)
              | _ => none)
            | _ => none)
          | none => none) none
        | none => none)
      | _ => none)
    | _ => none)
  | _ => none

/-! Slots of known kinds -/
def mk1 (i : Nat) : (k : Kd) → k.T → D × List (Nat × OB)
  | .int k, n => (.int k n, [])
  | .bool, b => (.bool b, [])
  | .str, l => (.str l, [])
  | .lst e, xs => (.lst e xs, [])
  | .el e, x => (.agg (e.enc x), [])
  | .own e T, xs => (.own i, [(i, .rows e T xs)])
  | .blk e T, x => (.op i 0, [(i, .cells T (e.enc x))])
  | .np, o => (.np o, [])
  | .any, _ => (.any, [])
  | .mnil, _ => (.mnil, [])
  | .emp, _ => (.agg [], [])
  | .fp e, x => (.fp (e.enc x) 0, [])
  | .clo f es, x => (.clo f (esEnc es x), [])
  | .intc k n, _ => (.int k n, [])
  | .inil, _ => (.inil, [])
  | .fnl, _ => (.fnl, [])
  | .al j, _ => (.own j, [])
  | .mp, l => (.own i, [(i, .mp l)])
  | .sit, x => (.op i 0, [(i, .sit x.1 x.2)])
  | .ns T A, hs => (.u, [(i, .nodes T A hs none)])
  | .nsr, hs => (.u, [(i, .nodesR hs)])
def mkSl : (p : Pt) → Tup p → Nat → D
  | [], _, _ => .u
  | [p], x, i => cond (i == p.1) (mk1 p.1 p.2 x).1 .u
  | p :: q :: ps, x, i => cond (i == p.1) (mk1 p.1 p.2 x.1).1 (mkSl (q :: ps) x.2 i)
def mkOw : (p : Pt) → Tup p → List (Nat × OB)
  | [], _ => []
  | [p], x => (mk1 p.1 p.2 x).2
  | p :: q :: ps, x => (mk1 p.1 p.2 x.1).2 ++ mkOw (q :: ps) x.2
/-- A tag's ghost may change: it is none of np / 1000 .. np % 1000 - 1. -/
def nkp (np i : Nat) : Bool := Nat.ble (np % 1000) i || Nat.blt i (np / 1000)
def mkP (n np : Nat) (nw : Bool) (p : Pt) (x : Tup p) : St := ⟨n, np, nw, mkSl p x, mkOw p x⟩
/-- lax: a list that is owned may be looked at. -/
def un1 (s : St) (lax : Bool) (i : Nat) : (k : Kd) → Option k.T
  | .int k => match s.sl i with
    | .int k' n => cond (decide (k' = k)) (some n) none
    | _ => none
  | .bool => match s.sl i with
    | .bool b => some b
    | _ => none
  | .str => match s.sl i with
    | .str l => some l
    | _ => none
  | .lst e => match s.sl i with
    | .lst e' xs => castE e' e xs
    | .nil => some []
    | .own t => cond lax (match s.look t with
      | some (.rows e' _ xs) => castE e' e xs
      | _ => none) none
    | _ => none
  | .el e => match s.sl i with
    | .agg ds => e.dec ds
    | _ => none
  | .own e T => match s.sl i with
    | .own t => cond ((nkp s.np i || t == i) && !(i == NT) && !(i == NTR)) (match s.look t with
      | some (.rows e' T' xs) => cond (T' == T) (castE e' e xs) none
      | _ => none) none
    | .nil => cond (nkp s.np i && !(i == NT) && !(i == NTR)) (some []) none
    | _ => none
  | .blk e T => match s.sl i with
    | .op t 0 => cond ((nkp s.np i || t == i) && !(i == NT) && !(i == NTR)) (match s.look t with
      | some (.cells T' ds) => cond (T' == T) (e.dec ds) none
      | _ => none) none
    | _ => none
  | .np => dPtr (s.sl i)
  | .any => match s.sl i with
    | .op _ _ => some ()
    | d => cond d.plain (some ()) none
  | .mnil => match s.sl i with
    | .mnil => some ()
    | _ => none
  | .emp => match s.sl i with
    | .agg [] => some ()
    | _ => none
  | .fp e => match s.sl i with
    | .fp ds 0 => e.dec ds
    | .op t 0 => cond lax (match s.look t with
      | some (.cells _ ds) => cond (ds.all D.plain) (e.dec ds) none
      | _ => none) none
    | _ => none
  | .clo f es => match s.sl i with
    | .clo f' ds => cond (decide (f' = f)) (esDec es ds) none
    | _ => none
  | .intc k n => match s.sl i with
    | .int k' n' => cond (decide (k' = k ∧ n' = n)) (some ()) none
    | _ => none
  | .inil => match s.sl i with
    | .inil => some ()
    | _ => none
  | .fnl => match s.sl i with
    | .fnl => some ()
    | _ => none
  | .al j => match s.sl i with
    | .own t => match s.sl j with
      | .own t' => cond (t == t' && ((nkp s.np j || t' == j) && !(j == NT) && !(j == NTR))) (some ()) none
      | _ => none
    | .nil => match s.sl j with
      | .nil => cond (nkp s.np j && !(j == NT) && !(j == NTR)) (some ()) none
      | _ => none
    | _ => none
  | .mp => match s.sl i with
    | .own t => cond ((nkp s.np i || t == i) && !(i == NT) && !(i == NTR)) (match s.look t with
      | some (.mp l) => some l
      | _ => none) none
    | _ => none
  | .sit => match s.sl i with
    | .op t 0 => cond ((nkp s.np i || t == i) && !(i == NT) && !(i == NTR)) (match s.look t with
      | some (.sit l pos) => some (l, pos)
      | _ => none) none
    | _ => none
  | .ns T A => cond (i == NT) (match s.look NT with
    | some (.nodes T' A' hs none) => cond (T' == T && A' == A) (some hs) none
    | _ => none) none
  | .nsr => cond (i == NTR) (match s.look NTR with
    | some (.nodesR hs) => some hs
    | _ => cond lax (match s.look NT with
      | some (.nodes _ _ hs none) => some hs
      | _ => none) none) none
def tag1 (s : St) (i : Nat) : Kd → List Nat
  | .own _ _ => match s.sl i with
    | .own t => [t]
    | _ => []
  | .blk _ _ => match s.sl i with
    | .op t _ => [t]
    | _ => []
  | .mp => match s.sl i with
    | .own t => [t]
    | _ => []
  | .sit => match s.sl i with
    | .op t _ => [t]
    | _ => []
  | .ns _ _ => [NT]
  | _ => []
def unP (s : St) (lax : Bool) : (p : Pt) → Option (Tup p)
  | [] => some ()
  | [p] => un1 s lax p.1 p.2
  | p :: q :: ps => match un1 s lax p.1 p.2 with
    | none => none
    | some x => match unP s lax (q :: ps) with
      | none => none
      | some y => some (x, y)
def tags (s : St) (p : Pt) : List Nat := p.flatMap fun q => tag1 s q.1 q.2
def nodupB : List Nat → Bool
  | [] => true
  | t :: ts => !(ts.any (· == t)) && nodupB ts
/-- The slots of known kinds, and no two of them share a block. -/
def unD (s : St) (p : Pt) : Option (Tup p) := cond (nodupB (tags s p) && nodupB (p.map (·.1))) (unP s false p) none

/-! Calls -/
def Fl.flat : Fl → Bool
  | .int _ => true | .bool => true | .str => true | .np => true | .pnil => true | .nil => true
  | _ => false
def E.flat : E → Bool
  | .node => false
  | .rc f fs _ => f.flat && fs.all Fl.flat
  | _ => true
/-- What does not lean on memory that nobody changes. -/
def Kd.flat : Kd → Bool
  | .lst _ => false | .el e => e.flat | .own e _ => e.flat | .blk e _ => e.flat | .fp _ => false | .nsr => false | .clo _ _ => false
  | _ => true
def Kd.scalar : Kd → Bool
  | .int _ => true | .bool => true | .str => true
  | _ => false
/-- What is handed to a callee as a list to look at, of lists that the caller owns. -/
def lent (s : St) : Pt → List Nat
  | [] => []
  | (i, .lst _) :: ps => match s.sl i with
    | .own t => t :: lent s ps
    | _ => lent s ps
  | (i, .fp _) :: ps => match s.sl i with
    | .op t 0 => t :: lent s ps
    | _ => lent s ps
  | (_, .nsr) :: ps => match s.look NTR with
    | some (.nodesR _) => lent s ps
    | _ => match s.look NT with
      | some (.nodes _ _ _ _) => NT :: lent s ps
      | _ => lent s ps
  | _ :: ps => lent s ps
def freezeAll (s : St) : List Nat → Option St
  | [] => some s
  | t :: ts => match s.look t with
    | some (.rows e _ xs) => freezeAll (s.freeze t (.lst e xs)) ts
    | some (.cells _ ds) => cond (ds.all D.plain) (freezeAll (s.freeze t (.fp ds 0)) ts) none
    | _ => none
def purgeAll (s : St) : List Nat → St
  | [] => s
  | t :: ts => purgeAll (s.purge t) ts
def realK (p : Pt) : List Nat := (p.map (·.1)).filter fun k => Nat.blt k 1000
def hasNT (p : Pt) : Bool := p.any fun q => q.1 == NT
/-- The tags of what a call hands back. -/
def outTag (d : Nat) (args : List D) (k : Nat) : Nat := cond (Nat.blt k 1000) (1000 * (d + 1) + k) (cond (k == NT) NT (match args.getD (k - 1000) .u with
  | .op t _ => t
  | .own t => t
  | _ => 0))
def outOw (τ : Nat → Nat) : (p : Pt) → Tup p → List (Nat × OB)
  | [], _ => []
  | [p], x => (mk1 (τ p.1) p.2 x).2
  | p :: q :: ps, x => (mk1 (τ p.1) p.2 x.1).2 ++ outOw τ (q :: ps) x.2
def outDs (τ : Nat → Nat) : (p : Pt) → Tup p → List D
  | [], _ => []
  | [p], x => cond (Nat.blt p.1 1000) [(mk1 (τ p.1) p.2 x).1] []
  | p :: q :: ps, x => cond (Nat.blt p.1 1000) ((mk1 (τ p.1) p.2 x.1).1 :: outDs τ (q :: ps) x.2) (outDs τ (q :: ps) x.2)
def joinD : List D → D
  | [d] => d
  | [] => .u
  | ds => .tup ds
def argSt (s : St) (args : List D) : St := ⟨args.length, 0, s.nw, fun i => args.getD i .u, s.ow⟩
def backT (τ : Nat → Nat) (p : Pt) : List Nat := ((p.map (·.1)).filter fun k => !(Nat.blt k 1000)).map τ
def Kd.noAl : Kd → Bool
  | .al _ => false
  | _ => true
def D.isRef : D → Bool
  | .own _ => true
  | .op _ _ => true
  | _ => false
def callOK (s : St) (d : Nat) (args : List D) (ent : Ent) : Bool :=
  nodupB (tags (argSt s args) ent.pin ++ lent (argSt s args) ent.pin) && realK ent.pin == List.range args.length && realK ent.pout == List.range (realK ent.pout).length
  && (backT (outTag d args) ent.pout).all (fun t => (tags (argSt s args) ent.pin).contains t) && ent.pout.all (fun q => Nat.blt q.1 1000 || q.1 == NT || (Nat.blt q.1 NT && (args.getD (q.1 - 1000) .u).isRef)) && nodupB (ent.pout.map fun q => outTag d args q.1)
  && Nat.ble (s.np % 1000) (1000 * (d + 1)) && Nat.ble (s.np % 1000) NT && (!(hasNT ent.pout) || s.nw) && ent.pout.all (fun q => q.2.noAl)
def evCall (s : St) (d : Nat) (f : FuncId) (args : List D) (K : D → St → Option R) : Option R :=
  match C.fns f with
  | none => none
  | some ent =>
    cond (callOK s d args ent)
      (match unP (argSt s args) true ent.pin with
       | none => none
       | some x =>
         match (cond (ent.pout.all fun q => q.2.flat) (some s) (freezeAll s (lent (argSt s args) ent.pin)) : Option St) with
         | none => none
         | some s0 =>
         let τ := outTag d args
         let back := backT τ ent.pout
         let s2 := purgeAll s0 (((tags (argSt s args) ent.pin).filter fun t => !(back.contains t) || t == NT) ++ (realK ent.pout).map τ)
         (ent.m x).bind fun r => K (joinD (outDs τ ent.pout r)) ⟨s2.n, s2.np, s2.nw, s2.sl, outOw τ ent.pout r ++ s2.ow.filter fun p => !(back.contains p.1)⟩)
      none

def isPure : Op → Bool
  | .move _ => true | .assign _ => true | .pick _ _ _ => true | .lookup _ _ _ _ => true | .binOp _ _ _ _ _ => true | .unOp _ _ _ => true | .extract _ _ => true | .index _ _ _ => true | .indexAddr _ _ _ => true | .fieldAddr _ _ _ => true | .load _ _ => true | .nilCheck _ => true | .field _ _ _ => true | .build _ _ => true | .slice _ _ _ _ _ => true | .makeFunc _ _ _ => true
  | .call c => (match c.callee with
    | .builtin .len => true | .builtin .min => true | .builtin .max => true
    | _ => false)
  | _ => false
/-- A call whose answer is a number, a bool or a text, of arguments that it only looks at. -/
def evCallQ (s : St) (f : FuncId) (args : List D) (K : D → Option R) : Option R :=
  match C.fns f with
  | none => none
  | some ent =>
    cond (ent.pout.all (fun q => q.2.scalar) && (tags (argSt s args) ent.pin).isEmpty && nodupB (lent (argSt s args) ent.pin) && realK ent.pin == List.range args.length && ent.pout.map (·.1) == List.range ent.pout.length && (realK ent.pout).length == ent.pout.length)
      (match unP (argSt s args) true ent.pin with
       | none => none
       | some x => (ent.m x).bind fun r => K (joinD (outDs id ent.pout r)))
      none
def ownTags : List D → List Nat
  | [] => []
  | .own t :: ds => t :: ownTags ds
  | _ :: ds => ownTags ds
def evOp (s : St) (dst : Option Tmp) (o : Op) (K : D → St → Option R) : Option R :=
  match o with
  | .call ⟨.value (.func f), xs, _⟩ => evCall C s (dst.getD 900000) f (xs.toList.map (g s)) K
  | .call ⟨.value (.tmp t), xs, _⟩ => (match s.sl t with
    | .clo f ds => evCall C s (dst.getD 900000) f (xs.toList.map (g s) ++ ds) K
    | _ => none)
  | .convert S T x => (match ti C T with
    | some ⟨.slice _, _, _, _, _, _⟩ => cond (Nat.ble (s.np % 1000) (dst.getD 900000)) (evEff C s (dst.getD 900000) (.convert S T x) K) none
    | _ => evPure C s (.convert S T x) fun d => K d s)
  | .build T parts => (match freezeAll s (ownTags (parts.toList.map fun q => g s q.2)) with
    | some s' => evPure C s' (.build T parts) fun d => K d s'
    | none => none)
  | o => cond (isPure o) (evPure C s o fun d => K d s) (cond (Nat.ble (s.np % 1000) (dst.getD 900000)) (evEff C s (dst.getD 900000) o K) none)
def evOpQ (s : St) (o : Op) (K : D → Option R) : Option R :=
  match o with
  | .call ⟨.value (.func f), xs, _⟩ => evCallQ C s f (xs.toList.map (g s)) K
  | o => evPure C s o K

/-- The operations of a region, one behind the other. -/
def evOps (step : St → Oper → (St → Option R) → Option R) (all : List Oper) : List Oper → St → (St → Option R) → Option R
  | [], s, k => k s
  | o :: l, s, k =>
    match o.guard with
    | none => step s o fun s' => evOps step all l s' k
    | some (j, b) => match (all[j]?).bind (·.dst) with
      | none => none
      | some t => match s.sl t with
        | .bool c => cond c
            (let s' := s.set t (.bool true); cond b (step s' o fun s' => evOps step all l s' k) (match s'.put o.dst .und with
              | some s' => evOps step all l s' k
              | none => none))
            (let s' := s.set t (.bool false); cond b (match s'.put o.dst .und with
              | some s' => evOps step all l s' k
              | none => none) (step s' o fun s' => evOps step all l s' k))
        | .und => (match s.put o.dst .und with
            | some s' => evOps step all l s' k
            | none => none)
        | _ => none
def stepN (s : St) (o : Oper) (k : St → Option R) : Option R := evOp C s o.dst o.op fun d s' => match s'.put o.dst d with
  | some s'' => k s''
  | none => none
def stepQ (s : St) (o : Oper) (k : St → Option R) : Option R := evOpQ C s o.op fun d => match s.put o.dst d with
  | some s'' => k s''
  | none => none

/-! Regions that draw their order, and write -/
/-- What is so of the region's text; not to be looked into where models are printed. -/
def chk (b : Bool) : Bool := b
/-- What reads the nodes, or changes anything. -/
def lateB (s : St) (o : Op) : Bool :=
  !isPure o || (match o with
    | .load _ x => (match g s x with
      | .nf _ _ => true | .nae _ _ _ => true
      | _ => false)
    | .indexAddr _ x _ => (match g s x with
      | .na _ => true
      | _ => false)
    | .call c => c.args.any fun x => (match g s x with
      | .na _ => true
      | _ => false)
    | _ => false)
def lateO (s : St) (late : List Nat) (o : Oper) : Bool :=
  o.after.any (fun e => late.contains e.on) || (match o.guard with | some (j, _) => late.contains j | none => false) || lateB s o.op
def earlyE (ops : Array Oper) : List Oper → Nat → Array Bool → List Nat → St → (Array Bool → List Nat → St → Option R) → Option R
  | [], _, listed, late, s, K => K listed late s
  | o :: l, i, listed, late, s, K =>
    cond (lateO s late o) (earlyE ops l (i + 1) listed (late ++ [i]) s K)
      (cond (chk (Region.free .any ops listed i && (Region.ready .any ops listed).contains i)) (match o.guard with
        | none => evPure C ⟨s.n, s.np, s.nw, s.sl, s.ow.filter fun p => !(p.1 == NT)⟩ o.op fun d => match s.put o.dst d with
          | some s' => earlyE ops l (i + 1) (listed.setIfInBounds i true) late s' K
          | none => none
        | some (j, b) => match (ops.toList[j]?).bind (·.dst) with
          | none => none
          | some t => match s.sl t with
            | .bool c => cond (c == b) (evPure C ⟨s.n, s.np, s.nw, s.sl, s.ow.filter fun p => !(p.1 == NT)⟩ o.op fun d => match s.put o.dst d with
                | some s' => earlyE ops l (i + 1) (listed.setIfInBounds i true) late s' K
                | none => none) (match s.put o.dst .und with
                | some s' => earlyE ops l (i + 1) (listed.setIfInBounds i true) late s' K
                | none => none)
            | .und => (match s.put o.dst .und with
                | some s' => earlyE ops l (i + 1) (listed.setIfInBounds i true) late s' K
                | none => none)
            | _ => none) none)
/-- Two may come up: a load, and a slice that is built of what is there. -/
def diam (ops : Array Oper) (listed : Array Bool) (i j : Nat) : Bool :=
  match ops.toList[i]? with
  | some ⟨some di, .load _ (.tmp a), _, _, _, none⟩ => (match ops.toList[j]? with
    | some ⟨some dj, .buildSlice _ _ parts, _, _, _, none⟩ => !(a == dj) && !(di == dj) && parts.toList.all (fun q => match q.2 with | .tmp b => !(b == di) | _ => true)
      && Region.ready .any ops listed == [i, j] && Region.ready .any ops (listed.setIfInBounds i true) == [j] && Region.ready .any ops (listed.setIfInBounds j true) == [i]
      && (listed.setIfInBounds i true).setIfInBounds j true == (listed.setIfInBounds j true).setIfInBounds i true
    | _ => false)
  | _ => false
def lateE (ops : Array Oper) (w0 : List (Nat × OB)) : List Nat → Array Bool → St → (St → Option R) → Option R
  | [], listed, s, K => cond (chk (Region.ready .any ops listed == [])) (K ⟨s.n, s.np, s.nw, s.sl, w0 ++ s.ow⟩) none
  | i :: late, listed, s, K =>
    cond (chk (Region.ready .any ops listed == [i])) (match ops.toList[i]? with
      | none => none
      | some o => match o.guard with
        | none => cond (w0.all fun p => !(p.1 == o.dst.getD 900000) && !(p.1 / 1000 == o.dst.getD 900000 + 1)) (stepN C s o fun s' => cond (s'.ow.all fun q => w0.all fun p => !(p.1 == q.1)) (lateE ops w0 late (listed.setIfInBounds i true) s' K) none) none
        | some _ => none)
      (match late with
      | [] => none
      | j :: late => cond (chk (diam ops listed i j)) (match ops.toList[i]? with
        | none => none
        | some o => match ops.toList[j]? with
          | none => none
          | some o' => cond (w0.all fun p => !(p.1 == o'.dst.getD 900000) && !(p.1 / 1000 == o'.dst.getD 900000 + 1)) (stepN C s o fun s => stepN C s o' fun s' => cond (s'.ow.all fun q => w0.all fun p => !(p.1 == q.1)) (lateE ops w0 late ((listed.setIfInBounds i true).setIfInBounds j true) s' K) none) none) none)
/-- What is hidden speaks of nothing else. -/
def hidden (w0 : List (Nat × OB)) : Bool := w0.all fun p => match p.2 with
  | .cells _ ds => ds.all fun d => d.plain || (match d with
    | .own t => w0.any fun q => q.1 == t
    | .op t _ => w0.any fun q => q.1 == t
    | _ => false)
  | .rows _ _ _ => true
  | .nodes _ _ _ _ => false
  | .nodesR _ => true
  | .mp _ => true
  | .sit _ _ => true
def evHeld (s : St) (ops : Array Oper) (k : St → Option R) : Option R :=
  cond (chk (Region.noSelect ops)) (earlyE C ops ops.toList 0 (Array.replicate ops.size false) [] s fun listed late s' =>
    cond (hidden (s'.ow.filter fun p => !(p.1 == NT))) (lateE C ops (s'.ow.filter fun p => !(p.1 == NT)) late listed ⟨s'.n, s'.np, s'.nw, s'.sl, s'.ow.filter fun p => p.1 == NT⟩ k) none) none
def quietB (o : Oper) : Bool :=
  match o.op with
  | .call ⟨.value (.func f), _, _⟩ => (match C.fns f with
    | some ent => ent.pout.all (fun q => q.2.scalar) && ent.pin.all fun q => (match q.2 with | .own _ _ => false | .blk _ _ => false | .ns _ _ => false | _ => true)
    | none => true)
  | .convert _ T _ => (match ti C T with
    | some ⟨.slice _, _, _, _, _, _⟩ => false
    | _ => true)
  | o => isPure o

/-- Variables that a function made here has captured, and only looks at. -/
def capTs (s : St) (f : FuncId) (j : Nat) : List Operand → List Nat
  | [] => []
  | x :: xs => match g s x with
    | .op t 0 => (match C.fns f with
      | some ent => (match ent.pin.find? (fun q => q.1 == j) with
        | some (_, Kd.fp _) => t :: capTs s f (j + 1) xs
        | _ => capTs s f (j + 1) xs)
      | none => capTs s f (j + 1) xs)
    | _ => capTs s f (j + 1) xs
def capOps (np : FuncId → Nat) (s : St) : List Oper → List Nat
  | [] => []
  | o :: os => match o.op with
    | .makeFunc (.func f) _ cs => capTs C s f (np f) cs.toList ++ capOps np s os
    | _ => capOps np s os
def dedup : List Nat → List Nat
  | [] => []
  | t :: ts => cond (ts.any (· == t)) (dedup ts) (t :: dedup ts)
/-- The captured variables stay as they are from here on. -/
def capS (s : St) (ops : Array Oper) : Option St := freezeAll s (dedup (capOps C (fun f => match C.fns f with
  | some ent => (realK ent.pin).length - (ops.toList.foldl (fun n o => match o.op with | .makeFunc (.func f') _ cs => cond (f' == f) cs.size n | _ => n) 0)
  | none => 0) s ops.toList))

/-! Code -/
def outS (n np : Nat) (nw : Bool) : (xs : List (Xt × Pt)) → SumT (xs.map (·.2)) → Xt × St
  | [], x => x.elim
  | [p], x => (p.1, mkP n np nw p.2 x)
  | p :: q :: ps, x => match x with
    | .inl y => (p.1, mkP n np nw p.2 y)
    | .inr y => outS n np nw (q :: ps) y
def selim {α β γ : Type} (f : α → γ) (h : β → γ) : α ⊕ β → γ
  | .inl a => f a
  | .inr b => h b
def outK {R : Type} (n np : Nat) (nw : Bool) (k : Xt → St → Option R) : (xs : List (Xt × Pt)) → SumT (xs.map (·.2)) → Option R
  | [], _ => none
  | [p], x => k p.1 (mkP n np nw p.2 x)
  | p :: q :: ps, x => selim (fun y => k p.1 (mkP n np nw p.2 y)) (fun y => outK n np nw k (q :: ps) y) x
def evC (L : Nat → Option LEnt) : Code → Nat → St → (Xt → St → Option R) → Option R
  | .skip, _, s, k => k .nm s
  | .region _ ops drawn, _, s, k => (match capS C s ops with
    | none => none
    | some s => cond drawn (cond (ops.toList.all (quietB C)) (cond (chk (Region.lexB .any ops)) (evOps (stepQ C) ops.toList ops.toList s fun s' => k .nm s') none) (evHeld C s ops fun s' => k .nm s')) (evOps (stepN C) ops.toList ops.toList s fun s' => k .nm s'))
  | .seq a b, i, s, k => evC L a i s fun e s' => match e with
    | .nm => evC L b i s' k
    | e => k e s'
  | .cond x a b, i, s, k => (match x with
    | .tmp t => (match s.sl t with
      | .bool c => cond c (evC L a i (s.set t (.bool true)) k) (evC L b i (s.set t (.bool false)) k)
      | _ => none)
    | .const (.bool c) => cond c (evC L a i s k) (evC L b i s k)
    | _ => none)
  | .block id c, _, s, k => evC L c id s fun e s' => match e with
    | .ex j => cond (j == id) (k .nm s') (k (.ex j) s')
    | e => k e s'
  | .loop _, i, s, k => (match L i with
    | none => none
    | some le => match unD s le.pin with
      | none => none
      | some x => (le.m x).bind fun y => outK s.n s.np s.nw k le.exits y)
  | .exit id, _, s, k => k (.ex id) s
  | .ret, _, s, k => k .rt s
  | _, _, _, _ => none

/-- A round of a loop: on, or out. -/
inductive Stp (X B : Type) | nx (x : X) | out (b : B)
def decOut (e : Xt) (s : St) : (xs : List (Xt × Pt)) → Option (SumT (xs.map (·.2)))
  | [] => none
  | [p] => cond (decide (p.1 = e)) (unD s p.2) none
  | p :: q :: ps => cond (decide (p.1 = e)) (match unD s p.2 with
    | some x => some (.inl x)
    | none => none) (match decOut e s (q :: ps) with
    | some x => some (.inr x)
    | none => none)
def decRound (pin : Pt) (exits : List (Xt × Pt)) (e : Xt) (s : St) : Option (Stp (Tup pin) (SumT (exits.map (·.2)))) :=
  match e with
  | .nm => (match unD s pin with
    | some x => some (.nx x)
    | none => none)
  | e => (match decOut e s exits with
    | some b => some (.out b)
    | none => none)
def evRound (L : Nat → Option LEnt) (c : Code) (n np : Nat) (nw : Bool) (pin : Pt) (exits : List (Xt × Pt)) (x : Tup pin) : Option (Stp (Tup pin) (SumT (exits.map (·.2)))) :=
  evC C L c 0 (mkP n np nw pin x) (decRound pin exits)

/-- What a function hands back. -/
def resV (s : St) : List ResultVar → Option (St × List D)
  | [] => some (s, [])
  | .tmp t :: rs => (match resV s rs with
    | some (s', ds) => some (s', s'.sl t :: ds)
    | none => none)
  | .cell t T :: rs => (match s.sl t with
    | .op b off => (match s.look b with
      | some (.cells _ ds) => (match freezeAll s (ownTags ds) with
        | some s1 => (match ti C T with
          | some i => (match s1.look b with
            | some (.cells _ ds) => rdCells ds off i fun d => match resV s1 rs with
              | some (s', ds) => some (s', d :: ds)
              | none => none
            | _ => none)
          | none => none)
        | none => none)
      | _ => none)
    | _ => none)
/-- Structs whose address is handed back: nobody changes them any more. -/
def frzB (s : St) (t : Nat) : Option St :=
  match s.look t with
  | some (.cells _ ds) => (match freezeAll s (ownTags ds) with
    | some s1 => (match s1.look t with
      | some (.cells _ ds1) => cond (ds1.all D.plain) (some (s1.freeze t (.fp ds1 0))) none
      | _ => none)
    | none => none)
  | _ => none
def preFrz (s : St) : List ResultVar → List (Nat × Kd) → Option St
  | .tmp t :: rs, (_, .fp _) :: ks => (match s.sl t with
    | .op b 0 => (match frzB s b with
      | some s' => preFrz s' rs ks
      | none => none)
    | _ => preFrz s rs ks)
  | _ :: rs, _ :: ks => preFrz s rs ks
  | _, _ => some s
def ioD (s : St) (i : Nat) : D :=
  match s.look i with
  | some (.rows _ _ _) => .own i
  | some (.cells _ _) => .op i 0
  | some (.mp _) => .own i
  | _ => .u
def Kd.isRef : Kd → Bool
  | .own _ _ => true | .blk _ _ => true | .mp => true
  | _ => false
def endSt (s : St) (ds : List D) : St := ⟨0, 0, s.nw, fun k => cond (Nat.blt k 1000) (ds.getD k .u) (cond (k == NT) .u (ioD s (k - 1000))), s.ow⟩
def decRes (ent : Ent) (fn : Func) (e : Xt) (s : St) : Option (Tup ent.pout) :=
  cond (match e with | .rt => true | .nm => fn.results.isEmpty | _ => false)
    (match preFrz s fn.results.toList ent.pout with
    | some s => match resV C s fn.results.toList with
      | some (s', ds) => cond (realK ent.pout == List.range ds.length && ent.pout.all (fun q => Nat.blt q.1 1000 || q.1 == NT || (Nat.blt q.1 (1000 + ent.np % 1000) && Nat.ble (1000 + ent.np / 1000) q.1 && q.2.isRef))) (unD (endSt s' ds) ent.pout) none
      | none => none
    | none => none) none
def evF (L : Nat → Option LEnt) (fn : Func) (c : Code) (ent : Ent) (x : Tup ent.pin) : Option (Tup ent.pout) :=
  evC C L c 0 (mkP fn.ntmps ent.np (hasNT ent.pout) ent.pin x) (decRes C ent fn)
end

/-! Loops -/
inductive LoopTo {X B : Type} (body : X → Option (Stp X B)) : X → B → Prop
  | out {x : X} {b : B} : body x = some (.out b) → LoopTo body x b
  | nx {x y : X} {b : B} : body x = some (.nx y) → LoopTo body y b → LoopTo body x b
open Classical in
noncomputable def loopO {X B : Type} (body : X → Option (Stp X B)) (x : X) : Option B := if h : ∃ b, LoopTo body x b then some h.choose else none
theorem LoopTo.unique {X B : Type} {body : X → Option (Stp X B)} {x : X} {b b' : B} (h : LoopTo body x b) (h' : LoopTo body x b') : b = b' := by
  induction h with
  | out h1 =>
    cases h' with
    | out h2 => rw [h1] at h2; cases h2; rfl
    | nx h2 _ => rw [h1] at h2; cases h2
  | nx h1 _ ih =>
    cases h' with
    | out h2 => rw [h1] at h2; cases h2
    | nx h2 h3 => rw [h1] at h2; cases h2; exact ih h3
theorem loopO_iff {X B : Type} {body : X → Option (Stp X B)} {x : X} {b : B} : loopO body x = some b ↔ LoopTo body x b := by
  unfold loopO
  constructor
  · intro h
    split at h
    · rename_i hh
      cases h
      exact hh.choose_spec
    · cases h
  · intro h
    have hh : ∃ b, LoopTo body x b := ⟨b, h⟩
    rw [dif_pos hh]
    exact congrArg some (hh.choose_spec.unique h)
theorem loopO_nx {X B : Type} {body : X → Option (Stp X B)} {x y : X} (h : body x = some (.nx y)) : loopO body x = loopO body y := by
  cases hy : loopO body y with
  | some b => exact loopO_iff.2 (.nx h (loopO_iff.1 hy))
  | none =>
    cases hx : loopO body x with
    | none => rfl
    | some b =>
      have := loopO_iff.1 hx
      cases this with
      | out h2 => rw [h] at h2; cases h2
      | nx h2 h3 => rw [h] at h2; cases h2; rw [loopO_iff.2 h3] at hy; cases hy
theorem loopO_out {X B : Type} {body : X → Option (Stp X B)} {x : X} {b : B} (h : body x = some (.out b)) : loopO body x = some b := loopO_iff.2 (.out h)
end Go.Proofs.Ytchhjooifjcnkaa.V
