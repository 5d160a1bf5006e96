/-
  Texts as bytes, texts gone over, maps of addresses: what the machine does.
-/
import Derived.Test.YtchhjooifjcnkaaKMake
namespace Go.Proofs.Ytchhjooifjcnkaa.K
open Go

def byteV (b : UInt8) : Value := .int .u8 (b.toNat : Int)
section
variable {P : Program} {E : Env} {ops : List Oper} {ρ ρ' : List Value} {h : Array Obj} {d : Option Tmp} {S T ty U X e kt vt : TypeId} {p : String} {af : Array Edge} {g : Option (Nat × Bool)} {x y z : Operand} {l m : List UInt8} {n : Nat} {u : Value}
theorem push_modify {α : Type} (a : Array α) (x : α) (f : α → α) : (a.push x).modify a.size f = a.push (f x) := by
  apply Array.ext_getElem?
  intro i
  simp only [Array.getElem?_modify, Array.getElem?_push]
  by_cases h : i = a.size
  · subst h; simp
  · have : ¬ a.size = i := fun e => h e.symm
    simp [h, this]
theorem run_s2b [Und P S .string] [Und P T (.slice e)] [Und P e (.int .u8)] (hx : ev ρ x = bs l) (w : World) (hw : At E h w) :
    ∃ cap w', l.length ≤ cap ∧ (execOp (ev ρ) ⟨d, .convert S T x, ty, p, af, g⟩).run P w = .ok (.value (.slice (some ⟨h.size, 0, none⟩) l.length cap)) w' ∧ At E (h.push (.cells (l.map byteV ++ List.replicate (cap - l.length) (Value.int .u8 0)).toArray e (cap, cap + 1))) w' := by
  let q' : Question := .appendCap l.length 0 e
  let nc := q'.cut (w.tape w.drawn q')
  have hnc : l.length ≤ nc := Nat.le_add_right _ _
  have hwh : w.heap = h := hw.1
  refine ⟨nc, { w.drew with heap := w.drew.heap.push (.cells (l.map byteV ++ List.replicate (nc - l.length) (Value.int .u8 0)).toArray e (nc, nc + 1)) }, hnc, ?_, ⟨by rw [← hwh]; rfl, hw.2.1, hw.2.2.1, hw.2.2.2⟩⟩
  simp only [execOp, convert, hx, Sem.run_bind, und S w, und T w, Result.andThen_ok, und e w, Conv.stringToBytes]
  have hsz : (ByteArray.mk l.toArray).size = l.length := size_mk l
  simp only [bs, choose, Sem.run_bind, hsz]
  simp only [Sem.run, Question.forced, Result.andThen_ok, hsz]
  simp only [newRow, Sem.run_bind, run_newObj, Result.andThen_ok, Sem.run_pure, markStringish, shape, freeze, Sem.run]
  have hcell : (Array.map (fun b => Value.int IntKind.u8 ((UInt8.toNat b : Nat) : Int)) l.toArray ++ Array.replicate (nc - l.length) (Value.int IntKind.u8 0)) = (List.map byteV l ++ List.replicate (nc - l.length) (Value.int IntKind.u8 0)).toArray := Array.ext' (by simp [byteV])
  have hq : (Question.appendCap l.length 0 e).cut (w.tape w.drawn (Question.appendCap l.length 0 e)) = nc := rfl
  have hlen : (List.map byteV l ++ List.replicate (nc - l.length) (Value.int IntKind.u8 0)).toArray.size = nc := by simp; omega
  simp only [Bool.false_eq_true, if_false, Result.andThen_ok, hq, hcell]
  have hshape : ∀ (W : World) (a : Array Obj) (c : Array Value), W.heap = a.push (Obj.cells c e) → W.shape? a.size = some (e, c.size) := fun W a c hW => by simp [World.shape?, hW]
  rw [hshape _ w.heap _ rfl]
  simp only [hlen]
  simp [Sem.run, World.freeze, push_modify, World.drew, hwh]
theorem bytes_loop (w : World) (f : Value → ByteArray → Sem (ForInStep ByteArray)) (hf : ∀ (c : UInt8) (s : ByteArray) (w : World), (f (byteV c) s).run P w = .ok (.yield (s.push c)) w) : ∀ (l : List UInt8) (s : ByteArray), (forIn (l.map byteV) s f : Sem ByteArray).run P w = .ok ⟨s.data ++ l.toArray⟩ w := by
  intro l
  induction l with
  | nil => intro s; simp
  | cons c l ih =>
    intro s
    simp only [List.map_cons, List.forIn_cons, Sem.run_bind, hf, Result.andThen_ok, ih]
    congr 1
    apply ByteArray.ext
    simp
theorem pu_b2s [Und P S (.slice e)] [Und P T .string] [Und P e (.int .u8)] {B off cp : Nat} (hx : ev ρ x = .slice (some ⟨B, off, none⟩) l.length cp) (hc : cellsFrom h B off (l.map byteV)) : Pu P ρ ⟨d, .convert S T x, ty, p, af, g⟩ h (bs l) := ⟨fun w hw => by
  have hl : (loadCells ⟨B, off, none⟩ l.length).run P w = .ok (l.map byteV).toArray w := by
    subst hw
    have := run_loadCellsFrom (P := P) w B off (l.map byteV) 0 #[] (by simpa using hc)
    simpa [loadCells] using this
  simp only [execOp, convert, hx, Sem.run_bind, und S w, und T w, Result.andThen_ok, und e w, Conv.bytesToString, hl]
  rw [← Array.forIn_toList]
  simp only [List.toList_toArray]
  rw [bytes_loop]
  · simp [bs]
  · intro c s w
    simp [byteV]⟩
theorem pu_b2s0 [Und P S (.slice e)] [Und P T .string] [Und P e (.int .u8)] {n cp : Nat} (hx : ev ρ x = .slice none n cp) : Pu P ρ ⟨d, .convert S T x, ty, p, af, g⟩ h (bs []) := ⟨fun w hw => by
  simp [execOp, convert, hx, Sem.run_bind, und S w, und T w, Result.andThen_ok, und e w, Conv.bytesToString]
  rfl⟩
theorem pu_b2sE [Und P S (.slice e)] [Und P T .string] [Und P e (.int .u8)] {a : Addr} {cp : Nat} (hx : ev ρ x = .slice (some a) 0 cp) : Pu P ρ ⟨d, .convert S T x, ty, p, af, g⟩ h (bs []) := ⟨fun w hw => by
  simp [execOp, convert, hx, Sem.run_bind, und S w, und T w, Result.andThen_ok, und e w, Conv.bytesToString, loadCells, loadCellsFrom]
  rfl⟩
theorem eql_map [Und P T (.map kt vt)] (a : Option Nat) (w : World) : (Op.equal T (.map a) (.map none)).run P w = .ok (decide (a = none)) w := by
  unfold Op.equal Op.maxDepth Op.equalIn
  simp only [Sem.run_bind, und T w, Result.andThen_ok]
  cases a <;> simp
theorem guard_map (op : BinOp) (q : Option Nat) (v2 : Value) (w : World) : (eqGuard op T x y (.map q) v2).run P w = .ok () w := by
  unfold eqGuard
  split <;> simp
theorem pu_eql_map [Und P T (.map kt vt)] {a : Option Nat} (hx : ev ρ x = .map a) (hy : ev ρ y = .map none) : Pu P ρ ⟨d, .binOp .eql T x y U, ty, p, af, g⟩ h (.bool (decide (a = none))) := ⟨fun w hw => by
  simp [execOp, guard_map, hx, hy, binOp, eql_map (P := P) (T := T) (kt := kt) (vt := vt)]⟩
theorem pu_neq_map [Und P T (.map kt vt)] {a : Option Nat} (hx : ev ρ x = .map a) (hy : ev ρ y = .map none) : Pu P ρ ⟨d, .binOp .neq T x y U, ty, p, af, g⟩ h (.bool (!decide (a = none))) := ⟨fun w hw => by
  simp [execOp, guard_map, hx, hy, binOp, eql_map (P := P) (T := T) (kt := kt) (vt := vt)]⟩
theorem run_range (hx : ev ρ x = bs l) [Und P T .string] (w : World) (hw : At E h w) : (execOp (ev ρ) ⟨d, .range T x, ty, p, af, g⟩).run P w = .ok (.value (.pointer (some ⟨h.size, 0, none⟩))) { w with heap := w.heap.push (.stringIter ⟨l.toArray⟩ 0) } := by
  rw [← hw.1]
  simp [execOp, hx, Instr.range, und T w, bs]
theorem run_next_on {B pos : Nat} (hx : ev ρ x = .pointer (some ⟨B, 0, none⟩)) (w : World) (hw : w.heap[B]? = some (.stringIter ⟨l.toArray⟩ pos)) (hp : pos < l.length) : (execOp (ev ρ) ⟨d, .next x true, ty, p, af, g⟩).run P w = .ok (.value (.tuple #[.bool true, .int .i64 (pos : Int), .int .i32 ((Utf8.decode ⟨l.toArray⟩ pos).1 : Int)])) { w with heap := w.heap.setIfInBounds B (.stringIter ⟨l.toArray⟩ (pos + (Utf8.decode ⟨l.toArray⟩ pos).2)) } := by
  have h1 : (getObj B).run P w = .ok (.stringIter ⟨l.toArray⟩ pos) w := by simp [getObj, Sem.run, hw]
  have h2 : ∀ o, (setObj B o).run P w = .ok () { w with heap := w.heap.setIfInBounds B o } := fun o => by simp [setObj, Sem.run, hw]
  have hs : pos < (ByteArray.mk l.toArray).size := by rw [size_mk]; exact hp
  simp [execOp, hx, Instr.next, h1, h2, hs]
  rfl
theorem run_next_off {B pos : Nat} (hx : ev ρ x = .pointer (some ⟨B, 0, none⟩)) (w : World) (hw : w.heap[B]? = some (.stringIter ⟨l.toArray⟩ pos)) (hp : ¬ pos < l.length) : (execOp (ev ρ) ⟨d, .next x true, ty, p, af, g⟩).run P w = .ok (.value (.tuple #[.bool false])) w := by
  have h1 : (getObj B).run P w = .ok (.stringIter ⟨l.toArray⟩ pos) w := by simp [getObj, Sem.run, hw]
  have hs : ¬ pos < (ByteArray.mk l.toArray).size := by rw [size_mk]; exact hp
  simp only [execOp, hx, Instr.next, Sem.run_bind, h1, Result.andThen_ok, if_neg hs]
  simp
/-! maps whose keys are addresses -/
theorem equal_nil [Und P T (.pointer e)] [Siz P e n] (hn : n ≠ 0) (a : Option Addr) (w : World) : (Op.equal T (.pointer none) (.pointer a)).run P w = .ok (decide (a = none)) w := by
  unfold Op.equal Op.maxDepth Op.equalIn
  simp only [Sem.run_bind, und T w, Result.andThen_ok, siz e w, ne_eq, hn, not_false_eq_true, if_true]
  cases a <;> simp
theorem equal_nil' [Und P T (.pointer e)] [Siz P e n] (hn : n ≠ 0) (a : Option Addr) (w : World) : (Op.equal T (.pointer a) (.pointer none)).run P w = .ok (decide (a = none)) w := by
  unfold Op.equal Op.maxDepth Op.equalIn
  simp only [Sem.run_bind, und T w, Result.andThen_ok, siz e w, ne_eq, hn, not_false_eq_true, if_true]
  cases a <;> simp
def findD (dec : Value → Bool) : List MapEntry → Nat → Option (Nat × Value)
  | [], _ => none
  | m :: es, i => if dec m.key then some (i, m.val) else findD dec es (i + 1)
theorem run_findAsking (w : World) (k : Value) (dec : Value → Bool) : ∀ (es : List MapEntry) (i : Nat), (∀ m ∈ es, (Op.equal kt k m.key).run P w = .ok (dec m.key) w) → (Instr.findAsking kt k es i).run P w = .ok (findD dec es i) w
  | [], i, _ => by simp [Instr.findAsking, findD]
  | m :: es, i, hq => by
    simp only [Instr.findAsking, Sem.run_bind, hq m (by simp), Result.andThen_ok, findD]
    cases dec m.key with
    | true => simp
    | false => simpa using run_findAsking w k dec es (i + 1) fun m hm => hq m (by simp [hm])
theorem run_findKey [Und P kt (.pointer e)] (w : World) (k : Value) (dec : Value → Bool) (es : List MapEntry) (hq : ∀ m ∈ es, (Op.equal kt k m.key).run P w = .ok (dec m.key) w) : (Instr.findKey kt k es).run P w = .ok (findD dec es 0) w := by
  simp only [Instr.findKey, Sem.run_bind, und kt w, Result.andThen_ok]
  cases es with
  | nil => simp [Instr.findNow, findD]
  | cons m es =>
    simp only [Instr.findNow, Instr.sameNow]
    exact run_findAsking w k dec _ 0 hq
theorem run_checkKey [Und P kt (.pointer e)] (w : World) (b : Bool) (a : Option Addr) : (Instr.checkKey b 10000 kt (.pointer a)).run P w = .ok () w := by
  have h : ∀ n, (Instr.checkKey b (n + 1) kt (.pointer a)).run P w = .ok () w := fun n => by simp [Instr.checkKey, und kt w]
  exact h 9999
theorem pu_lookup [Und P T (.map kt vt)] [Und P kt (.pointer e)] [Zer P vt u] {B : Nat} {a : Option Addr} {es : Array MapEntry} {ck : Nat} (dec : Value → Bool) (hx : ev ρ x = .map (some B)) (hy : ev ρ y = .pointer a) (hb : h[B]? = some (.map es ck)) (hq : ∀ w : World, w.heap = h → ∀ m ∈ es.toList, (Op.equal kt (.pointer a) m.key).run P w = .ok (dec m.key) w) : Pu P ρ ⟨d, .lookup T x y false, ty, p, af, g⟩ h (match findD dec es.toList 0 with | some r => r.2 | none => u) := ⟨fun w hw => by
  have h1 : (getObj B).run P w = .ok (.map es ck) w := by simp [getObj, Sem.run, hw, hb]
  simp only [execOp, hx, hy, Instr.lookup, Sem.run_bind, und T w, Result.andThen_ok, h1, Sem.run_pure, run_checkKey (e := e), run_findKey (e := e) w _ dec _ (hq w hw)]
  cases findD dec es.toList 0 with
  | none => simp [zer vt w]
  | some r => simp⟩
theorem pu_lookup0 [Und P T (.map kt vt)] [Und P kt (.pointer e)] [Zer P vt u] {a : Option Addr} (hx : ev ρ x = .map none) (hy : ev ρ y = .pointer a) : Pu P ρ ⟨d, .lookup T x y false, ty, p, af, g⟩ h u := ⟨fun w hw => by
  have hf := run_findKey (P := P) (kt := kt) (e := e) w (.pointer a) (fun _ => true) [] (by simp)
  simp only [execOp, hx, hy, Instr.lookup, Sem.run_bind, und T w, Result.andThen_ok, Sem.run_pure, run_checkKey (e := e), hf]
  simp [findD, zer vt w]⟩
theorem run_makeMap [Und P T (.map kt vt)] {r : Option Operand} (hr : ∀ y, r = some y → ∃ k n, ev ρ y = .int k n) (w : World) (hw : At E h w) : (execOp (ev ρ) ⟨d, .makeMap T r, ty, p, af, g⟩).run P w = .ok (.value (.map (some h.size))) { w with heap := w.heap.push (.map #[] 0) } := by
  rw [← hw.1]
  cases r with
  | none => simp [execOp, Instr.makeMap]
  | some y =>
    obtain ⟨k, n, hy⟩ := hr y rfl
    simp [execOp, Instr.makeMap, hy, und T w, asInt, asIntOf]
theorem run_mapUpdate [Und P T (.map kt vt)] [Und P kt (.pointer e)] {B : Nat} {a : Option Addr} {es : Array MapEntry} {ck : Nat} (dec : Value → Bool) (hx : ev ρ x = .map (some B)) (hy : ev ρ y = .pointer a) (w : World) (hb : w.heap[B]? = some (.map es ck)) (hq : ∀ m ∈ es.toList, (Op.equal kt (.pointer a) m.key).run P w = .ok (dec m.key) w) (hd : ∀ m ∈ es.toList, dec m.key = true → m.key = .pointer a) :
    (execOp (ev ρ) ⟨d, .mapUpdate T x y z, ty, p, af, g⟩).run P w = .ok .skip { w with heap := w.heap.setIfInBounds B (match findD dec es.toList 0 with
      | some r => .map (es.modify r.1 fun m => { m with key := .pointer a, val := ev ρ z }) ck
      | none => .map (es.push { key := .pointer a, val := ev ρ z, born := ck }) (ck + 1)) } := by
  have h1 : (getObj B).run P w = .ok (.map es ck) w := by simp [getObj, Sem.run, hb]
  have h2 : ∀ o, (setObj B o).run P w = .ok () { w with heap := w.heap.setIfInBounds B o } := fun o => by simp [setObj, Sem.run, hb]
  simp only [execOp, hx, hy, Instr.mapUpdate, Sem.run_bind, und T w, Result.andThen_ok, h1, run_checkKey (e := e), run_findKey (e := e) w _ dec _ hq]
  cases hf : findD dec es.toList 0 with
  | none => simp [h2]
  | some r =>
    obtain ⟨i, v⟩ := r
    have hk : ∃ m, es[i]? = some m ∧ m.key = .pointer a := by
      have key : ∀ (l : List MapEntry) (j : Nat), (∀ m ∈ l, dec m.key = true → m.key = .pointer a) → findD dec l j = some (i, v) → ∃ m, j ≤ i ∧ l[i - j]? = some m ∧ m.key = .pointer a := by
        intro l
        induction l with
        | nil => intro j _ h; simp [findD] at h
        | cons m l ih =>
          intro j hm h
          simp only [findD] at h
          cases hd : dec m.key with
          | true =>
            rw [hd] at h
            simp at h
            obtain ⟨rfl, rfl⟩ := h
            exact ⟨m, Nat.le_refl _, by simp, hm m (by simp) hd⟩
          | false =>
            rw [hd] at h
            obtain ⟨m', h1, h2, h3⟩ := ih (j + 1) (fun m hm' => hm m (by simp [hm'])) (by simpa using h)
            refine ⟨m', by omega, ?_, h3⟩
            rw [show i - j = (i - (j + 1)) + 1 by omega]
            simpa using h2
      obtain ⟨m, _, h2, h3⟩ := key es.toList 0 hd hf
      exact ⟨m, by simpa using h2, h3⟩
    obtain ⟨m, hm1, hm2⟩ := hk
    have hsame : Instr.sameBits 10000 (.pointer a) (.pointer a) = true := by simp [Instr.sameBits]
    simp [hm1, hm2, Instr.keyThatStays, hsame, h2]
end
end Go.Proofs.Ytchhjooifjcnkaa.K
