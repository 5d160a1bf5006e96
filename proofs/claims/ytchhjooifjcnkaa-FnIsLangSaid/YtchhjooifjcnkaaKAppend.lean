/-
  make, slice literals and append, on memory that the call owns.
-/
import Derived.Test.YtchhjooifjcnkaaKDraw
namespace Go.Proofs.Ytchhjooifjcnkaa.K
open Go

theorem cells_of_row {h : Array Obj} {B : Nat} {e : TypeId} {fz : Nat × Nat} : ∀ (cs pre post : List Value) (off : Nat), h[B]? = some (.cells (pre ++ cs ++ post).toArray e fz) → off = pre.length → cellsFrom h B off cs
  | [], _, _, _, _, _ => trivial
  | c :: cs, pre, post, off, hb, ho => by
    subst ho
    refine ⟨?_, cells_of_row cs (pre ++ [c]) post (pre.length + 1) (by simpa using hb) (by simp)⟩
    unfold cell
    rw [hb]
    simp
theorem Mem.row {h0 h : Array Obj} {M L : List Blk} (hm : Mem h0 h M L) {B j : Nat} {cs : List Value} {T : TypeId} (hj : L[j]? = some (B, cs, BT.c T)) : cellsFrom h B 0 cs :=
  cells_of_row cs [] [] 0 (by simpa using hm.at_ (B, cs, BT.c T) (by simp [List.mem_of_getElem? hj])) rfl
theorem Mem.rowMut {h0 h : Array Obj} {M L : List Blk} (hm : Mem h0 h M L) {B j : Nat} {cs : List Value} {T : TypeId} (hj : M[j]? = some (B, cs, BT.c T)) : cellsFrom h B 0 cs :=
  cells_of_row cs [] [] 0 (by simpa using hm.at_ (B, cs, BT.c T) (by simp [List.mem_of_getElem? hj])) rfl
theorem Mem.sub {h0 h : Array Obj} {M L L' : List Blk} (hm : Mem h0 h M L) (hs : L'.Sublist L) : Mem h0 h M L' :=
  ⟨hm.size, hm.old, fun p hp => hm.at_ p (by
    rcases List.mem_append.1 hp with hp | hp
    · exact List.mem_append_left _ hp
    · exact List.mem_append_right _ (hs.subset hp)), fun p hp => hm.new p (hs.subset hp), by
    have := hm.nodup
    rw [List.map_append] at *
    exact this.sublist ((List.Sublist.refl _).append (hs.map _))⟩

theorem Mem.perm {h0 h : Array Obj} {M L L' : List Blk} (hm : Mem h0 h M L) (hp : L'.Perm L) : Mem h0 h M L' :=
  ⟨hm.size, hm.old, fun p hq => hm.at_ p (by
    rcases List.mem_append.1 hq with hq | hq
    · exact List.mem_append_left _ hq
    · exact List.mem_append_right _ (hp.mem_iff.1 hq)), fun p hq => hm.new p (hp.mem_iff.1 hq), by
    have := hm.nodup
    rw [List.map_append] at *
    exact (((List.Perm.refl _).append (hp.map _)).nodup_iff).2 this⟩

/-- A slice that the call owns: nothing yet, or the head of a block of its own. -/
def SlSh (sz : Nat) (T : TypeId) (v : Value) (Lv : List Blk) (vals : List Value) : Prop :=
  (v = .slice none 0 0 ∧ Lv = [] ∧ vals = []) ∨
  ∃ B n cap spare, v = .slice (some ⟨B, 0, none⟩) n cap ∧ Lv = [(B, vals ++ spare, BT.c T)] ∧ n * sz = vals.length ∧ cap * sz = vals.length + spare.length ∧ n ≤ cap
theorem SlSh.nil (sz : Nat) (T : TypeId) : SlSh sz T (.slice none 0 0) [] [] := .inl ⟨rfl, rfl, rfl⟩

theorem growBy_le (need : Nat) : ∀ (r c : Nat), 256 ≤ c → c ≤ 2 * need → Builtin.growBy need r c ≤ 2 * need
  | 0, c, _, h => by simpa [Builtin.growBy] using h
  | r + 1, c, h1, h2 => by
    simp only [Builtin.growBy]
    split
    · exact h2
    · exact growBy_le need r _ (by omega) (by omega)
theorem nextslicecap_le (need cap : Nat) (h : cap < need) : Builtin.nextslicecap need cap ≤ 2 * need := by
  unfold Builtin.nextslicecap
  split
  · omega
  · split
    · omega
    · exact growBy_le need 4 cap (by omega) (by omega)

theorem run_storeCellsZ {P : Program} {fz : Nat × Nat} : ∀ (new pre post : List Value) (w : World) (B i : Nat) (e : TypeId), fzok fz (pre ++ post).length → (∀ v ∈ new, v.oneCell' = true) → w.heap[B]? = some (.cells (pre ++ post).toArray e fz) → new.length ≤ post.length → ∀ off, off + i = pre.length →
    ∃ w', (storeCells ⟨B, off, none⟩ new i).run P w = .ok () w' ∧ w'.os = w.os ∧ w'.output = w.output ∧ w'.tape = w.tape ∧ w'.heap.size = w.heap.size ∧ (∀ b, b ≠ B → w'.heap[b]? = w.heap[b]?) ∧ w'.heap[B]? = some (.cells (pre ++ new ++ post.drop new.length).toArray e fz)
  | [], pre, post, w, B, i, e, _, _, hb, _, off, _ => ⟨w, by simp [storeCells], rfl, rfl, rfl, rfl, fun _ _ => rfl, by simpa using hb⟩
  | v :: new, pre, post, w, B, i, e, hz, hv, hb, hl, off, ho => by
    match post, hl with
    | p :: post, hl =>
      have hc : w.cell? ⟨B, off + i, none⟩ = some p := by
        unfold World.cell?
        rw [hb]
        simp [ho]
      have hf : w.frozen? ⟨B, off + i, none⟩ = false := by
        unfold World.frozen?
        rw [hb]
        obtain ⟨lo, hi⟩ := fz
        have := hz (off + i) (by simp; omega)
        simp only [not_and, Nat.not_lt] at this
        simp only [Bool.and_eq_false_iff, decide_eq_false_iff_not]
        by_cases h1 : lo ≤ off + i
        · exact .inr (Nat.not_lt.2 (this h1))
        · exact .inl h1
      have hb1 : (w.setCell ⟨B, off + i, none⟩ v).heap[B]? = some (.cells ((pre ++ [v]) ++ post).toArray e fz) := by
        simp only [World.setCell, Array.getElem?_modify, if_true, hb, Option.map_some]
        simp [ho]
      obtain ⟨w', h1, h2, h3, h4, h5, h6, h7⟩ := run_storeCellsZ (P := P) new (pre ++ [v]) post (w.setCell ⟨B, off + i, none⟩ v) B (i + 1) e (by simpa using hz) (fun u hu => hv u (by simp [hu])) hb1 (by simpa using hl) off (by simp; omega)
      refine ⟨w', ?_, h2, h3, h4, by rw [h5]; simp, fun b hne => ?_, by rw [h7]; simp⟩
      · simp only [storeCells, Sem.run_bind, add_at, run_store _ _ _ _ _ (hv v (by simp)), hc, hf]
        exact h1
      · rw [h6 b hne]
        simp only [World.setCell, Array.getElem?_modify]
        rw [if_neg (by omega)]
theorem run_storeCells {P : Program} (new pre post : List Value) (w : World) (B i : Nat) (e : TypeId) (hv : ∀ v ∈ new, v.oneCell' = true) (hb : w.heap[B]? = some (.cells (pre ++ post).toArray e (0, 0))) (hl : new.length ≤ post.length) (off : Nat) (ho : off + i = pre.length) :
    ∃ w', (storeCells ⟨B, off, none⟩ new i).run P w = .ok () w' ∧ w'.os = w.os ∧ w'.output = w.output ∧ w'.tape = w.tape ∧ w'.heap.size = w.heap.size ∧ (∀ b, b ≠ B → w'.heap[b]? = w.heap[b]?) ∧ w'.heap[B]? = some (.cells (pre ++ new ++ post.drop new.length).toArray e (0, 0)) :=
  run_storeCellsZ new pre post w B i e (fzok0 _) hv hb hl off ho

theorem length_zeroCells (z : Array Value) (n : Nat) : (Builtin.zeroCells z n).size = n * z.size := by simp [Builtin.zeroCells]

/-- append, run: what it hands back and what it leaves. -/
theorem run_append {P : Program} {S X e ty : TypeId} {X' : TypeId} {i : TypeInfo} {z : Value} {sz n cx : Nat} {v : Value} {vals new : List Value} {Lv L1 L2 M Lf : List Blk} {h0 : Array Obj} {Bx ox : Nat} {E : Env} {h : Array Obj}
    [Und P S (.slice e)] [Und P X (.slice X')] [Siz P e sz] [Inf P e i] [Zer P e z] (hz : z.cells.size = sz) (hm : Mem h0 h M Lf) (hL : Lf = L1 ++ (Lv ++ L2)) (sh : SlSh sz e v Lv vals) (hx : cellsFrom h Bx ox new) (hn : new.length = n * sz) (hone : ∀ u ∈ new, u.oneCell' = true)
    (hr : (vals.length + new.length) * (i.bytes + 1) ≤ 2 ^ 46) (hsz : 0 < sz) (w : World) (hw : At E h w) (hpos : 0 < n) :
    ∃ v' w' Lv' h', (Builtin.append_ #[S, X] ty #[v, .slice (some ⟨Bx, ox, none⟩) n cx]).run P w = .ok v' w' ∧ At E h' w' ∧ SlSh sz e v' Lv' (vals ++ new) ∧ Mem h0 h' M (L1 ++ (Lv' ++ L2)) := by
  have hload : ∀ w : World, w.heap = h → (loadCells ⟨Bx, ox, none⟩ (n * sz)).run P w = .ok new.toArray w := fun w hw => by
    subst hw
    have := run_loadCellsFrom (P := P) w Bx ox new 0 #[] (by simpa using hx)
    rw [hn] at this
    simpa [loadCells] using this
  have hlen : new.length ≥ n := by rw [hn]; exact Nat.le_mul_of_pos_right n hsz
  have key : ∀ (q : Option Addr) (sLen sCap : Nat) (old : List Value), v = .slice q sLen sCap → sCap < sLen + n → sLen ≤ vals.length → old = vals → (∀ w : World, w.heap = h → (Builtin.firstCells sz sLen v).run P w = .ok old.toArray w) → sLen * sz = vals.length →
      ∃ v' w' Lv' h', (Builtin.append_ #[S, X] ty #[v, .slice (some ⟨Bx, ox, none⟩) n cx]).run P w = .ok v' w' ∧ At E h' w' ∧ SlSh sz e v' Lv' (vals ++ new) ∧ Mem h0 h' M (L1 ++ (Lv' ++ L2)) := by
    intro q sLen sCap old hv hcap hsl hold hfirst hlen'
    subst hold
    have hb0 : (sLen + n) * i.bytes ≤ 2 ^ 46 := Nat.le_trans (Nat.mul_le_mul (by omega) (by omega)) hr
    have hb1 : ¬ Builtin.nextslicecap (sLen + n) sCap * i.bytes > 2 ^ 48 := by
      have h1 := nextslicecap_le (sLen + n) sCap hcap
      have h2 : Builtin.nextslicecap (sLen + n) sCap * i.bytes ≤ 2 * (sLen + n) * i.bytes := Nat.mul_le_mul_right _ h1
      have h3 : 2 * (sLen + n) * i.bytes = 2 * ((sLen + n) * i.bytes) := by rw [Nat.mul_assoc]
      omega
    have hb2 : ¬ (((sLen + n : Nat) : Int) > IntKind.i64.max ∧ (false = true ∨ i.bytes = 0)) := by
      have h4 : (sLen + n) ≤ (old.length + new.length) * (i.bytes + 1) := Nat.le_trans (by omega) (Nat.le_mul_of_pos_right _ (by omega))
      simp only [IntKind.max, IntKind.signed, IntKind.bits]
      simp
      omega
    let q' : Question := .appendCap (sLen + n) sCap e
    let nc := q'.cut (w.tape w.drawn q')
    have hnc : sLen + n ≤ nc := Nat.le_add_right _ _
    let w1 : World := w.drew
    let cs := old ++ new ++ (Builtin.zeroCells z.cells (nc - (sLen + n))).toList
    have hwh : w.heap = h := hw.1
    refine ⟨.slice (some ⟨h.size, 0, none⟩) (sLen + n) nc, { w1 with heap := w1.heap.push (.cells cs.toArray e (0, 0)) }, [(h.size, cs, BT.c e)], h.push (.cells cs.toArray e (0, 0)), ?_, ⟨by rw [← hwh]; rfl, hw.2.1, hw.2.2.1, hw.2.2.2⟩, .inr ⟨h.size, sLen + n, nc, (Builtin.zeroCells z.cells (nc - (sLen + n))).toList, rfl, rfl, ?_, ?_, hnc⟩, ?_⟩
    · have hneg : ¬ (sLen + n ≤ sCap) := by omega
      have hfc : (Builtin.firstCells sz n (.slice (some ⟨Bx, ox, none⟩) n cx)) = loadCells ⟨Bx, ox, none⟩ (n * sz) := rfl
      subst hv
      simp only [Builtin.append_]
      simp [und S w, und X w, siz e w, Builtin.lenOf, hneg, fun w => inf (P := P) e w, hb1]
      have hb2' : ¬ (9223372036854775807 < ((sLen : Int) + (n : Int)) ∧ i.bytes = 0) := by
        simp only [IntKind.max, IntKind.signed, IntKind.bits] at hb2
        simp at hb2
        omega
      simp only [IntKind.max, IntKind.signed, IntKind.bits] at *
      simp [hb2', Question.forced, hfc]
      have h5 := hfirst w1 hwh
      have h6 := hload w1 hwh
      simp only [w1] at h5 h6
      simp [h5, h6, fun w => zer (P := P) e w, newRow, hwh, cs, nc, q', w1]
      exact congrArg (fun a => w.drew.alloc (Obj.cells a e)) (Array.ext' (by simp))
    · simp [Nat.add_mul, hn]; omega
    · simp only [List.length_append, Array.length_toList, length_zeroCells, hz]
      rw [hn, ← hlen', Nat.sub_mul, Nat.add_mul]
      have := Nat.mul_le_mul_right sz hnc
      rw [Nat.add_mul] at this
      omega
    · have h7 := hm.push cs e
      have h8 : Mem h0 _ M ((h.size, cs, BT.c e) :: (L1 ++ L2)) := h7.sub (by rw [hL]; exact List.Sublist.cons_cons _ ((List.Sublist.refl _).append (List.sublist_append_right _ _)))
      exact h8.perm List.perm_middle
  rcases sh with ⟨rfl, rfl, rfl⟩ | ⟨B, sLen, cap, spare, rfl, rfl, hlen', hcap', hle⟩
  · exact key none 0 0 [] rfl (by omega) (Nat.le_refl _) rfl (fun w _ => by simp [Builtin.firstCells]) (by simp)
  · by_cases hroom : sLen + n ≤ cap
    · have hmem : (B, vals ++ spare, BT.c e) ∈ Lf := by rw [hL]; simp
      have hb := hm.at_ _ (List.mem_append_right M hmem)
      have hsp : new.length ≤ spare.length := by
        have := Nat.mul_le_mul_right sz hroom
        rw [Nat.add_mul] at this
        omega
      obtain ⟨w', h1, h2, h3, h4, h5, h6, h7⟩ := run_storeCells (P := P) new vals spare w B 0 e hone (by rw [hw.1]; exact hb) hsp (sLen * sz) (by rw [hlen']; rfl)
      refine ⟨.slice (some ⟨B, 0, none⟩) (sLen + n) cap, w', [(B, (vals ++ new) ++ spare.drop new.length, BT.c e)], w'.heap, ?_, ⟨rfl, by rw [h2]; exact hw.2.1, by rw [h3]; exact hw.2.2.1, by rw [h4]; exact hw.2.2.2⟩, .inr ⟨B, sLen + n, cap, spare.drop new.length, rfl, rfl, by simp [Nat.add_mul, hn]; omega, by simp; omega, hroom⟩, ?_⟩
      · have hfc : (Builtin.firstCells sz n (.slice (some ⟨Bx, ox, none⟩) n cx)) = loadCells ⟨Bx, ox, none⟩ (n * sz) := rfl
        have h8 := hload w hw.1
        simp only [Builtin.append_]
        simp [und S w, und X w, siz e w, Builtin.lenOf, hroom, hfc, h8, add_at, h1]
      · have hml : (M ++ Lf)[(M ++ L1).length]? = some (B, vals ++ spare, BT.c e) := by
          rw [hL]
          simp
        refine hm.put (j := (M ++ L1).length) (cs' := (vals ++ new) ++ spare.drop new.length) hml (by rw [h5, hw.1]) (fun b hb' => by rw [h6 b hb', hw.1]) (by rw [h7]) ?_ rfl
        rw [hL, ← List.append_assoc M L1, List.set_append_right _ _ (Nat.le_refl _)]
        simp
    · refine key (some ⟨B, 0, none⟩) sLen cap vals rfl (by omega) ?_ rfl (fun w hw' => ?_) hlen'
      · rw [← hlen']; exact Nat.le_mul_of_pos_right _ hsz
      · have hmem : (B, vals ++ spare, BT.c e) ∈ Lf := by rw [hL]; simp
        have hc := cells_of_row vals [] spare 0 (by simpa using hm.at_ _ (List.mem_append_right M hmem)) rfl
        subst hw'
        have := run_loadCellsFrom (P := P) w B 0 vals 0 #[] (by simpa using hc)
        simpa [Builtin.firstCells, loadCells, hlen'] using this

section
variable {P : Program} {E : Env} {ops : List Oper} {K : List Value → Array Obj → Prop} {rest : List Oper} {ρ ρ' : List Value} {o : Oper} {h0 h h' : Array Obj} {M L M' L' L1 L2 Lv Lf : List Blk} {v u : Value} {d : Option Tmp} {T ty S X X' e : TypeId} {p : String} {af : Array Edge} {g : Option (Nat × Bool)} {x y z : Operand} {cs vals new : List Value} {i : TypeInfo} {zv : Value} {sz n cx Bx ox : Nat}

theorem lw_append [Und P S (.slice e)] [Und P X (.slice X')] [Siz P e sz] [Inf P e i] [Zer P e zv] (hw : Wan ops ρ ⟨d, .call ⟨.builtin .append, #[x, y], #[S, X]⟩, ty, p, af, g⟩) (hx : ev ρ x = v) (hy : ev ρ y = .slice (some ⟨Bx, ox, none⟩) n cx) (hz : zv.cells.size = sz) (hm : Mem h0 h M Lf) (hL : Lf = L1 ++ (Lv ++ L2)) (sh : SlSh sz e v Lv vals)
    (hc : cellsFrom h Bx ox new) (hn : new.length = n * sz) (hone : ∀ u ∈ new, u.oneCell' = true) (hr : (vals.length + new.length) * (i.bytes + 1) ≤ 2 ^ 46) (hsz : 0 < sz) (hpos : 0 < n)
    (hk : ∀ v' Lv' h', SlSh sz e v' Lv' (vals ++ new) → Mem h0 h' M (L1 ++ (Lv' ++ L2)) → LW P E ops K rest (setD ρ d v') h') : LW P E ops K (⟨d, .call ⟨.builtin .append, #[x, y], #[S, X]⟩, ty, p, af, g⟩ :: rest) ρ h := by
  refine ⟨fun w hA => ?_⟩
  obtain ⟨v', w', Lv', h', hrun, hA', hsh, hm'⟩ := run_append (P := P) (ty := ty) hz hm hL sh hc hn hone hr hsz w hA hpos (S := S) (X := X) (cx := cx)
  have := (hk v' Lv' h' hsh hm').out w' hA'
  unfold wpList
  rw [if_pos hw.out]
  refine .inl ?_
  unfold Oper.wp
  rw [eval_mk]
  have hrun' : (execOp (ev ρ) ⟨d, .call ⟨.builtin .append, #[x, y], #[S, X]⟩, ty, p, af, g⟩).run P w = .ok (.value v') w' := by
    simp [execOp, resolve, hx, hy, invoke, builtin, hrun]
  rw [hrun', Oper.upon_value, put_mk]
  exact this

theorem foldl_set (f : Array Value → Value × Nat → Array Value) (hf : ∀ cs c j, f cs (c, j) = cs.setIfInBounds j c) : ∀ (l pre post : List Value), post.length = l.length → ((l.zipIdx pre.length).foldl f (pre ++ post).toArray) = (pre ++ l).toArray
  | [], pre, post, h => by
    have : post = [] := by simpa using h
    simp [this]
  | c :: l, pre, post, h => by
    match post, h with
    | q :: post, h =>
      simp only [List.zipIdx_cons, List.foldl_cons, hf]
      have h1 : (pre ++ q :: post).toArray.setIfInBounds pre.length c = ((pre ++ [c]) ++ post).toArray := by simp
      rw [h1]
      have h2 := foldl_set f hf l (pre ++ [c]) post (by simpa using h)
      simp only [List.length_append, List.length_cons, List.length_nil, Nat.zero_add] at h2
      rw [h2]
      simp
/-- A slice literal of one element. -/
theorem ex_buildSlice1 [Und P T (.slice e)] [Siz P e sz] [Zer P e zv] (hz : zv.cells.size = sz) (hx : ev ρ x = u) (hc : u.cells = cs.toArray) (hn : cs.length = sz) (hs : sz ≤ 2 ^ 24) (hsz : 0 < sz) : Ex P ρ ⟨d, .buildSlice T 1 #[(0, x)], ty, p, af, g⟩ h (.slice (some ⟨h.size, 0, none⟩) 1 1) (h.push (.cells cs.toArray e (0, 0))) := ⟨fun E w hw => by
  have hfill : Instr.fill (fun i => some (i * sz, sz)) ((Array.range (1 * sz)).map (zv.cells[· % zv.cells.size]!)) [(0, u)] = some cs.toArray := by
    simp only [Instr.fill, hc]
    rw [if_neg (by simp [hn])]
    refine congrArg some ?_
    have h3 := foldl_set (fun cs x => cs.setIfInBounds (0 * sz + x.2) x.1) (fun cs c j => by simp) cs [] ((Array.range (1 * sz)).map (zv.cells[· % zv.cells.size]!)).toList (by simp [hn])
    simp only [List.length_nil, List.nil_append, Array.toArray_toList] at h3
    refine Eq.trans ?_ h3
    generalize ((Array.range (1 * sz)).map (zv.cells[· % zv.cells.size]!)) = zz
    rw [← Array.foldl_toList, Array.toList_zipIdx]
  refine ⟨_, _, by
    simp only [execOp, Instr.buildSlice]
    have h4 : ¬ (1 * sz > 2 ^ 24) := by omega
    have h5 : ¬ (1 * sz = 0) := by omega
    simp only [Sem.run_bind, und T w, siz e w, Result.andThen_ok, h4, if_false, h5, zer e w, Sem.run_pure, List.map_toArray, List.map_cons, List.map_nil, hx, hfill, newRow, run_newObj]
    rfl, hw.push, .inl ?_⟩
  rw [hw.1]⟩
theorem lw_buildSlice1 [Und P T (.slice e)] [Siz P e sz] [Zer P e zv] (hw : Wan ops ρ ⟨d, .buildSlice T 1 #[(0, x)], ty, p, af, g⟩) (hz : zv.cells.size = sz) (hx : ev ρ x = u) (hc : u.cells = cs.toArray) (hn : cs.length = sz) (hs : sz ≤ 2 ^ 24) (hsz : 0 < sz) (hm : Mem h0 h M L)
    (hk : ∀ B h, Mem h0 h M ((B, cs, BT.c e) :: L) → LW P E ops K rest (setD ρ d (.slice (some ⟨B, 0, none⟩) 1 1)) h) : LW P E ops K (⟨d, .buildSlice T 1 #[(0, x)], ty, p, af, g⟩ :: rest) ρ h :=
  lw_ex hw (ex_buildSlice1 hz hx hc hn hs hsz) rfl (hk _ _ (hm.push cs e))
end
end Go.Proofs.Ytchhjooifjcnkaa.K
