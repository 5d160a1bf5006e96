/-
  Slices: what they read as (rows of cells), and slices that the call owns and appends to.
-/
import Derived.Test.YtchhjooifjcnkaaKRead
import Derived.Laws.StructEq
namespace Go.Proofs.Ytchhjooifjcnkaa.K
open Go

/-- The rows that lie behind a slice's address. -/
def SlR (h : Array Obj) (sz : Nat) (q : Option Addr) (rows : List (List Value)) : Prop :=
  ∀ i r, rows[i]? = some r → q = some ⟨blk q, offs q, none⟩ ∧ cellsFrom h (blk q) (offs q + i * sz) r
theorem cell_lt {h : Array Obj} {a : Addr} {v : Value} (hc : cell h a = some v) : a.block < h.size := by
  unfold cell at hc
  cases hb : h[a.block]? with
  | none => rw [hb] at hc; cases hc
  | some o => exact (Array.getElem?_eq_some_iff.1 hb).1
theorem Ext.cell {h h' : Array Obj} (he : Ext h h') {a : Addr} {v : Value} (hc : cell h a = some v) : K.cell h' a = some v := by
  have h1 := he.2 a.block (cell_lt hc)
  unfold K.cell at hc ⊢
  rw [h1]
  exact hc
theorem Ext.cells {h h' : Array Obj} (he : Ext h h') {B : Nat} : ∀ {cs : List Value} {off : Nat}, cellsFrom h B off cs → cellsFrom h' B off cs
  | [], _, _ => trivial
  | _ :: _, _, ⟨h1, h2⟩ => ⟨he.cell h1, Ext.cells he h2⟩
theorem SlR.ext {h h' : Array Obj} {sz : Nat} {q : Option Addr} {rows : List (List Value)} (hr : SlR h sz q rows) (he : Ext h h') : SlR h' sz q rows :=
  fun i r hi => ⟨(hr i r hi).1, he.cells (hr i r hi).2⟩
theorem SlR.nil (h : Array Obj) (sz : Nat) (q : Option Addr) : SlR h sz q [] := fun i r hi => by simp at hi
theorem SlR.take {h : Array Obj} {sz : Nat} {q : Option Addr} {rows : List (List Value)} (hr : SlR h sz q rows) (n : Nat) : SlR h sz q (rows.take n) :=
  fun i r hi => hr i r (by
    rw [List.getElem?_take] at hi
    split at hi
    · exact hi
    · cases hi)
theorem cells_append {h : Array Obj} {B : Nat} : ∀ {xs ys : List Value} {off : Nat}, cellsFrom h B off xs → cellsFrom h B (off + xs.length) ys → cellsFrom h B off (xs ++ ys)
  | [], _, _, _, h2 => by simpa using h2
  | x :: xs, ys, off, h1, h2 => ⟨h1.1, cells_append h1.2 (by rw [List.length_cons] at h2; rw [Nat.add_right_comm]; exact h2)⟩
theorem SlR.all {h : Array Obj} {sz : Nat} {q : Option Addr} : ∀ {rows : List (List Value)} {off : Nat}, (∀ r ∈ rows, r.length = sz) → (∀ i r, rows[i]? = some r → cellsFrom h (blk q) (off + i * sz) r) → cellsFrom h (blk q) off rows.flatten
  | [], _, _, _ => trivial
  | r :: rows, off, hl, hr => by
    have hlr := hl r (by simp)
    refine cells_append (by simpa using hr 0 r (by simp)) (SlR.all (fun r hr => hl r (by simp [hr])) fun i s hs => ?_)
    have := hr (i + 1) s (by simpa using hs)
    rw [hlr, show off + sz + i * sz = off + (i + 1) * sz by rw [Nat.add_mul]; omega]
    exact this
theorem SlR.flat {h : Array Obj} {sz : Nat} {q : Option Addr} {rows : List (List Value)} (hr : SlR h sz q rows) (hl : ∀ r ∈ rows, r.length = sz) : cellsFrom h (blk q) (offs q) rows.flatten :=
  SlR.all hl fun i r hi => (hr i r hi).2
theorem SlR.known {h : Array Obj} {sz : Nat} {q : Option Addr} {rows : List (List Value)} (hr : SlR h sz q rows) (hn : 0 < rows.length) : q = some ⟨blk q, offs q, none⟩ := (hr 0 rows[0] (by simp)).1
/-- The same for values of a type that is written as rows. -/
theorem SlR.at {α : Type} {f : α → List Value} {h : Array Obj} {sz : Nat} {q : Option Addr} {as : List α} (hr : SlR h sz q (as.map f)) {i : Nat} (hi : i < as.length) :
    ∃ a, as[i]? = some a ∧ q = some ⟨blk q, offs q, none⟩ ∧ cellsFrom h (blk q) (offs q + i * sz) (f a) := by
  refine ⟨as[i], List.getElem?_eq_getElem hi, ?_⟩
  exact hr i (f as[i]) (by rw [List.getElem?_map, List.getElem?_eq_getElem hi]; rfl)

/-- A slice that the call owns, its rows. -/
structure SlO (sz : Nat) (T : TypeId) (q : Option Addr) (n cp : Nat) (Lv : List Blk) (rows : List (List Value)) : Prop where
  sh : SlSh sz T (.slice q n cp) Lv rows.flatten
  len : n = rows.length
  row : ∀ r ∈ rows, r.length = sz
theorem SlO.nil (sz : Nat) (T : TypeId) : SlO sz T none 0 0 [] [] := ⟨SlSh.nil sz T, rfl, by simp⟩
theorem SlO.le {sz : Nat} {T : TypeId} {q : Option Addr} {n cp : Nat} {Lv : List Blk} {rows : List (List Value)} (hs : SlO sz T q n cp Lv rows) : n ≤ cp := by
  rcases hs.sh with ⟨he, _, _⟩ | ⟨_, _, _, _, he, _, _, _, h⟩
  · cases he; exact Nat.le_refl _
  · cases he; exact h
theorem flat_len {sz : Nat} : ∀ {rows : List (List Value)}, (∀ r ∈ rows, r.length = sz) → rows.flatten.length = rows.length * sz
  | [], _ => by simp
  | r :: rows, h => by
    rw [List.flatten_cons, List.length_append, h r (by simp), flat_len (fun r hr => h r (by simp [hr])), List.length_cons, Nat.add_mul]
    omega
theorem flat_split {sz : Nat} : ∀ {rows : List (List Value)} {i : Nat} {r : List Value}, (∀ r ∈ rows, r.length = sz) → rows[i]? = some r → ∃ pre post, rows.flatten = pre ++ r ++ post ∧ pre.length = i * sz
  | [], i, r, _, h => by simp at h
  | x :: rows, 0, r, hl, h => by
    simp at h
    subst h
    exact ⟨[], rows.flatten, by simp, by simp⟩
  | x :: rows, i + 1, r, hl, h => by
    obtain ⟨pre, post, h1, h2⟩ := flat_split (rows := rows) (i := i) (fun r hr => hl r (by simp [hr])) (by simpa using h)
    exact ⟨x ++ pre, post, by simp [h1], by simp [h2, hl x (by simp), Nat.add_mul]; omega⟩
theorem SlO.rd {h0 h : Array Obj} {M L Lv : List Blk} {sz n cp : Nat} {T : TypeId} {q : Option Addr} {rows : List (List Value)} (hs : SlO sz T q n cp Lv rows) (hm : Mem h0 h M L) (hsub : ∀ p ∈ Lv, p ∈ M ++ L) : SlR h sz q rows := by
  intro i r hi
  obtain ⟨pre, post, h1, h2⟩ := flat_split hs.row hi
  rcases hs.sh with ⟨he, _, hv⟩ | ⟨B, n', cap, spare, he, hL, hn, hc, hle⟩
  · have hn : n = 0 := by cases he; rfl
    have hl := hs.len
    have := (List.getElem?_eq_some_iff.1 hi).1
    omega
  · cases he
    refine ⟨rfl, ?_⟩
    have hb := hm.at_ _ (hsub (B, rows.flatten ++ spare, BT.c T) (by rw [hL]; simp))
    rw [h1] at hb
    exact cells_of_row r pre (post ++ spare) _ (by show h[B]? = _; simpa using hb) (by simp [offs, h2])

/-- Blocks that a callee makes, behind those that are known. -/
theorem Mem.join {h0 h h' : Array Obj} {M L L' : List Blk} (hm : Mem h0 h M L) (hc : Mem h h' [] L') : Mem h0 h' M (L ++ L') := by
  have he := hc.ext
  refine ⟨Nat.le_trans hm.size he.1, fun b hb hM => (he.2 b (Nat.lt_of_lt_of_le hb hm.size)).trans (hm.old b hb hM), fun p hp => ?_, fun p hp => ?_, ?_⟩
  · rw [← List.append_assoc] at hp
    rcases List.mem_append.1 hp with hp | hp
    · exact (he.2 _ (hm.lt hp)).trans (hm.at_ p hp)
    · exact hc.at_ p (by simpa using hp)
  · rcases List.mem_append.1 hp with hp | hp
    · exact hm.new p hp
    · exact Nat.le_trans hm.size (hc.new p hp)
  · rw [← List.append_assoc, List.map_append, List.nodup_append]
    refine ⟨hm.nodup, by simpa using hc.nodup, fun a ha b hb hab => ?_⟩
    obtain ⟨p, hp, rfl⟩ := List.mem_map.1 ha
    obtain ⟨r, hr, rfl⟩ := List.mem_map.1 hb
    have h1 := hm.lt hp
    have h2 := hc.new r hr
    omega
theorem Mem.tl {h0 h : Array Obj} {M L : List Blk} {x : Blk} (hm : Mem h0 h M (x :: L)) : Mem h0 h M L := hm.sub (List.sublist_cons_self _ _)
theorem Mem.trans0 {h0 h h' : Array Obj} {L : List Blk} (he : Ext h0 h) (hc : Mem h h' [] L) : Mem h0 h' [] L := by
  simpa using (Mem.of_ext he).join hc

section
variable {P : Program} {E : Env} {ops : List Oper} {K : List Value → Array Obj → Prop} {rest : List Oper} {ρ ρ' : List Value} {o : Oper} {h0 h h' : Array Obj} {M L M' L' L1 L2 Lv Lf : List Blk} {v u : Value} {d : Option Tmp} {T ty S X e : TypeId} {p : String} {af : Array Edge} {g : Option (Nat × Bool)} {x y z : Operand} {cs vals new : List Value} {i : TypeInfo} {zv : Value} {sz n m cp Bx ox : Nat} {q : Option Addr} {k : IntKind} {rows : List (List Value)}

theorem pu_indexAddrQ [Und P T (.slice e)] [Siz P e sz] {len : Nat} (hx : ev ρ x = .slice q len cp) (hy : ev ρ y = .int k (n : Int)) (hn : n < len) (hq : q = some ⟨blk q, offs q, none⟩) : Pu P ρ ⟨d, .indexAddr T x y, ty, p, af, g⟩ h (.pointer (some ⟨blk q, offs q + n * sz, none⟩)) :=
  pu_indexAddr (by rw [hx, ← hq]) hy hn
theorem pu_slicesl_hi [Und P T (.slice e)] [Siz P e sz] (hx : ev ρ x = .slice q n cp) (hy : ev ρ y = .int k (m : Int)) (hm : m ≤ cp) (hq : q = some ⟨blk q, offs q, none⟩) : Pu P ρ ⟨d, .slice T x none (some y) none, ty, p, af, g⟩ h (.slice q m cp) := ⟨fun w _ => by
  obtain ⟨a, ha⟩ : ∃ a, q = some a := ⟨_, hq⟩
  subst ha
  have ha : a.add 0 = a := by simp [Addr.add]
  simp [execOp, hx, hy, Instr.sliceAt, Instr.slice, und T w, siz e w, Instr.sliceBounds, Instr.sliceBound, asIntOf, hm, ha]⟩
theorem lw_calo {gg : FuncId} {xs : List Operand} {ta : Array TypeId} {Q : Value → List Blk → Prop} [Cal P gg] (hw : Wan ops ρ ⟨d, .call ⟨.value (.func gg), xs.toArray, ta⟩, ty, p, af, g⟩) (hc : Ret P gg (xs.map (ev ρ)) h fun v' h' => ∃ L', Q v' L' ∧ Mem h h' [] L') (hm : Mem h0 h M L)
    (hk : ∀ v h L', Q v L' → Mem h0 h M (L ++ L') → LW P E ops K rest (setD ρ d v) h) : LW P E ops K (⟨d, .call ⟨.value (.func gg), xs.toArray, ta⟩, ty, p, af, g⟩ :: rest) ρ h :=
  lw_cal hw hc fun _ _ ⟨_, hq, hh⟩ => hk _ _ _ hq (hm.join hh)

/-- append of one row to a slice that the call owns. -/
theorem lw_append1 {X' : TypeId} [Und P S (.slice e)] [Und P X (.slice X')] [Siz P e sz] [Inf P e i] [Zer P e zv] (hw : Wan ops ρ ⟨d, .call ⟨.builtin .append, #[x, y], #[S, X]⟩, ty, p, af, g⟩) (hx : ev ρ x = .slice q n cp) (hy : ev ρ y = .slice (some ⟨Bx, ox, none⟩) 1 1) (hz : zv.cells.size = sz) (hm : Mem h0 h M Lf) (hs : SlO sz e q n cp Lv rows) (hL : Lf = L1 ++ (Lv ++ L2))
    (hc : cellsFrom h Bx ox new) (hn : new.length = sz) (hone : ∀ u ∈ new, u.oneCell' = true) (hsz : 0 < sz) (hb : i.bytes ≤ 300) (hr : (n + 1) * sz ≤ 2 ^ 36)
    (hk : ∀ q' cp' Lv' h', SlO sz e q' (n + 1) cp' Lv' (rows ++ [new]) → Mem h0 h' M (L1 ++ (Lv' ++ L2)) → LW P E ops K rest (setD ρ d (.slice q' (n + 1) cp')) h') : LW P E ops K (⟨d, .call ⟨.builtin .append, #[x, y], #[S, X]⟩, ty, p, af, g⟩ :: rest) ρ h := by
  have hfl := flat_len hs.row
  have hln := hs.len
  refine lw_append hw hx hy hz hm hL hs.sh hc (by rw [hn]; simp) hone ?_ hsz Nat.one_pos fun v' Lv' h' hsh hm' => ?_
  · rw [hfl, hn, ← hln]
    have h1 : n * sz + sz = (n + 1) * sz := by rw [Nat.add_mul]; omega
    rw [h1]
    have h2 : (n + 1) * sz * (i.bytes + 1) ≤ 2 ^ 36 * 301 := Nat.mul_le_mul hr (by omega)
    omega
  · have hv : ∃ q' cp', v' = .slice q' (n + 1) cp' := by
      rcases hsh with ⟨rfl, _, h1⟩ | ⟨B, n', cap, spare, rfl, _, h1, _, _⟩
      · have := congrArg List.length h1
        simp [hn] at this
        omega
      · have h2 : n' * sz = (n + 1) * sz := by rw [h1, List.length_append, hfl, hn, ← hln, Nat.add_mul]; omega
        have := Nat.eq_of_mul_eq_mul_right hsz h2
        exact ⟨_, _, by rw [this]⟩
    obtain ⟨q', cp', rfl⟩ := hv
    exact hk q' cp' Lv' h' ⟨by simpa using hsh, by simp [hln], fun r hr => by
      rcases List.mem_append.1 hr with hr | hr
      · exact hs.row r hr
      · rw [List.mem_singleton.1 hr]; exact hn⟩ hm'
theorem lw_append1t {X' : TypeId} [Und P S (.slice e)] [Und P X (.slice X')] [Siz P e sz] [Inf P e i] [Zer P e zv] (hw : Wan ops ρ ⟨d, .call ⟨.builtin .append, #[x, y], #[S, X]⟩, ty, p, af, g⟩) (hx : ev ρ x = .slice q n cp) (hy : ev ρ y = .slice (some ⟨Bx, ox, none⟩) 1 1) (hz : zv.cells.size = sz) (hm : Mem h0 h M Lf) (hs : SlO sz e q n cp Lv rows) (hL : Lf = L1 ++ Lv)
    (hc : cellsFrom h Bx ox new) (hn : new.length = sz) (hone : ∀ u ∈ new, u.oneCell' = true) (hsz : 0 < sz) (hb : i.bytes ≤ 300) (hr : (n + 1) * sz ≤ 2 ^ 36)
    (hk : ∀ q' cp' Lv' h', SlO sz e q' (n + 1) cp' Lv' (rows ++ [new]) → Mem h0 h' M (L1 ++ Lv') → LW P E ops K rest (setD ρ d (.slice q' (n + 1) cp')) h') : LW P E ops K (⟨d, .call ⟨.builtin .append, #[x, y], #[S, X]⟩, ty, p, af, g⟩ :: rest) ρ h :=
  lw_append1 (L1 := L1) (L2 := []) hw hx hy hz hm hs (by rw [hL]; simp) hc hn hone hsz hb hr fun q' cp' Lv' h' h1 h2 => hk q' cp' Lv' h' h1 (by simpa using h2)
/-- append of rows that lie somewhere, none may be there. -/
theorem lw_appendR {X' : TypeId} [Und P S (.slice e)] [Und P X (.slice X')] [Siz P e sz] [Inf P e i] [Zer P e zv] {qx : Option Addr} {nx cx : Nat} {news : List (List Value)} (hw : Wan ops ρ ⟨d, .call ⟨.builtin .append, #[x, y], #[S, X]⟩, ty, p, af, g⟩) (hx : ev ρ x = .slice q n cp) (hy : ev ρ y = .slice qx nx cx) (hz : zv.cells.size = sz) (hm : Mem h0 h M Lf) (hs : SlO sz e q n cp Lv rows) (hL : Lf = L1 ++ Lv)
    (hrd : cellsFrom h (blk qx) (offs qx) news.flatten) (hq : 0 < nx → qx = some ⟨blk qx, offs qx, none⟩) (hnx : nx = news.length) (hn : ∀ r ∈ news, r.length = sz) (hone : ∀ r ∈ news, ∀ u ∈ r, u.oneCell' = true) (hsz : 0 < sz) (hb : i.bytes ≤ 300) (hr : (n + nx) * sz ≤ 2 ^ 36)
    (hk : ∀ q' cp' Lv' h', SlO sz e q' (n + nx) cp' Lv' (rows ++ news) → Mem h0 h' M (L1 ++ Lv') → LW P E ops K rest (setD ρ d (.slice q' (n + nx) cp')) h') : LW P E ops K (⟨d, .call ⟨.builtin .append, #[x, y], #[S, X]⟩, ty, p, af, g⟩ :: rest) ρ h := by
  have hfl := flat_len hs.row
  have hln := hs.len
  have hfn := flat_len hn
  rcases Nat.eq_zero_or_pos nx with h0 | hpos
  · have hnil : news = [] := List.eq_nil_of_length_eq_zero (by omega)
    subst hnil
    have hle : n ≤ cp := by
      rcases hs.sh with ⟨he, _, _⟩ | ⟨_, _, _, _, he, _, _, _, h⟩
      · cases he; exact Nat.le_refl _
      · cases he; exact h
    refine ⟨fun w hA => ?_⟩
    have hfc : (Builtin.firstCells sz 0 (.slice qx 0 cx)).run P w = .ok #[] w := by
      cases qx <;> simp [Builtin.firstCells, loadCells, loadCellsFrom]
    have hrun : (Builtin.append_ #[S, X] ty #[.slice q n cp, .slice qx 0 cx]).run P w = .ok (.slice q n cp) w := by
      simp only [Builtin.append_]
      cases q <;> simp [und S w, und X w, siz e w, Builtin.lenOf, hle, hfc, storeCells]
    have := (hk q cp Lv h (by simpa [h0] using hs) (by rw [← hL]; exact hm)).out w hA
    unfold wpList
    rw [if_pos hw.out]
    refine .inl ?_
    unfold Oper.wp
    rw [eval_mk]
    have hrun' : (execOp (ev ρ) ⟨d, .call ⟨.builtin .append, #[x, y], #[S, X]⟩, ty, p, af, g⟩).run P w = .ok (.value (.slice q n cp)) w := by
      simp [execOp, resolve, hx, hy, h0, invoke, builtin, hrun]
    rw [hrun', Oper.upon_value, put_mk]
    simpa [h0] using this
  · refine lw_append (L1 := L1) (Lv := Lv) (L2 := []) hw hx (by rw [hy, ← hq hpos]) hz hm (by rw [hL]; simp) hs.sh hrd (by rw [hfn, hnx]) (fun u hu => by
      obtain ⟨r, hr1, hr2⟩ := List.mem_flatten.1 hu
      exact hone r hr1 u hr2) ?_ hsz hpos fun v' Lv' h' hsh hm' => ?_
    · rw [hfl, hfn, ← hln, ← hnx, ← Nat.add_mul]
      have h2 : (n + nx) * sz * (i.bytes + 1) ≤ 2 ^ 36 * 301 := Nat.mul_le_mul hr (by omega)
      omega
    · have hv : ∃ q' cp', v' = .slice q' (n + nx) cp' := by
        rcases hsh with ⟨rfl, _, h1⟩ | ⟨B, n', cap, spare, rfl, _, h1, _, _⟩
        · have := congrArg List.length h1
          have h3 : 0 < nx * sz := Nat.mul_pos hpos hsz
          simp [hfn, ← hnx] at this
          omega
        · have h2 : n' * sz = (n + nx) * sz := by rw [h1, List.length_append, hfl, hfn, ← hln, ← hnx, Nat.add_mul]
          have := Nat.eq_of_mul_eq_mul_right hsz h2
          exact ⟨_, _, by rw [this]⟩
      obtain ⟨q', cp', rfl⟩ := hv
      exact hk q' cp' Lv' h' ⟨by simpa using hsh, by simp [hln, hnx], fun r hr => by
        rcases List.mem_append.1 hr with hr | hr
        · exact hs.row r hr
        · exact hn r hr⟩ (by simpa using hm')
/-- A slice literal of no element. -/
theorem ex_buildSlice0 [Und P T (.slice e)] [Siz P e sz] : Ex P ρ ⟨d, .buildSlice T 0 #[], ty, p, af, g⟩ h (.slice (some ⟨h.size, 0, none⟩) 0 0) (h.push (.cells #[] e (0, 0))) := ⟨fun E w hw => by
  refine ⟨_, _, by
    simp [execOp, Instr.buildSlice, und T w, siz e w, Instr.fill, newRow]
    exact ⟨rfl, congrArg (fun a => w.alloc (Obj.cells a e)) (Array.ext' (by simp))⟩, hw.push, .inl ?_⟩
  rw [hw.1]⟩
theorem lw_buildSlice0 [Und P T (.slice e)] [Siz P e sz] (hw : Wan ops ρ ⟨d, .buildSlice T 0 #[], ty, p, af, g⟩) (hm : Mem h0 h M L)
    (hk : ∀ q Lv h, SlO sz e q 0 0 Lv [] → Mem h0 h M (L ++ Lv) → LW P E ops K rest (setD ρ d (.slice q 0 0)) h) : LW P E ops K (⟨d, .buildSlice T 0 #[], ty, p, af, g⟩ :: rest) ρ h :=
  lw_ex hw ex_buildSlice0 rfl (hk _ [(h.size, [], BT.c e)] _ ⟨.inr ⟨h.size, 0, 0, [], rfl, rfl, by simp, by simp, Nat.le_refl _⟩, rfl, by simp⟩ ((hm.push [] e).perm (List.perm_append_comm (l₁ := L) (l₂ := [(h.size, [], BT.c e)]))))
theorem pu_field {fi ft fo : Nat} [F : Fld P T fi ft fo] [Agg P ft false] (hx : ev ρ x = .agg cs.toArray) (hv : cs[fo]? = some v) : Pu P ρ ⟨d, .field T x fi, ty, p, af, g⟩ h v := ⟨fun w _ => by
  obtain ⟨fs, f, hu, hf, rfl, rfl⟩ := F.out
  simp [execOp, hx, Instr.field, run_underlying hu, hf, asAgg, part, agg f.type w, hv]⟩
theorem flat_set {sz : Nat} : ∀ {rows : List (List Value)} {i o : Nat} {r : List Value} {v : Value}, (∀ r ∈ rows, r.length = sz) → rows[i]? = some r → o < sz → rows.flatten.set (i * sz + o) v = (rows.set i (r.set o v)).flatten
  | [], i, o, r, v, _, h, _ => by simp at h
  | x :: rows, 0, o, r, v, hl, h, ho => by
    simp at h
    subst h
    have := hl x (by simp)
    simp [this, ho]
  | x :: rows, i + 1, o, r, v, hl, h, ho => by
    have h1 := flat_set (rows := rows) (i := i) (o := o) (r := r) (v := v) (fun r hr => hl r (by simp [hr])) (by simpa using h) ho
    have h2 := hl x (by simp)
    have h3 : (i + 1) * sz + o = x.length + (i * sz + o) := by rw [h2, Nat.add_mul]; omega
    simp only [List.flatten_cons, List.set_cons_succ]
    rw [h3, List.set_append_right _ _ (by omega), ← h1]
    congr 2
    omega
/-- A store into a row of a slice that the call owns. -/
theorem lw_store_row [Siz P T 1] {i o : Nat} {r : List Value} (hw : Wan ops ρ ⟨d, .store T x y, ty, p, af, g⟩) (hx : ev ρ x = .pointer (some ⟨blk q, offs q + i * sz + o, none⟩)) (hy : ev ρ y = v) (hv : v.oneCell' = true) (hm : Mem h0 h M Lf) (hs : SlO sz e q n cp Lv rows) (hL : Lf = L1 ++ Lv)
    (hi : rows[i]? = some r) (ho : o < sz) (hk : ∀ Lv' h, SlO sz e q n cp Lv' (rows.set i (r.set o v)) → Mem h0 h M (L1 ++ Lv') → LW P E ops K rest (setD ρ d undef) h) : LW P E ops K (⟨d, .store T x y, ty, p, af, g⟩ :: rest) ρ h := by
  have hrow := hs.row
  have hin := (List.getElem?_eq_some_iff.1 hi).1
  have hlen := hs.len
  have hfl := flat_len hs.row
  rcases hs.sh with ⟨he, _, hv⟩ | ⟨B, n', cap, spare, he, hLv, hn, hc, hle⟩
  · have hn : n = 0 := by cases he; rfl
    omega
  · cases he
    subst hLv
    have hlt : i * sz + o < rows.flatten.length := by
      rw [hfl]
      have := Nat.mul_le_mul_right sz hin
      rw [Nat.succ_mul] at this
      omega
    refine lw_store_own (j := L1.length) (B := B) (off := i * sz + o) (cs := rows.flatten ++ spare) (e := e) hw (by rw [hx]; simp [blk, offs]) hy hv hm (by rw [hL]; simp) (by rw [List.length_append]; omega) rfl rfl fun h hm' => ?_
    have h1 : (rows.flatten ++ spare).set (i * sz + o) v = (rows.set i (r.set o v)).flatten ++ spare := by
      rw [List.set_append_left _ _ hlt, flat_set hrow hi ho]
    refine hk [(B, (rows.set i (r.set o v)).flatten ++ spare, BT.c e)] h ⟨.inr ⟨B, n, cp, spare, rfl, rfl, ?_, ?_, hle⟩, by simp [hlen], fun r' hr' => ?_⟩ ?_
    · rw [hn, ← flat_set hrow hi ho, List.length_set]
    · rw [hc, ← flat_set hrow hi ho, List.length_set]
    · rcases List.mem_or_eq_of_mem_set hr' with h2 | h2
      · exact hrow r' h2
      · rw [h2, List.length_set]; exact hrow r (List.mem_of_getElem? hi)
    · rw [hL, List.set_append_right _ _ (Nat.le_refl _), h1] at hm'
      simpa using hm'
/-! Addresses are compared with nil. -/
theorem equal_pn [Und P T (.pointer e)] (q : Option Addr) (w : World) : (Op.equal T (.pointer q) (.pointer none)).run P w = .ok (decide (q = none)) w := by
  unfold Op.equal Op.maxDepth Op.equalIn
  cases q <;> simp [und T w]
theorem pu_eql_pt [Und P T (.pointer e)] {U : TypeId} (hx : ev ρ x = .pointer q) (hy : ev ρ y = .pointer none) : Pu P ρ ⟨d, .binOp .eql T x y U, ty, p, af, g⟩ h (.bool (decide (q = none))) := ⟨fun w _ => by
  simp [execOp, guard_ptr, hx, hy, binOp, equal_pn]⟩
theorem pu_neq_pt [Und P T (.pointer e)] {U : TypeId} (hx : ev ρ x = .pointer q) (hy : ev ρ y = .pointer none) : Pu P ρ ⟨d, .binOp .neq T x y U, ty, p, af, g⟩ h (.bool (decide (q ≠ none))) := ⟨fun w _ => by
  simp [execOp, guard_ptr, hx, hy, binOp, equal_pn]⟩
/-! Structs of two texts are compared. -/
theorem run_equal_ss {f0 f1 : Field} (hu : P.underlying T = some (.struct #[f0, f1])) (hp : P.stoodInHeld T = false) (n0 : f0.name ≠ "_") (n1 : f1.name ≠ "_") (o0 : f0.offset = 0) (o1 : f1.offset = 1) (u0 : P.underlying f0.type = some .string) (u1 : P.underlying f1.type = some .string) (a0 : ∀ w, (isAgg f0.type).run P w = .ok false w) (a1 : ∀ w, (isAgg f1.type).run P w = .ok false w) (a b c e : List UInt8) (w : World) :
    (Op.equalIn 10000 T (.agg #[bs a, bs b]) (.agg #[bs c, bs e])).run P w = .ok (decide ((a, b) = (c, e))) w := by
  have hf : P.fieldsOf T = #[f0, f1] := by unfold Program.fieldsOf; rw [hu]
  rw [run_equalIn_struct w 9999 T _ _ (by rw [hf]; exact hu) hp, hf]
  have hbb : ∀ x y : List UInt8, ((ByteArray.mk x.toArray) == (ByteArray.mk y.toArray)) = decide (x = y) := fun x y => by
    show ((x.toArray : Array UInt8) == y.toArray) = _
    rw [Bool.eq_iff_iff, beq_iff_eq, decide_eq_true_iff]
    simp
  have hs : ∀ (d : Nat) (t : TypeId) (x y : List UInt8) (w : World), P.underlying t = some .string → (Op.equalIn (d + 1) t (bs x) (bs y)).run P w = .ok (decide (x = y)) w := fun d t x y w ht => by
    rw [Op.equalIn]
    simp only [Sem.run_bind, run_underlying ht, Result.andThen_ok, Sem.run_pure, hbb]
  have q0 : ∀ x y w, (Op.equalIn 9999 f0.type (bs x) (bs y)).run P w = .ok (decide (x = y)) w := fun x y w => hs 9998 _ x y w u0
  have q1 : ∀ x y w, (Op.equalIn 9999 f1.type (bs x) (bs y)).run P w = .ok (decide (x = y)) w := fun x y w => hs 9998 _ x y w u1
  have e0 : ∀ (x y : Value), (#[x, y] : Array Value)[0]? = some x := fun _ _ => rfl
  have e1 : ∀ (x y : Value), (#[x, y] : Array Value)[1]? = some y := fun _ _ => rfl
  simp only [Op.eqFields, n0, n1, ne_eq, not_false_eq_true, if_true, o0, o1, part, Sem.run_bind, a0, a1, Result.andThen_ok, Bool.false_eq_true, if_false, e0, e1, Sem.run_pure, q0, q1, Sem.run_ite]
  by_cases h0 : a = c <;> by_cases h1 : b = e <;> simp [h0, h1]
theorem pu_neq_ss {f0 f1 : Field} (hu : P.underlying T = some (.struct #[f0, f1])) (hp : P.stoodInHeld T = false) (hG : P.eqGuardType P.depth T = false) (n0 : f0.name ≠ "_") (n1 : f1.name ≠ "_") (o0 : f0.offset = 0) (o1 : f1.offset = 1) (u0 : P.underlying f0.type = some .string) (u1 : P.underlying f1.type = some .string) (a0 : ∀ w, (isAgg f0.type).run P w = .ok false w) (a1 : ∀ w, (isAgg f1.type).run P w = .ok false w) {a b c e : List UInt8} {U : TypeId}
    (hx : ev ρ x = .agg #[bs a, bs b]) (hy : ev ρ y = .agg #[bs c, bs e]) : Pu P ρ ⟨d, .binOp .neq T x y U, ty, p, af, g⟩ h (.bool (decide ((a, b) ≠ (c, e)))) := ⟨fun w _ => by
  have h1 := run_eqGuard_agg (P := P) w .neq T x y #[bs a, bs b] #[bs c, bs e] hG
  have h2 := run_neq_struct (P := P) w T #[bs a, bs b] #[bs c, bs e]
  rw [run_equal_ss hu hp n0 n1 o0 o1 u0 u1 a0 a1] at h2
  simp only [execOp, hx, hy, Sem.run_bind, h1, Result.andThen_ok, h2, Sem.run_pure, decide_not]⟩
end
end Go.Proofs.Ytchhjooifjcnkaa.K
