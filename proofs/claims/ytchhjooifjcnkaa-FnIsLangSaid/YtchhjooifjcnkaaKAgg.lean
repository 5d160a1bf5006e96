/-
  Structs and arrays as values: stored whole, indexed, compared, handed back out of memory.
-/
import Derived.Test.YtchhjooifjcnkaaKAppend
namespace Go.Proofs.Ytchhjooifjcnkaa.K
open Go

section
variable {P : Program} {f : FuncId} {E : Env} {R : Value → Array Obj → Prop} {kk : List Item} {ops : List Oper} {K : List Value → Array Obj → Prop} {rest : List Oper} {ρ ρ' : List Value} {o : Oper} {h0 h h' : Array Obj} {M L M' L' : List Blk} {v u : Value} {d : Option Tmp} {T ty U e : TypeId} {p : String} {af : Array Edge} {g : Option (Nat × Bool)} {x y z : Operand} {cs cs' : List Value} {n B j off : Nat} {k : IntKind}

/-- A struct or an array is stored over cells in a block's midst: pre and post stay. -/
theorem ex_storeAgg [Siz P T n] {pre old post new : List Value} {fz : TypeId} (hx : ev ρ x = .pointer (some ⟨B, off, none⟩)) (hy : ev ρ y = .agg new.toArray) (hn : new.length = n) (hone : ∀ u ∈ new, u.oneCell' = true) (hb : h[B]? = some (.cells (pre ++ old ++ post).toArray fz (0, 0))) (ho : off = pre.length) (hol : old.length = n) (E : Env) (w : World) (hw : At E h w) :
    ∃ w' h', (execOp (ev ρ) ⟨d, .store T x y, ty, p, af, g⟩).run P w = .ok .skip w' ∧ At E h' w' ∧ h'.size = h.size ∧ (∀ b, b ≠ B → h'[b]? = h[b]?) ∧ h'[B]? = some (.cells (pre ++ new ++ post).toArray fz (0, 0)) := by
  obtain ⟨w', h1, h2, h3, h4, h5, h6, h7⟩ := run_storeCells (P := P) new pre (old ++ post) w B 0 fz hone (by rw [hw.1, hb]; simp) (by simp; omega) off (by omega)
  refine ⟨w', w'.heap, ?_, ⟨rfl, by rw [h2]; exact hw.2.1, by rw [h3]; exact hw.2.2.1, by rw [h4]; exact hw.2.2.2⟩, by rw [h5, hw.1], fun b hb' => by rw [h6 b hb', hw.1], ?_⟩
  · simp [execOp, hx, hy, Instr.storeAt, Instr.sureAddr, storeVar, siz T w, Value.cells, hn, h1]
  · rw [h7]
    have : (old ++ post).drop new.length = post := by rw [hn, ← hol]; simp
    rw [this]
theorem lw_storeAgg_own [Siz P T n] {new : List Value} (hw : Wan ops ρ ⟨d, .store T x y, ty, p, af, g⟩) (hx : ev ρ x = .pointer (some ⟨B, 0, none⟩)) (hy : ev ρ y = .agg new.toArray) (hn : new.length = n) (hone : new.all (fun u => u.oneCell') = true) (hm : Mem h0 h M L) (hj : L[j]? = some (B, cs, BT.c e)) (hol : cs.length = n)
    (hL : L.set j (B, new, BT.c e) = L') (hs : setD ρ d undef = ρ') (hk : ∀ h, Mem h0 h M L' → LW P E ops K rest ρ' h) : LW P E ops K (⟨d, .store T x y, ty, p, af, g⟩ :: rest) ρ h := by
  refine ⟨fun w hA => ?_⟩
  have hb := hm.at_ (B, cs, BT.c e) (by simp [List.mem_of_getElem? hj])
  obtain ⟨w', h', h1, h2, h3, h4, h5⟩ := ex_storeAgg (P := P) (T := T) (n := n) (d := d) (ty := ty) (p := p) (af := af) (g := g) (pre := []) (post := []) (old := cs) (fz := e) hx hy hn (by simpa using hone) (by simpa using hb) rfl hol E w hA
  unfold wpList
  rw [if_pos hw.out]
  refine .inl ?_
  unfold Oper.wp
  rw [eval_mk, h1, Oper.upon_skip, put_mk, hs]
  refine (hk h' ?_).out w' h2
  refine hm.put (j := M.length + j) (cs' := new) (by simpa [List.getElem?_append_right] using hj) h3 h4 (by simpa using h5) ?_ rfl
  rw [← hL, List.set_append_right _ _ (by omega)]
  simp

/-- An element of an array that is a value. -/
theorem pu_index_arr {len : Nat} [Und P T (.array len e)] [Siz P e 1] [Agg P e false] (hx : ev ρ x = .agg cs.toArray) (hy : ev ρ y = .int k (n : Int)) (hn : n < len) (hv : cs[n]? = some v) : Pu P ρ ⟨d, .index T x y, ty, p, af, g⟩ h v := ⟨fun w _ => by
  simp [execOp, hx, hy, Instr.index, asIntOf, und T w, siz e w, agg e w, hn, part, hv]⟩

theorem fill_mono {q q' : Nat → Option (Nat × Nat)} (hq : ∀ i x, q i = some x → q' i = some x) : ∀ (parts : List (Nat × Value)) (z c : Array Value), Instr.fill q z parts = some c → Instr.fill q' z parts = some c
  | [], z, c, h => h
  | (i, v) :: r, z, c, h => by
    simp only [Instr.fill] at h ⊢
    cases hi : q i with
    | none => rw [hi] at h; cases h
    | some x =>
      rw [hi] at h
      rw [hq i x hi]
      simp only at h ⊢
      split
      · rename_i hc; rw [if_pos hc] at h; cases h
      · rename_i hc; rw [if_neg hc] at h; exact fill_mono hq r _ _ h
/-- The same for an array's literal. -/
theorem bld_arr {len : Nat} {pl : List (Nat × Nat)} {z : List Value} (hz : ∀ w, (zeroValue T).run P w = .ok (.agg z.toArray) w) (hu : ∀ w, (underlying T).run P w = .ok (.array len e) w) {sz : Nat} (hs : ∀ w, (sizeOf e).run P w = .ok sz w)
    (hpl : ∀ i x, pl[i]? = some x → x = (i * sz, sz)) : Bld P T pl z := ⟨fun parts cells w h => by
  have h' : Instr.fill (fun i => some (i * sz, sz)) z.toArray parts.toList = some cells := fill_mono (fun i x hx => by rw [hpl i x hx]) _ _ _ h
  simp only [Instr.build, Sem.run_bind, hz, Result.andThen_ok, hu, Value.cells, hs, h']
  rfl⟩

/-- What a function hands back out of memory: a struct or an array. -/
theorem tw_ret_cell {fn : Func} {t : Tmp} [Agg P T true] [Siz P T n] (hf : P.funcs[f]? = some fn) (hr : fn.results = #[.cell t T]) (hv : ev ρ (.tmp t) = .pointer (some ⟨B, off, none⟩)) (hn : cs.length = n) (hc : cellsFrom h B off cs) (hR : R (.agg cs.toArray) h) : TW P f E R (.code .ret :: kk) ρ h := by
  refine tw_ret_any hf (fun w hw => ?_) hR
  have hl := run_loadCellsFrom (P := P) w B off cs 0 #[] (by rw [hw.1]; simpa using hc)
  have ht : (ρ.toArray).getD t undef = .pointer (some ⟨B, off, none⟩) := by simpa [ev] using hv
  simp [results, hr, asAddr, loadVar, loadCells]
  rw [hn] at hl
  simp at ht
  simp [ht, hl, agg T w, siz T w]
end
/-- Of two arrays of three numbers whether they are the same. -/
theorem run_equal_arr3 {P : Program} {T e : TypeId} {k : IntKind} [Und P T (.array 3 e)] [Und P e (.int k)] [Siz P e 1] [Agg P e false] (a0 a1 a2 b0 b1 b2 : Int) (w : World) : (Op.equal T (.agg #[.int k a0, .int k a1, .int k a2]) (.agg #[.int k b0, .int k b1, .int k b2])).run P w = .ok (decide ([a0, a1, a2] = [b0, b1, b2])) w := by
  have key : ∀ d, (Op.equalIn (d + 1 + 1) T (.agg #[.int k a0, .int k a1, .int k a2]) (.agg #[.int k b0, .int k b1, .int k b2])).run P w = .ok (decide ([a0, a1, a2] = [b0, b1, b2])) w := fun d => by
    rw [Op.equalIn]
    have hi : ∀ (a b : Int), (Op.equalIn (d + 1) e (.int k a) (.int k b)).run P w = .ok (a == b) w := fun a b => by simp [Op.equalIn, und e w]
    simp [und T w, siz e w, List.range', agg e w, part, hi]
    by_cases h0 : a0 = b0 <;> by_cases h1 : a1 = b1 <;> by_cases h2 : a2 = b2 <;> simp [h0, h1, h2]
  unfold Op.equal Op.maxDepth
  exact key 9998
theorem pu_eql_arr3 {P : Program} {ρ : List Value} {h : Array Obj} {d : Option Tmp} {T ty U e : TypeId} {p : String} {af : Array Edge} {g : Option (Nat × Bool)} {x y : Operand} {k : IntKind} [Und P T (.array 3 e)] [Und P e (.int k)] [Siz P e 1] [Agg P e false] {a0 a1 a2 b0 b1 b2 : Int} (hx : ev ρ x = .agg #[.int k a0, .int k a1, .int k a2]) (hy : ev ρ y = .agg #[.int k b0, .int k b1, .int k b2]) (hG : P.eqGuardType P.depth T = false) :
    Pu P ρ ⟨d, .binOp .eql T x y U, ty, p, af, g⟩ h (.bool (decide ([a0, a1, a2] = [b0, b1, b2]))) := ⟨fun w _ => by
  have h1 := run_eqGuard_agg (P := P) w .eql T x y #[.int k a0, .int k a1, .int k a2] #[.int k b0, .int k b1, .int k b2] hG
  simp only [execOp, hx, hy, Sem.run_bind, h1, Result.andThen_ok, binOp, run_equal_arr3, Sem.run_pure]⟩
end Go.Proofs.Ytchhjooifjcnkaa.K
