/-
  From a contract of a law's function to what the given row asks: a law that returns true and leaves what was there as it is meets its row.
-/
import Derived.Test.YtpedmnlpccngiaaDoorKCore
import Derived.ProofKit
import Derived.OrdersHeld
import Derived.ChangeArms
import Derived.Laws.StructEq
import Derived.WideShapes
import Derived.LaidEql
set_option linter.unusedVariables false
set_option linter.unusedSimpArgs false
namespace Go.Proofs.YtpedmnlpccngiaaDoor.K
open Go Go.ChangeShapes Go.WideShapes Go.ChangeAt Go.RowKit

theorem trodAll_stays {H : Type} {enc : TypeId × Value → H} {P : Program} (hl : laidOutB P = true) {W W' : World} {sp : Nat → Bool} : ∀ (ts : List TypeId) (vs : List Value) (ds : List (DataW H)) (ps : List MemPlace),
    ts.all (fun t => P.readableRec t && decide (t < P.types.size)) = true → DataW.TrodAll enc P W 0 (fun _ => true) true ts vs ds ps → (∀ p ∈ ps, W.sameAt W' p) → (∀ p ∈ ps, sp p.block = true) → DataW.TrodAll enc P W' 0 sp true ts vs ds ps
  | [], [], [], _, _, h, _, _ => h
  | t :: ts, v :: vs, d :: ds, ps, hr, ⟨p, q, h1, h2, he⟩, hs, hb => by
    subst he
    simp only [List.all_cons, Bool.and_eq_true, decide_eq_true_eq] at hr
    exact ⟨p, q, WideElems.Trod_stays hl hr.1.1 hr.1.2 h1 (fun x hx => hs x (by simp [hx])) (fun x hx => hb x (by simp [hx])), trodAll_stays hl ts vs ds q hr.2 h2 (fun x hx => hs x (by simp [hx])) (fun x hx => hb x (by simp [hx])), rfl⟩
  | [], _ :: _, _, _, _, h, _, _ => h.elim
  | [], [], _ :: _, _, _, h, _, _ => h.elim
  | _ :: _, [], _, _, _, h, _, _ => h.elim
  | _ :: _, _ :: _, [], _, _, h, _, _ => h.elim

theorem below_of {E : Env} {W w' : World} {h' : Array Obj} (hE : E = ⟨W.os, W.output, W.tape⟩) (hA : At E h' w') (he : Ext W.heap h') : Below W.heap.size W w' := by
  subst hE
  exact ⟨hA.2.1, hA.2.2.2, hA.2.2.1, by rw [hA.1]; exact he.1, fun k hk => by rw [hA.1]; exact he.2 k hk⟩

/-- A law that returns true, and leaves what was there as it is, meets its row. -/
theorem law_post {H : Type} {enc : TypeId × Value → H} {P : Program} {k : FuncId} {f : Func} {s : ChangeSpec} {tb : TypeId} {W : World} {args : Array Value} {ds gs : List (DataW H)} {before : List MemPlace}
    (hl : laidOutB P = true) (hread : f.params.toList.all (fun t => P.readableRec t && decide (t < P.types.size)) = true) (hrt : f.resultTypes = #[tb]) (hub : P.underlying tb = some .bool) (hvars : s.vars = []) (hW : DataW.Whole enc P f.params.toList s.vars false W args.toList ds gs before)
    (hfn : (s.fn H (ds ++ gs)).results = [.lit (.bool true)] ∧ (s.fn H (ds ++ gs)).args = ds ∧ (s.fn H (ds ++ gs)).vars = [])
    (hret : Ret P k args.toList W.heap fun v h => v = .bool true ∧ Ext W.heap h) :
    Calls P k args W fun e W' => ∃ v, e = .returned v ∧ s.post enc P f false true false false W args v W' := by
  have h1 := hret.out ⟨W.os, W.output, W.tape⟩ W ⟨rfl, rfl, rfl, rfl⟩
  simp only [Array.toArray_toList] at h1
  refine h1.mono fun e W' ⟨v, he, h', hA, hv, hx⟩ => ?_
  subst hv
  refine ⟨_, he, ?_⟩
  have hb := below_of rfl hA hx
  have hW' := hW
  obtain ⟨p, q, hA0, hV, rfl, hfz, hnd⟩ := hW
  rw [hvars] at hV
  have hq : q = [] ∧ gs = [] := by
    cases gs with
    | nil => exact ⟨hV, rfl⟩
    | cons g gs => exact hV.elim
  obtain ⟨rfl, rfl⟩ := hq
  have hlt : ∀ x ∈ p, x.block < W.heap.size := fun x hx => hW'.lt x (by simp [hx])
  refine ⟨ds, [], p ++ [], [], p, [], hW', ?_, ?_, ?_, World.keptBut_mono (fun _ h => h.elim) (hb.frame (fun _ => False)), fun h => by cases h⟩
  · rw [hrt, hfn.1]
    exact trodAll_mk1 (shut_bool hub true)
  · rw [hfn.2.1]
    exact trodAll_stays hl _ _ _ _ hread hA0 (fun x hx => hb.same (hlt x hx)) (fun x hx => by simpa using hlt x hx)
  · rw [hvars, hfn.2.2]
    rfl
end Go.Proofs.YtpedmnlpccngiaaDoor.K
namespace Go.Proofs.YtpedmnlpccngiaaDoor.K
open Go

structure AW (P : Program) (E : Env) (S : Array Obj → Prop) (ops : List Oper) (K : List Value → Array Obj → Prop) (fuel : Nat) (listed : Array Bool) (ρ : List Value) (h : Array Obj) : Prop where
  out : ∀ w, At E h w → wpAnyH P .any ops.toArray (fun e a w' => e = .normal ∧ ∃ ρ' h', a = act ρ' ∧ At E h' w' ∧ K ρ' h') (Sin E S) fuel listed (act ρ) w

theorem wp_mono2 {P : Program} {o : Oper} {a : Act} {w : World} {K K' : Act → World → Prop} {Q Q' : Exit → Act → World → Prop} (h : ∀ a w, K a w → K' a w) (hq : ∀ e a w, e ≠ .normal → Q e a w → Q' e a w) (hl : LetsOut Q → LetsOut Q') (hh : o.wp P a w K Q) : o.wp P a w K' Q' := by
  unfold Oper.wp at *
  generalize (execOp a.eval o).run P w = r at *
  cases r with
  | ok n w' =>
    cases n <;> simp only [Oper.upon] at hh ⊢ <;>
      first
        | exact h _ _ hh
        | exact Calls.mono hh (fun e w'' he => by cases e <;> first | exact h _ _ he | exact hq _ _ _ (by simp) he | exact hl he)
        | exact Rows.mono hh (fun _ _ he => h _ _ he)
  | halt x w' => cases x <;> simp only [Oper.upon] at hh ⊢ <;> first | exact hh | exact hq _ _ _ (by simp) hh

section
variable {P : Program} {f : FuncId} {E : Env} {R : Value → Array Obj → Prop} {kk : List Item} {S : Array Obj → Prop} {ops : List Oper} {K : List Value → Array Obj → Prop} {ρ ρ' : List Value} {o : Oper} {h0 h h' : Array Obj} {v : Value} {fuel n : Nat} {listed : Array Bool} {i : Nat} {M L : List Blk}

theorem tw_held (S : Array Obj → Prop) {id : Nat} (hm : P.follows .mixedOrders = true) (hn : ops.length = n) (hl : ∀ K : List Value → Array Obj → Prop, (∀ ρ h, TW P f E R kk ρ h → K ρ h) → AW P E S ops K n (Array.replicate n false) ρ h) : TW P f E R (.code (.region id ops.toArray true) :: kk) ρ h :=
  TW.of_wp fun w hw => by
    subst hn
    exact wp_region_held (S := Sin E S) hm (by simpa using (hl _ (fun _ _ h => h)).out { w with drawn := w.drawn + 1 } ⟨hw.1, hw.2.1, hw.2.2.1, hw.2.2.2⟩)
theorem aw_done (hr : Region.ready .any ops.toArray listed = []) (hk : K ρ h) : AW P E S ops K fuel listed ρ h :=
  ⟨fun _ hw => wpAnyH_done hr ⟨rfl, ρ, h, rfl, hw, hk⟩ fuel⟩
/-- An operation that only reads is taken first. -/
theorem aw_take (i : Nat) (hi : ops[i]? = some o) (hs : Region.noSelect ops.toArray = true) (hf : Region.free .any ops.toArray listed i = true) (hr : (Region.ready .any ops.toArray listed).contains i = true)
    (hS : S h) (hw : Wan ops ρ o) (hx : ∀ h, S h → Pu P ρ o h v) (hset : setD ρ o.dst v = ρ') (hk : AW P E S ops K fuel (listed.setIfInBounds i true) ρ' h) : AW P E S ops K (fuel + 1) listed ρ h := by
  refine ⟨fun w hA => wpAnyH_take (i := i) (oi := o) (v := v) (by simpa using hi) hs hf hr (fun c a w hq => by cases hq.1) (.inl ⟨hw.out, fun w' ⟨h', hA', hS'⟩ => ?_⟩) ⟨h, hA, hS⟩ ?_⟩
  · rw [eval_mk]; exact (hx h' hS').out w' hA'.1
  · rw [put_mk, hset]; exact hk.out w hA
theorem aw_skip_gen (i : Nat) (hi : ops[i]? = some o) (hs : Region.noSelect ops.toArray = true) (hf : Region.free .any ops.toArray listed i = true) (hr : (Region.ready .any ops.toArray listed).contains i = true)
    (hS : S h) (hw : Region.wanted o (yielded ops.toArray (act ρ).tmps) = false) (hset : setD ρ o.dst undef = ρ') (hk : AW P E S ops K fuel (listed.setIfInBounds i true) ρ' h) : AW P E S ops K (fuel + 1) listed ρ h := by
  refine ⟨fun w hA => wpAnyH_take (i := i) (oi := o) (v := undef) (by simpa using hi) hs hf hr (fun c a w hq => by cases hq.1) (.inr ⟨hw, rfl⟩) ⟨h, hA, hS⟩ ?_⟩
  rw [put_mk, hset]; exact hk.out w hA
theorem aw_each {l : List Nat} (hr : Region.ready .any ops.toArray listed = l) (hne : l ≠ []) (hl : ∀ j ∈ l, ∃ o, ops[j]? = some o ∧ LW P E ops (fun ρ' h' => S h' ∧ AW P E S ops K fuel (listed.setIfInBounds j true) ρ' h') [o] ρ h) : AW P E S ops K (fuel + 1) listed ρ h := by
  refine ⟨fun w hA => wpAnyH_all hr hne fun j hj => ?_⟩
  obtain ⟨o, hi, hl⟩ := hl j hj
  have h1 := hl.out w hA
  unfold wpOp
  have hi' : ops.toArray[j]? = some o := by simpa using hi
  simp only [hi']
  unfold wpList at h1
  split
  · rename_i hq
    rw [if_pos hq] at h1
    rcases h1 with h1 | h1
    · refine .inl (wp_mono2 (fun a w' hh => ?_) (fun e a w' hne hh => absurd hh.1 hne) (fun ⟨_, _, hh⟩ => by cases hh.1) h1)
      obtain ⟨_, ρ', h', rfl, hA', hS', hk⟩ := hh
      exact ⟨⟨h', hA', hS'⟩, hk.out w' hA'⟩
    · obtain ⟨_, a, w', hq, _⟩ := h1
      cases hq
  · rename_i hq
    rw [if_neg hq] at h1
    obtain ⟨_, ρ', h', he, hA', hS', hk⟩ := h1
    rw [he]
    exact ⟨⟨h', hA', hS'⟩, hk.out w hA'⟩
/-- Of those that may come up, one stands alone: it is carried out as ever. -/
theorem aw_step (i : Nat) (hi : ops[i]? = some o) (hr : Region.ready .any ops.toArray listed = [i]) (hl : LW P E ops (fun ρ' h' => S h' ∧ AW P E S ops K fuel (listed.setIfInBounds i true) ρ' h') [o] ρ h) : AW P E S ops K (fuel + 1) listed ρ h :=
  aw_each hr (by simp) fun j hj => by
    obtain rfl : j = i := by simpa using hj
    exact ⟨o, hi, hl⟩
/-- Two may come up: either way. -/
theorem aw_two {o' : Oper} (i i' : Nat) (hi : ops[i]? = some o) (hi' : ops[i']? = some o') (hr : Region.ready .any ops.toArray listed = [i, i']) (hl : LW P E ops (fun ρ' h' => S h' ∧ AW P E S ops K fuel (listed.setIfInBounds i true) ρ' h') [o] ρ h)
    (hl' : LW P E ops (fun ρ' h' => S h' ∧ AW P E S ops K fuel (listed.setIfInBounds i' true) ρ' h') [o'] ρ h) : AW P E S ops K (fuel + 1) listed ρ h :=
  aw_each hr (by simp) fun j hj => by
    have hj' : j = i ∨ j = i' := by simpa using hj
    rcases hj' with rfl | rfl
    · exact ⟨o, hi, hl⟩
    · exact ⟨o', hi', hl'⟩
theorem aw_skip_b {j t : Nat} {b : Bool} (i : Nat) (hi : ops[i]? = some o) (hs : Region.noSelect ops.toArray = true) (hf : Region.free .any ops.toArray listed i = true) (hr : (Region.ready .any ops.toArray listed).contains i = true)
    (hS : S h) (hg : o.guard = some (j, b)) (hd : (ops[j]?).bind (·.dst) = some t) (hv : ev ρ (.tmp t) = .bool (!b)) (hset : setD ρ o.dst undef = ρ') (hk : AW P E S ops K fuel (listed.setIfInBounds i true) ρ' h) : AW P E S ops K (fuel + 1) listed ρ h :=
  aw_skip_gen i hi hs hf hr hS (by cases b <;> simp [Region.wanted, hg, yielded_mk hd hv]) hset hk
theorem aw_skip_u {j t : Nat} {b : Bool} (i : Nat) (hi : ops[i]? = some o) (hs : Region.noSelect ops.toArray = true) (hf : Region.free .any ops.toArray listed i = true) (hr : (Region.ready .any ops.toArray listed).contains i = true)
    (hS : S h) (hg : o.guard = some (j, b)) (hd : (ops[j]?).bind (·.dst) = some t) (hv : ev ρ (.tmp t) = undef) (hset : setD ρ o.dst undef = ρ') (hk : AW P E S ops K fuel (listed.setIfInBounds i true) ρ' h) : AW P E S ops K (fuel + 1) listed ρ h :=
  aw_skip_gen i hi hs hf hr hS (by simp [Region.wanted, hg, yielded_undef hd hv]) hset hk
end

/-- What is told of the memory throughout a region that writes: blocks that nobody in it writes, and what was there at h0 but for M. -/
structure Hld (h0 : Array Obj) (M Ls : List Blk) (h : Array Obj) : Prop where
  size : h0.size ≤ h.size
  old : ∀ b, b < h0.size → (∀ p ∈ M, p.1 ≠ b) → h[b]? = h0[b]?
  at_ : ∀ p ∈ Ls, h[p.1]? = some (.cells p.2.1.toArray p.2.2.ty (0, 0))
theorem Mem.hld {h0 h : Array Obj} {M M' L Ls : List Blk} (hm : Mem h0 h M' L) (hk : M'.map (·.1) = M.map (·.1)) (hs : Ls.Sublist (M' ++ L)) : Hld h0 M Ls h :=
  ⟨hm.size, fun b hb hM => hm.old b hb (fun p hp he => by
    have : p.1 ∈ M.map (·.1) := by rw [← hk]; exact List.mem_map.2 ⟨p, hp, rfl⟩
    obtain ⟨q, hq, hqe⟩ := List.mem_map.1 this
    exact hM q hq (hqe.trans he)), fun p hp => hm.at_ p (hs.subset hp)⟩
theorem Hld.own {h0 h : Array Obj} {M Ls : List Blk} (hm : Hld h0 M Ls h) {B off j : Nat} {cs : List Value} {T : TypeId} {v : Value} (hj : Ls[j]? = some (B, cs, BT.c T)) (hc : cs[off]? = some v) : cell h ⟨B, off, none⟩ = some v := by
  have h1 := hm.at_ (B, cs, BT.c T) (List.mem_of_getElem? hj)
  simp only at h1
  simp [K.cell, h1, hc]
theorem Hld.ext {h0 h : Array Obj} {Ls : List Blk} (hm : Hld h0 [] Ls h) : Ext h0 h := ⟨hm.size, fun b hb => hm.old b hb (by simp)⟩
theorem tw_heldM {P : Program} {f : FuncId} {E : Env} {R : Value → Array Obj → Prop} {kk : List Item} {ops : List Oper} {ρ : List Value} {h0 h : Array Obj} {M Ls : List Blk} {n id : Nat} (_hm : Hld h0 M Ls h) (hmo : P.follows .mixedOrders = true) (hn : ops.length = n) (hl : ∀ K : List Value → Array Obj → Prop, (∀ ρ h, TW P f E R kk ρ h → K ρ h) → AW P E (Hld h0 M Ls) ops K n (Array.replicate n false) ρ h) : TW P f E R (.code (.region id ops.toArray true) :: kk) ρ h :=
  tw_held (Hld h0 M Ls) hmo hn hl
end Go.Proofs.YtpedmnlpccngiaaDoor.K
namespace Go.Proofs.YtpedmnlpccngiaaDoor.K
open Go

theorem cells_of_row {h : Array Obj} {B : Nat} {e : TypeId} {fz : Nat × Nat} : ∀ (cs pre post : List Value) (off : Nat), h[B]? = some (.cells (pre ++ cs ++ post).toArray e fz) → off = pre.length → cellsFrom h B off cs
  | [], _, _, _, _, _ => trivial
  | c :: cs, pre, post, off, hb, ho => by
    subst ho
    refine ⟨?_, cells_of_row cs (pre ++ [c]) post (pre.length + 1) (by simpa using hb) (by simp)⟩
    unfold cell
    rw [hb]
    simp
theorem Mem.row {h0 h : Array Obj} {M L : List Blk} (hm : Mem h0 h M L) {B j : Nat} {cs : List Value} {T : TypeId} (hj : L[j]? = some (B, cs, BT.c T)) : cellsFrom h B 0 cs :=
  cells_of_row cs [] [] 0 (by simpa using hm.at_ (B, cs, BT.c T) (by simp [List.mem_of_getElem? hj])) rfl
theorem Mem.rowMut {h0 h : Array Obj} {M L : List Blk} (hm : Mem h0 h M L) {B j : Nat} {cs : List Value} {T : TypeId} (hj : M[j]? = some (B, cs, BT.c T)) : cellsFrom h B 0 cs :=
  cells_of_row cs [] [] 0 (by simpa using hm.at_ (B, cs, BT.c T) (by simp [List.mem_of_getElem? hj])) rfl
theorem Mem.sub {h0 h : Array Obj} {M L L' : List Blk} (hm : Mem h0 h M L) (hs : L'.Sublist L) : Mem h0 h M L' :=
  ⟨hm.size, hm.old, fun p hp => hm.at_ p (by
    rcases List.mem_append.1 hp with hp | hp
    · exact List.mem_append_left _ hp
    · exact List.mem_append_right _ (hs.subset hp)), fun p hp => hm.new p (hs.subset hp), by
    have := hm.nodup
    rw [List.map_append] at *
    exact this.sublist ((List.Sublist.refl _).append (hs.map _))⟩

theorem Mem.perm {h0 h : Array Obj} {M L L' : List Blk} (hm : Mem h0 h M L) (hp : L'.Perm L) : Mem h0 h M L' :=
  ⟨hm.size, hm.old, fun p hq => hm.at_ p (by
    rcases List.mem_append.1 hq with hq | hq
    · exact List.mem_append_left _ hq
    · exact List.mem_append_right _ (hp.mem_iff.1 hq)), fun p hq => hm.new p (hp.mem_iff.1 hq), by
    have := hm.nodup
    rw [List.map_append] at *
    exact (((List.Perm.refl _).append (hp.map _)).nodup_iff).2 this⟩

/-- A slice that the call owns: nothing yet, or the head of a block of its own. -/
def SlSh (sz : Nat) (T : TypeId) (v : Value) (Lv : List Blk) (vals : List Value) : Prop :=
  (v = .slice none 0 0 ∧ Lv = [] ∧ vals = []) ∨
  ∃ B n cap spare, v = .slice (some ⟨B, 0, none⟩) n cap ∧ Lv = [(B, vals ++ spare, BT.c T)] ∧ n * sz = vals.length ∧ cap * sz = vals.length + spare.length ∧ n ≤ cap
theorem SlSh.nil (sz : Nat) (T : TypeId) : SlSh sz T (.slice none 0 0) [] [] := .inl ⟨rfl, rfl, rfl⟩

theorem growBy_le (need : Nat) : ∀ (r c : Nat), 256 ≤ c → c ≤ 2 * need → Builtin.growBy need r c ≤ 2 * need
  | 0, c, _, h => by simpa [Builtin.growBy] using h
  | r + 1, c, h1, h2 => by
    simp only [Builtin.growBy]
    split
    · exact h2
    · exact growBy_le need r _ (by omega) (by omega)
theorem nextslicecap_le (need cap : Nat) (h : cap < need) : Builtin.nextslicecap need cap ≤ 2 * need := by
  unfold Builtin.nextslicecap
  split
  · omega
  · split
    · omega
    · exact growBy_le need 4 cap (by omega) (by omega)

theorem run_storeCellsZ {P : Program} {fz : Nat × Nat} : ∀ (new pre post : List Value) (w : World) (B i : Nat) (e : TypeId), fzok fz (pre ++ post).length → (∀ v ∈ new, v.oneCell' = true) → w.heap[B]? = some (.cells (pre ++ post).toArray e fz) → new.length ≤ post.length → ∀ off, off + i = pre.length →
    ∃ w', (storeCells ⟨B, off, none⟩ new i).run P w = .ok () w' ∧ w'.os = w.os ∧ w'.output = w.output ∧ w'.tape = w.tape ∧ w'.heap.size = w.heap.size ∧ (∀ b, b ≠ B → w'.heap[b]? = w.heap[b]?) ∧ w'.heap[B]? = some (.cells (pre ++ new ++ post.drop new.length).toArray e fz)
  | [], pre, post, w, B, i, e, _, _, hb, _, off, _ => ⟨w, by simp [storeCells], rfl, rfl, rfl, rfl, fun _ _ => rfl, by simpa using hb⟩
  | v :: new, pre, post, w, B, i, e, hz, hv, hb, hl, off, ho => by
    match post, hl with
    | p :: post, hl =>
      have hc : w.cell? ⟨B, off + i, none⟩ = some p := by
        unfold World.cell?
        rw [hb]
        simp [ho]
      have hf : w.frozen? ⟨B, off + i, none⟩ = false := by
        unfold World.frozen?
        rw [hb]
        obtain ⟨lo, hi⟩ := fz
        have := hz (off + i) (by simp; omega)
        simp only [not_and, Nat.not_lt] at this
        simp only [Bool.and_eq_false_iff, decide_eq_false_iff_not]
        by_cases h1 : lo ≤ off + i
        · exact .inr (Nat.not_lt.2 (this h1))
        · exact .inl h1
      have hb1 : (w.setCell ⟨B, off + i, none⟩ v).heap[B]? = some (.cells ((pre ++ [v]) ++ post).toArray e fz) := by
        simp only [World.setCell, Array.getElem?_modify, if_true, hb, Option.map_some]
        simp [ho]
      obtain ⟨w', h1, h2, h3, h4, h5, h6, h7⟩ := run_storeCellsZ (P := P) new (pre ++ [v]) post (w.setCell ⟨B, off + i, none⟩ v) B (i + 1) e (by simpa using hz) (fun u hu => hv u (by simp [hu])) hb1 (by simpa using hl) off (by simp; omega)
      refine ⟨w', ?_, h2, h3, h4, by rw [h5]; simp, fun b hne => ?_, by rw [h7]; simp⟩
      · simp only [storeCells, Sem.run_bind, add_at, run_store _ _ _ _ _ (hv v (by simp)), hc, hf]
        exact h1
      · rw [h6 b hne]
        simp only [World.setCell, Array.getElem?_modify]
        rw [if_neg (by omega)]
theorem run_storeCells {P : Program} (new pre post : List Value) (w : World) (B i : Nat) (e : TypeId) (hv : ∀ v ∈ new, v.oneCell' = true) (hb : w.heap[B]? = some (.cells (pre ++ post).toArray e (0, 0))) (hl : new.length ≤ post.length) (off : Nat) (ho : off + i = pre.length) :
    ∃ w', (storeCells ⟨B, off, none⟩ new i).run P w = .ok () w' ∧ w'.os = w.os ∧ w'.output = w.output ∧ w'.tape = w.tape ∧ w'.heap.size = w.heap.size ∧ (∀ b, b ≠ B → w'.heap[b]? = w.heap[b]?) ∧ w'.heap[B]? = some (.cells (pre ++ new ++ post.drop new.length).toArray e (0, 0)) :=
  run_storeCellsZ new pre post w B i e (fzok0 _) hv hb hl off ho

theorem length_zeroCells (z : Array Value) (n : Nat) : (Builtin.zeroCells z n).size = n * z.size := by simp [Builtin.zeroCells]

/-- append, run: what it hands back and what it leaves. -/
theorem run_append {P : Program} {S X e ty : TypeId} {X' : TypeId} {i : TypeInfo} {z : Value} {sz n cx : Nat} {v : Value} {vals new : List Value} {Lv L1 L2 M Lf : List Blk} {h0 : Array Obj} {Bx ox : Nat} {E : Env} {h : Array Obj}
    [Und P S (.slice e)] [Und P X (.slice X')] [Siz P e sz] [Inf P e i] [Zer P e z] (hz : z.cells.size = sz) (hm : Mem h0 h M Lf) (hL : Lf = L1 ++ (Lv ++ L2)) (sh : SlSh sz e v Lv vals) (hx : cellsFrom h Bx ox new) (hn : new.length = n * sz) (hone : ∀ u ∈ new, u.oneCell' = true)
    (hr : (vals.length + new.length) * (i.bytes + 1) ≤ 2 ^ 46) (hsz : 0 < sz) (w : World) (hw : At E h w) (hpos : 0 < n) :
    ∃ v' w' Lv' h', (Builtin.append_ #[S, X] ty #[v, .slice (some ⟨Bx, ox, none⟩) n cx]).run P w = .ok v' w' ∧ At E h' w' ∧ SlSh sz e v' Lv' (vals ++ new) ∧ Mem h0 h' M (L1 ++ (Lv' ++ L2)) := by
  have hload : ∀ w : World, w.heap = h → (loadCells ⟨Bx, ox, none⟩ (n * sz)).run P w = .ok new.toArray w := fun w hw => by
    subst hw
    have := run_loadCellsFrom (P := P) w Bx ox new 0 #[] (by simpa using hx)
    rw [hn] at this
    simpa [loadCells] using this
  have hlen : new.length ≥ n := by rw [hn]; exact Nat.le_mul_of_pos_right n hsz
  have key : ∀ (q : Option Addr) (sLen sCap : Nat) (old : List Value), v = .slice q sLen sCap → sCap < sLen + n → sLen ≤ vals.length → old = vals → (∀ w : World, w.heap = h → (Builtin.firstCells sz sLen v).run P w = .ok old.toArray w) → sLen * sz = vals.length →
      ∃ v' w' Lv' h', (Builtin.append_ #[S, X] ty #[v, .slice (some ⟨Bx, ox, none⟩) n cx]).run P w = .ok v' w' ∧ At E h' w' ∧ SlSh sz e v' Lv' (vals ++ new) ∧ Mem h0 h' M (L1 ++ (Lv' ++ L2)) := by
    intro q sLen sCap old hv hcap hsl hold hfirst hlen'
    subst hold
    have hb0 : (sLen + n) * i.bytes ≤ 2 ^ 46 := Nat.le_trans (Nat.mul_le_mul (by omega) (by omega)) hr
    have hb1 : ¬ Builtin.nextslicecap (sLen + n) sCap * i.bytes > 2 ^ 48 := by
      have h1 := nextslicecap_le (sLen + n) sCap hcap
      have h2 : Builtin.nextslicecap (sLen + n) sCap * i.bytes ≤ 2 * (sLen + n) * i.bytes := Nat.mul_le_mul_right _ h1
      have h3 : 2 * (sLen + n) * i.bytes = 2 * ((sLen + n) * i.bytes) := by rw [Nat.mul_assoc]
      omega
    have hb2 : ¬ (((sLen + n : Nat) : Int) > IntKind.i64.max ∧ (false = true ∨ i.bytes = 0)) := by
      have h4 : (sLen + n) ≤ (old.length + new.length) * (i.bytes + 1) := Nat.le_trans (by omega) (Nat.le_mul_of_pos_right _ (by omega))
      simp only [IntKind.max, IntKind.signed, IntKind.bits]
      simp
      omega
    let q' : Question := .appendCap (sLen + n) sCap e
    let nc := q'.cut (w.tape w.drawn q')
    have hnc : sLen + n ≤ nc := Nat.le_add_right _ _
    let w1 : World := w.drew
    let cs := old ++ new ++ (Builtin.zeroCells z.cells (nc - (sLen + n))).toList
    have hwh : w.heap = h := hw.1
    refine ⟨.slice (some ⟨h.size, 0, none⟩) (sLen + n) nc, { w1 with heap := w1.heap.push (.cells cs.toArray e (0, 0)) }, [(h.size, cs, BT.c e)], h.push (.cells cs.toArray e (0, 0)), ?_, ⟨by rw [← hwh]; rfl, hw.2.1, hw.2.2.1, hw.2.2.2⟩, .inr ⟨h.size, sLen + n, nc, (Builtin.zeroCells z.cells (nc - (sLen + n))).toList, rfl, rfl, ?_, ?_, hnc⟩, ?_⟩
    · have hneg : ¬ (sLen + n ≤ sCap) := by omega
      have hfc : (Builtin.firstCells sz n (.slice (some ⟨Bx, ox, none⟩) n cx)) = loadCells ⟨Bx, ox, none⟩ (n * sz) := rfl
      subst hv
      simp only [Builtin.append_]
      simp [und S w, und X w, siz e w, Builtin.lenOf, hneg, fun w => inf (P := P) e w, hb1]
      have hb2' : ¬ (9223372036854775807 < ((sLen : Int) + (n : Int)) ∧ i.bytes = 0) := by
        simp only [IntKind.max, IntKind.signed, IntKind.bits] at hb2
        simp at hb2
        omega
      simp only [IntKind.max, IntKind.signed, IntKind.bits] at *
      simp [hb2', Question.forced, hfc]
      have h5 := hfirst w1 hwh
      have h6 := hload w1 hwh
      simp only [w1] at h5 h6
      simp [h5, h6, fun w => zer (P := P) e w, newRow, hwh, cs, nc, q', w1]
      exact congrArg (fun a => w.drew.alloc (Obj.cells a e)) (Array.ext' (by simp))
    · simp [Nat.add_mul, hn]; omega
    · simp only [List.length_append, Array.length_toList, length_zeroCells, hz]
      rw [hn, ← hlen', Nat.sub_mul, Nat.add_mul]
      have := Nat.mul_le_mul_right sz hnc
      rw [Nat.add_mul] at this
      omega
    · have h7 := hm.push cs e
      have h8 : Mem h0 _ M ((h.size, cs, BT.c e) :: (L1 ++ L2)) := h7.sub (by rw [hL]; exact List.Sublist.cons_cons _ ((List.Sublist.refl _).append (List.sublist_append_right _ _)))
      exact h8.perm List.perm_middle
  rcases sh with ⟨rfl, rfl, rfl⟩ | ⟨B, sLen, cap, spare, rfl, rfl, hlen', hcap', hle⟩
  · exact key none 0 0 [] rfl (by omega) (Nat.le_refl _) rfl (fun w _ => by simp [Builtin.firstCells]) (by simp)
  · by_cases hroom : sLen + n ≤ cap
    · have hmem : (B, vals ++ spare, BT.c e) ∈ Lf := by rw [hL]; simp
      have hb := hm.at_ _ (List.mem_append_right M hmem)
      have hsp : new.length ≤ spare.length := by
        have := Nat.mul_le_mul_right sz hroom
        rw [Nat.add_mul] at this
        omega
      obtain ⟨w', h1, h2, h3, h4, h5, h6, h7⟩ := run_storeCells (P := P) new vals spare w B 0 e hone (by rw [hw.1]; exact hb) hsp (sLen * sz) (by rw [hlen']; rfl)
      refine ⟨.slice (some ⟨B, 0, none⟩) (sLen + n) cap, w', [(B, (vals ++ new) ++ spare.drop new.length, BT.c e)], w'.heap, ?_, ⟨rfl, by rw [h2]; exact hw.2.1, by rw [h3]; exact hw.2.2.1, by rw [h4]; exact hw.2.2.2⟩, .inr ⟨B, sLen + n, cap, spare.drop new.length, rfl, rfl, by simp [Nat.add_mul, hn]; omega, by simp; omega, hroom⟩, ?_⟩
      · have hfc : (Builtin.firstCells sz n (.slice (some ⟨Bx, ox, none⟩) n cx)) = loadCells ⟨Bx, ox, none⟩ (n * sz) := rfl
        have h8 := hload w hw.1
        simp only [Builtin.append_]
        simp [und S w, und X w, siz e w, Builtin.lenOf, hroom, hfc, h8, add_at, h1]
      · have hml : (M ++ Lf)[(M ++ L1).length]? = some (B, vals ++ spare, BT.c e) := by
          rw [hL]
          simp
        refine hm.put (j := (M ++ L1).length) (cs' := (vals ++ new) ++ spare.drop new.length) hml (by rw [h5, hw.1]) (fun b hb' => by rw [h6 b hb', hw.1]) (by rw [h7]) ?_ rfl
        rw [hL, ← List.append_assoc M L1, List.set_append_right _ _ (Nat.le_refl _)]
        simp
    · refine key (some ⟨B, 0, none⟩) sLen cap vals rfl (by omega) ?_ rfl (fun w hw' => ?_) hlen'
      · rw [← hlen']; exact Nat.le_mul_of_pos_right _ hsz
      · have hmem : (B, vals ++ spare, BT.c e) ∈ Lf := by rw [hL]; simp
        have hc := cells_of_row vals [] spare 0 (by simpa using hm.at_ _ (List.mem_append_right M hmem)) rfl
        subst hw'
        have := run_loadCellsFrom (P := P) w B 0 vals 0 #[] (by simpa using hc)
        simpa [Builtin.firstCells, loadCells, hlen'] using this

section
variable {P : Program} {E : Env} {ops : List Oper} {K : List Value → Array Obj → Prop} {rest : List Oper} {ρ ρ' : List Value} {o : Oper} {h0 h h' : Array Obj} {M L M' L' L1 L2 Lv Lf : List Blk} {v u : Value} {d : Option Tmp} {T ty S X X' e : TypeId} {p : String} {af : Array Edge} {g : Option (Nat × Bool)} {x y z : Operand} {cs vals new : List Value} {i : TypeInfo} {zv : Value} {sz n cx Bx ox : Nat}

theorem lw_append [Und P S (.slice e)] [Und P X (.slice X')] [Siz P e sz] [Inf P e i] [Zer P e zv] (hw : Wan ops ρ ⟨d, .call ⟨.builtin .append, #[x, y], #[S, X]⟩, ty, p, af, g⟩) (hx : ev ρ x = v) (hy : ev ρ y = .slice (some ⟨Bx, ox, none⟩) n cx) (hz : zv.cells.size = sz) (hm : Mem h0 h M Lf) (hL : Lf = L1 ++ (Lv ++ L2)) (sh : SlSh sz e v Lv vals)
    (hc : cellsFrom h Bx ox new) (hn : new.length = n * sz) (hone : ∀ u ∈ new, u.oneCell' = true) (hr : (vals.length + new.length) * (i.bytes + 1) ≤ 2 ^ 46) (hsz : 0 < sz) (hpos : 0 < n)
    (hk : ∀ v' Lv' h', SlSh sz e v' Lv' (vals ++ new) → Mem h0 h' M (L1 ++ (Lv' ++ L2)) → LW P E ops K rest (setD ρ d v') h') : LW P E ops K (⟨d, .call ⟨.builtin .append, #[x, y], #[S, X]⟩, ty, p, af, g⟩ :: rest) ρ h := by
  refine ⟨fun w hA => ?_⟩
  obtain ⟨v', w', Lv', h', hrun, hA', hsh, hm'⟩ := run_append (P := P) (ty := ty) hz hm hL sh hc hn hone hr hsz w hA hpos (S := S) (X := X) (cx := cx)
  have := (hk v' Lv' h' hsh hm').out w' hA'
  unfold wpList
  rw [if_pos hw.out]
  refine .inl ?_
  unfold Oper.wp
  rw [eval_mk]
  have hrun' : (execOp (ev ρ) ⟨d, .call ⟨.builtin .append, #[x, y], #[S, X]⟩, ty, p, af, g⟩).run P w = .ok (.value v') w' := by
    simp [execOp, resolve, hx, hy, invoke, builtin, hrun]
  rw [hrun', Oper.upon_value, put_mk]
  exact this

theorem foldl_set (f : Array Value → Value × Nat → Array Value) (hf : ∀ cs c j, f cs (c, j) = cs.setIfInBounds j c) : ∀ (l pre post : List Value), post.length = l.length → ((l.zipIdx pre.length).foldl f (pre ++ post).toArray) = (pre ++ l).toArray
  | [], pre, post, h => by
    have : post = [] := by simpa using h
    simp [this]
  | c :: l, pre, post, h => by
    match post, h with
    | q :: post, h =>
      simp only [List.zipIdx_cons, List.foldl_cons, hf]
      have h1 : (pre ++ q :: post).toArray.setIfInBounds pre.length c = ((pre ++ [c]) ++ post).toArray := by simp
      rw [h1]
      have h2 := foldl_set f hf l (pre ++ [c]) post (by simpa using h)
      simp only [List.length_append, List.length_cons, List.length_nil, Nat.zero_add] at h2
      rw [h2]
      simp
/-- A slice literal of one element. -/
theorem ex_buildSlice1 [Und P T (.slice e)] [Siz P e sz] [Zer P e zv] (hz : zv.cells.size = sz) (hx : ev ρ x = u) (hc : u.cells = cs.toArray) (hn : cs.length = sz) (hs : sz ≤ 2 ^ 24) (hsz : 0 < sz) : Ex P ρ ⟨d, .buildSlice T 1 #[(0, x)], ty, p, af, g⟩ h (.slice (some ⟨h.size, 0, none⟩) 1 1) (h.push (.cells cs.toArray e (0, 0))) := ⟨fun E w hw => by
  have hfill : Instr.fill (fun i => some (i * sz, sz)) ((Array.range (1 * sz)).map (zv.cells[· % zv.cells.size]!)) [(0, u)] = some cs.toArray := by
    simp only [Instr.fill, hc]
    rw [if_neg (by simp [hn])]
    refine congrArg some ?_
    have h3 := foldl_set (fun cs x => cs.setIfInBounds (0 * sz + x.2) x.1) (fun cs c j => by simp) cs [] ((Array.range (1 * sz)).map (zv.cells[· % zv.cells.size]!)).toList (by simp [hn])
    simp only [List.length_nil, List.nil_append, Array.toArray_toList] at h3
    refine Eq.trans ?_ h3
    generalize ((Array.range (1 * sz)).map (zv.cells[· % zv.cells.size]!)) = zz
    rw [← Array.foldl_toList, Array.toList_zipIdx]
  refine ⟨_, _, by
    simp only [execOp, Instr.buildSlice]
    have h4 : ¬ (1 * sz > 2 ^ 24) := by omega
    have h5 : ¬ (1 * sz = 0) := by omega
    simp only [Sem.run_bind, und T w, siz e w, Result.andThen_ok, h4, if_false, h5, zer e w, Sem.run_pure, List.map_toArray, List.map_cons, List.map_nil, hx, hfill, newRow, run_newObj]
    rfl, hw.push, .inl ?_⟩
  rw [hw.1]⟩
theorem lw_buildSlice1 [Und P T (.slice e)] [Siz P e sz] [Zer P e zv] (hw : Wan ops ρ ⟨d, .buildSlice T 1 #[(0, x)], ty, p, af, g⟩) (hz : zv.cells.size = sz) (hx : ev ρ x = u) (hc : u.cells = cs.toArray) (hn : cs.length = sz) (hs : sz ≤ 2 ^ 24) (hsz : 0 < sz) (hm : Mem h0 h M L)
    (hk : ∀ B h, Mem h0 h M ((B, cs, BT.c e) :: L) → LW P E ops K rest (setD ρ d (.slice (some ⟨B, 0, none⟩) 1 1)) h) : LW P E ops K (⟨d, .buildSlice T 1 #[(0, x)], ty, p, af, g⟩ :: rest) ρ h :=
  lw_ex hw (ex_buildSlice1 hz hx hc hn hs hsz) rfl (hk _ _ (hm.push cs e))
end
end Go.Proofs.YtpedmnlpccngiaaDoor.K
namespace Go.Proofs.YtpedmnlpccngiaaDoor.K
open Go

section
variable {P : Program} {f : FuncId} {E : Env} {R : Value → Array Obj → Prop} {kk : List Item} {ops : List Oper} {K : List Value → Array Obj → Prop} {rest : List Oper} {ρ ρ' : List Value} {o : Oper} {h0 h h' : Array Obj} {M L M' L' : List Blk} {v u : Value} {d : Option Tmp} {T ty U e : TypeId} {p : String} {af : Array Edge} {g : Option (Nat × Bool)} {x y z : Operand} {cs cs' : List Value} {n B j off : Nat} {k : IntKind}

/-- A struct or an array is stored over cells in a block's midst: pre and post stay. -/
theorem ex_storeAgg [Siz P T n] {pre old post new : List Value} {fz : TypeId} (hx : ev ρ x = .pointer (some ⟨B, off, none⟩)) (hy : ev ρ y = .agg new.toArray) (hn : new.length = n) (hone : ∀ u ∈ new, u.oneCell' = true) (hb : h[B]? = some (.cells (pre ++ old ++ post).toArray fz (0, 0))) (ho : off = pre.length) (hol : old.length = n) (E : Env) (w : World) (hw : At E h w) :
    ∃ w' h', (execOp (ev ρ) ⟨d, .store T x y, ty, p, af, g⟩).run P w = .ok .skip w' ∧ At E h' w' ∧ h'.size = h.size ∧ (∀ b, b ≠ B → h'[b]? = h[b]?) ∧ h'[B]? = some (.cells (pre ++ new ++ post).toArray fz (0, 0)) := by
  obtain ⟨w', h1, h2, h3, h4, h5, h6, h7⟩ := run_storeCells (P := P) new pre (old ++ post) w B 0 fz hone (by rw [hw.1, hb]; simp) (by simp; omega) off (by omega)
  refine ⟨w', w'.heap, ?_, ⟨rfl, by rw [h2]; exact hw.2.1, by rw [h3]; exact hw.2.2.1, by rw [h4]; exact hw.2.2.2⟩, by rw [h5, hw.1], fun b hb' => by rw [h6 b hb', hw.1], ?_⟩
  · simp [execOp, hx, hy, Instr.storeAt, Instr.sureAddr, storeVar, siz T w, Value.cells, hn, h1]
  · rw [h7]
    have : (old ++ post).drop new.length = post := by rw [hn, ← hol]; simp
    rw [this]
theorem lw_storeAgg_own [Siz P T n] {new : List Value} (hw : Wan ops ρ ⟨d, .store T x y, ty, p, af, g⟩) (hx : ev ρ x = .pointer (some ⟨B, 0, none⟩)) (hy : ev ρ y = .agg new.toArray) (hn : new.length = n) (hone : new.all (fun u => u.oneCell') = true) (hm : Mem h0 h M L) (hj : L[j]? = some (B, cs, BT.c e)) (hol : cs.length = n)
    (hL : L.set j (B, new, BT.c e) = L') (hs : setD ρ d undef = ρ') (hk : ∀ h, Mem h0 h M L' → LW P E ops K rest ρ' h) : LW P E ops K (⟨d, .store T x y, ty, p, af, g⟩ :: rest) ρ h := by
  refine ⟨fun w hA => ?_⟩
  have hb := hm.at_ (B, cs, BT.c e) (by simp [List.mem_of_getElem? hj])
  obtain ⟨w', h', h1, h2, h3, h4, h5⟩ := ex_storeAgg (P := P) (T := T) (n := n) (d := d) (ty := ty) (p := p) (af := af) (g := g) (pre := []) (post := []) (old := cs) (fz := e) hx hy hn (by simpa using hone) (by simpa using hb) rfl hol E w hA
  unfold wpList
  rw [if_pos hw.out]
  refine .inl ?_
  unfold Oper.wp
  rw [eval_mk, h1, Oper.upon_skip, put_mk, hs]
  refine (hk h' ?_).out w' h2
  refine hm.put (j := M.length + j) (cs' := new) (by simpa [List.getElem?_append_right] using hj) h3 h4 (by simpa using h5) ?_ rfl
  rw [← hL, List.set_append_right _ _ (by omega)]
  simp

/-- An element of an array that is a value. -/
theorem pu_index_arr {len : Nat} [Und P T (.array len e)] [Siz P e 1] [Agg P e false] (hx : ev ρ x = .agg cs.toArray) (hy : ev ρ y = .int k (n : Int)) (hn : n < len) (hv : cs[n]? = some v) : Pu P ρ ⟨d, .index T x y, ty, p, af, g⟩ h v := ⟨fun w _ => by
  simp [execOp, hx, hy, Instr.index, asIntOf, und T w, siz e w, agg e w, hn, part, hv]⟩

theorem fill_mono {q q' : Nat → Option (Nat × Nat)} (hq : ∀ i x, q i = some x → q' i = some x) : ∀ (parts : List (Nat × Value)) (z c : Array Value), Instr.fill q z parts = some c → Instr.fill q' z parts = some c
  | [], z, c, h => h
  | (i, v) :: r, z, c, h => by
    simp only [Instr.fill] at h ⊢
    cases hi : q i with
    | none => rw [hi] at h; cases h
    | some x =>
      rw [hi] at h
      rw [hq i x hi]
      simp only at h ⊢
      split
      · rename_i hc; rw [if_pos hc] at h; cases h
      · rename_i hc; rw [if_neg hc] at h; exact fill_mono hq r _ _ h
/-- The same for an array's literal. -/
theorem bld_arr {len : Nat} {pl : List (Nat × Nat)} {z : List Value} (hz : ∀ w, (zeroValue T).run P w = .ok (.agg z.toArray) w) (hu : ∀ w, (underlying T).run P w = .ok (.array len e) w) {sz : Nat} (hs : ∀ w, (sizeOf e).run P w = .ok sz w)
    (hpl : ∀ i x, pl[i]? = some x → x = (i * sz, sz)) : Bld P T pl z := ⟨fun parts cells w h => by
  have h' : Instr.fill (fun i => some (i * sz, sz)) z.toArray parts.toList = some cells := fill_mono (fun i x hx => by rw [hpl i x hx]) _ _ _ h
  simp only [Instr.build, Sem.run_bind, hz, Result.andThen_ok, hu, Value.cells, hs, h']
  rfl⟩

/-- What a function hands back out of memory: a struct or an array. -/
theorem tw_ret_cell {fn : Func} {t : Tmp} [Agg P T true] [Siz P T n] (hf : P.funcs[f]? = some fn) (hr : fn.results = #[.cell t T]) (hv : ev ρ (.tmp t) = .pointer (some ⟨B, off, none⟩)) (hn : cs.length = n) (hc : cellsFrom h B off cs) (hR : R (.agg cs.toArray) h) : TW P f E R (.code .ret :: kk) ρ h := by
  refine tw_ret_any hf (fun w hw => ?_) hR
  have hl := run_loadCellsFrom (P := P) w B off cs 0 #[] (by rw [hw.1]; simpa using hc)
  have ht : (ρ.toArray).getD t undef = .pointer (some ⟨B, off, none⟩) := by simpa [ev] using hv
  simp [results, hr, asAddr, loadVar, loadCells]
  rw [hn] at hl
  simp at ht
  simp [ht, hl, agg T w, siz T w]
end
/-- Of two arrays of three numbers whether they are the same. -/
theorem run_equal_arr3 {P : Program} {T e : TypeId} {k : IntKind} [Und P T (.array 3 e)] [Und P e (.int k)] [Siz P e 1] [Agg P e false] (a0 a1 a2 b0 b1 b2 : Int) (w : World) : (Op.equal T (.agg #[.int k a0, .int k a1, .int k a2]) (.agg #[.int k b0, .int k b1, .int k b2])).run P w = .ok (decide ([a0, a1, a2] = [b0, b1, b2])) w := by
  have key : ∀ d, (Op.equalIn (d + 1 + 1) T (.agg #[.int k a0, .int k a1, .int k a2]) (.agg #[.int k b0, .int k b1, .int k b2])).run P w = .ok (decide ([a0, a1, a2] = [b0, b1, b2])) w := fun d => by
    rw [Op.equalIn]
    have hi : ∀ (a b : Int), (Op.equalIn (d + 1) e (.int k a) (.int k b)).run P w = .ok (a == b) w := fun a b => by simp [Op.equalIn, und e w]
    simp [und T w, siz e w, List.range', agg e w, part, hi]
    by_cases h0 : a0 = b0 <;> by_cases h1 : a1 = b1 <;> by_cases h2 : a2 = b2 <;> simp [h0, h1, h2]
  unfold Op.equal Op.maxDepth
  exact key 9998
theorem pu_eql_arr3 {P : Program} {ρ : List Value} {h : Array Obj} {d : Option Tmp} {T ty U e : TypeId} {p : String} {af : Array Edge} {g : Option (Nat × Bool)} {x y : Operand} {k : IntKind} [Und P T (.array 3 e)] [Und P e (.int k)] [Siz P e 1] [Agg P e false] {a0 a1 a2 b0 b1 b2 : Int} (hx : ev ρ x = .agg #[.int k a0, .int k a1, .int k a2]) (hy : ev ρ y = .agg #[.int k b0, .int k b1, .int k b2]) (hG : P.eqGuardType P.depth T = false) :
    Pu P ρ ⟨d, .binOp .eql T x y U, ty, p, af, g⟩ h (.bool (decide ([a0, a1, a2] = [b0, b1, b2]))) := ⟨fun w _ => by
  have h1 := run_eqGuard_agg (P := P) w .eql T x y #[.int k a0, .int k a1, .int k a2] #[.int k b0, .int k b1, .int k b2] hG
  simp only [execOp, hx, hy, Sem.run_bind, h1, Result.andThen_ok, binOp, run_equal_arr3, Sem.run_pure]⟩
end Go.Proofs.YtpedmnlpccngiaaDoor.K
namespace Go.Proofs.YtpedmnlpccngiaaDoor.K
open Go

theorem mapM_some {α β : Type} {f : α → Option β} : ∀ {l : List α} {ys : List β}, l.mapM f = some ys → ∀ a ∈ l, ∃ y, f a = some y
  | [], _, _, a, ha => by cases ha
  | b :: l, ys, h, a, ha => by
    rw [List.mapM_cons] at h
    cases hb : f b with
    | none => rw [hb] at h; cases h
    | some y =>
      rw [hb] at h
      cases hl : l.mapM f with
      | none => rw [hl] at h; cases h
      | some zs =>
        rcases List.mem_cons.1 ha with rfl | ha
        · exact ⟨y, hb⟩
        · exact mapM_some hl a ha
theorem mapM_get {α β : Type} {f : α → Option β} : ∀ {l : List α} {ys : List β}, l.mapM f = some ys → ys.length = l.length ∧ ∀ i (hi : i < l.length) (hi' : i < ys.length), f l[i] = some ys[i]
  | [], ys, h => by
    rw [List.mapM_nil] at h
    cases h
    exact ⟨rfl, fun i hi => absurd hi (by simp)⟩
  | b :: l, ys, h => by
    rw [List.mapM_cons] at h
    cases hb : f b with
    | none => rw [hb] at h; cases h
    | some y =>
      rw [hb] at h
      cases hl : l.mapM f with
      | none => rw [hl] at h; cases h
      | some zs =>
        rw [hl] at h
        cases h
        obtain ⟨h1, h2⟩ := mapM_get hl
        refine ⟨by simp [h1], fun i hi hi' => ?_⟩
        match i with
        | 0 => exact hb
        | i + 1 => exact h2 i (by simpa using hi) (by simpa using hi')

/-- A slice's block and offset. -/
def blk (q : Option Addr) : Nat := (q.map (·.block)).getD 0
def offs (q : Option Addr) : Nat := (q.map (·.off)).getD 0
theorem cellsFrom_iff {h : Array Obj} {B : Nat} : ∀ {cs : List Value} {off : Nat}, cellsFrom h B off cs ↔ ∀ i v, cs[i]? = some v → cell h ⟨B, off + i, none⟩ = some v
  | [], off => by simp [cellsFrom]
  | c :: cs, off => by
    simp only [cellsFrom]
    rw [cellsFrom_iff]
    constructor
    · rintro ⟨h1, h2⟩ i v hv
      match i with
      | 0 => simp at hv; subst hv; simpa using h1
      | i + 1 => simp at hv; rw [show off + (i + 1) = off + 1 + i by omega]; exact h2 i v hv
    · intro h
      exact ⟨by simpa using h 0 c (by simp), fun i v hv => by rw [show off + 1 + i = off + (i + 1) by omega]; exact h (i + 1) v (by simpa using hv)⟩
theorem cells_of {w : World} {base n : Nat} {a : Addr} {ys : List Value} (h : w.cells? base a n = some ys) : ys.length = n ∧ ∀ i v, ys[i]? = some v → w.cell? (a.add i) = some v := by
  unfold World.cells? at h
  split at h
  · obtain ⟨h1, h2⟩ := mapM_get h
    simp at h1
    refine ⟨h1, fun i v hv => ?_⟩
    obtain ⟨hi, hv'⟩ := List.getElem?_eq_some_iff.1 hv
    have := h2 i (by simp; omega) hi
    rw [hv'] at this
    simpa using this
  · cases h
/-- What a slice's elements' cells tell: where they lie. -/
theorem slice_at {w : World} {base sz i : Nat} {a : Addr} {ys : List Value} (hsz : 0 < sz) (h0 : ∃ zs, w.cells? base (a.add (0 * sz)) sz = some zs) (h : w.cells? base (a.add (i * sz)) sz = some ys) : some a = some ⟨blk (some a), offs (some a), none⟩ ∧ ys.length = sz ∧ cellsFrom w.heap (blk (some a)) (offs (some a) + i * sz) ys := by
  obtain ⟨zs, h0⟩ := h0
  obtain ⟨hl0, hc0⟩ := cells_of h0
  have hz : ∃ v, zs[0]? = some v := ⟨zs[0], by simp⟩
  obtain ⟨v, hv⟩ := hz
  have hcell := hc0 0 v hv
  have hspot : a.spot = none := by
    simp only [Nat.zero_mul, Addr.add, if_true] at hcell
    unfold World.cell? at hcell
    split at hcell
    · cases hs : a.spot with
      | none => rfl
      | some s => rw [hs] at hcell; simp at hcell
    · cases hcell
  have ha : a = ⟨blk (some a), offs (some a), none⟩ := by
    cases a
    simp [blk, offs] at *
    exact hspot
  obtain ⟨hl, hc⟩ := cells_of h
  refine ⟨congrArg some ha, hl, cellsFrom_iff.2 fun j u hu => ?_⟩
  have := hc j u hu
  rw [ha, add_at, add_at] at this
  exact this

section
variable {H : Type} {enc : TypeId × Value → H} {P : Program} {w : World} {base : Nat} {spare : Nat → Bool} {held : Bool} {t e : TypeId} {fuel : Nat} {cs : List Value} {x : DataW H × List MemPlace}

theorem rd_int {k : IntKind} (hu : P.underlying t = some (.int k)) (h : DataW.trod enc P w base spare held fuel t cs = some x) : ∃ n, cs = [.int k n] ∧ (Lit.int k n).wf = true := by
  cases fuel with
  | zero => simp [DataW.trod] at h
  | succ n =>
    unfold DataW.trod at h
    rw [hu] at h
    split at h <;> simp_all
theorem wf_i64 {n : Int} (h : (Lit.int .i64 n).wf = true) : -9223372036854775808 ≤ n ∧ n ≤ 9223372036854775807 := by
  simp [Lit.wf, IntKind.min, IntKind.max, IntKind.signed, IntKind.bits] at h
  omega
theorem rd_string (hu : P.underlying t = some .string) (h : DataW.trod enc P w base spare held fuel t cs = some x) : ∃ l : List UInt8, cs = [bs l] ∧ l.length ≤ maxLen := by
  obtain ⟨s, rfl, _, h3⟩ := DataW.trod_string hu h
  refine ⟨s.data.toList, rfl, ?_⟩
  rw [Array.length_toList]
  exact h3
theorem rd_struct {fs : Array Field} (hu : P.underlying t = some (.struct fs)) (h : DataW.trod enc P w base spare held fuel t cs = some x) : ∃ fuel', cs.length = P.cellsOf t ∧ ∀ f ∈ fs.toList, ∃ y, DataW.trod enc P w base spare held fuel' f.type ((cs.drop f.offset).take (P.cellsOf f.type)) = some y := by
  cases fuel with
  | zero => simp [DataW.trod] at h
  | succ n =>
    refine ⟨n, ?_⟩
    unfold DataW.trod at h
    rw [hu] at h
    split at h <;> try (simp_all; done)
    rename_i fs' cs' he
    simp only [Option.some.injEq, TypeDesc.struct.injEq] at he
    subst he
    split at h
    · rename_i hl
      refine ⟨hl, fun f hf => ?_⟩
      rw [Option.map_eq_some_iff] at h
      obtain ⟨xs, hxs, _⟩ := h
      exact mapM_some hxs f hf
    · simp at h
theorem rd_array {n : Nat} (hu : P.underlying t = some (.array n e)) (h : DataW.trod enc P w base spare held fuel t cs = some x) : ∃ fuel', cs.length = P.cellsOf t ∧ ∀ i, i < n → ∃ y, DataW.trod enc P w base spare held fuel' e ((cs.drop (i * P.cellsOf e)).take (P.cellsOf e)) = some y := by
  cases fuel with
  | zero => simp [DataW.trod] at h
  | succ m =>
    refine ⟨m, ?_⟩
    unfold DataW.trod at h
    rw [hu] at h
    split at h <;> try (simp_all; done)
    rename_i n' e' cs' he
    simp only [Option.some.injEq, TypeDesc.array.injEq] at he
    obtain ⟨rfl, rfl⟩ := he
    split at h
    · rename_i hl
      refine ⟨hl, fun i hi => ?_⟩
      rw [Option.map_eq_some_iff] at h
      obtain ⟨xs, hxs, _⟩ := h
      exact mapM_some hxs i (by simpa using hi)
    · simp at h
theorem rd_slice (hu : P.underlying t = some (.slice e)) (h : DataW.trod enc P w base spare held fuel t cs = some x) : ∃ fuel', cs = [.slice none 0 0] ∨ ∃ a len cap, cs = [.slice (some a) len cap] ∧ len ≤ cap ∧ cap ≤ maxLen ∧ ∀ i, i < len → ∃ ys y, w.cells? base (a.add (i * P.cellsOf e)) (P.cellsOf e) = some ys ∧ DataW.trod enc P w base spare held fuel' e ys = some y := by
  rcases DataW.trod_slice hu h with ⟨rfl, _⟩ | ⟨a, len, cap, elems, rest, n, rfl, rfl, _, _, h1, h2, h3, h4, _⟩
  · exact ⟨0, .inl rfl⟩
  · refine ⟨n, .inr ⟨a, len, cap, rfl, h1, h2, fun i hi => ?_⟩⟩
    have := h4 i hi
    rw [List.getElem?_eq_getElem (by omega)] at this
    obtain ⟨ys, hy1, hy2⟩ := Option.bind_eq_some_iff.1 this
    exact ⟨ys, _, hy1, hy2⟩
end
end Go.Proofs.YtpedmnlpccngiaaDoor.K
namespace Go.Proofs.YtpedmnlpccngiaaDoor.K
open Go

/-- The rows that lie behind a slice's address. -/
def SlR (h : Array Obj) (sz : Nat) (q : Option Addr) (rows : List (List Value)) : Prop :=
  ∀ i r, rows[i]? = some r → q = some ⟨blk q, offs q, none⟩ ∧ cellsFrom h (blk q) (offs q + i * sz) r
theorem cell_lt {h : Array Obj} {a : Addr} {v : Value} (hc : cell h a = some v) : a.block < h.size := by
  unfold cell at hc
  cases hb : h[a.block]? with
  | none => rw [hb] at hc; cases hc
  | some o => exact (Array.getElem?_eq_some_iff.1 hb).1
theorem Ext.cell {h h' : Array Obj} (he : Ext h h') {a : Addr} {v : Value} (hc : cell h a = some v) : K.cell h' a = some v := by
  have h1 := he.2 a.block (cell_lt hc)
  unfold K.cell at hc ⊢
  rw [h1]
  exact hc
theorem Ext.cells {h h' : Array Obj} (he : Ext h h') {B : Nat} : ∀ {cs : List Value} {off : Nat}, cellsFrom h B off cs → cellsFrom h' B off cs
  | [], _, _ => trivial
  | _ :: _, _, ⟨h1, h2⟩ => ⟨he.cell h1, Ext.cells he h2⟩
theorem SlR.ext {h h' : Array Obj} {sz : Nat} {q : Option Addr} {rows : List (List Value)} (hr : SlR h sz q rows) (he : Ext h h') : SlR h' sz q rows :=
  fun i r hi => ⟨(hr i r hi).1, he.cells (hr i r hi).2⟩
theorem SlR.nil (h : Array Obj) (sz : Nat) (q : Option Addr) : SlR h sz q [] := fun i r hi => by simp at hi
theorem SlR.take {h : Array Obj} {sz : Nat} {q : Option Addr} {rows : List (List Value)} (hr : SlR h sz q rows) (n : Nat) : SlR h sz q (rows.take n) :=
  fun i r hi => hr i r (by
    rw [List.getElem?_take] at hi
    split at hi
    · exact hi
    · cases hi)
theorem cells_append {h : Array Obj} {B : Nat} : ∀ {xs ys : List Value} {off : Nat}, cellsFrom h B off xs → cellsFrom h B (off + xs.length) ys → cellsFrom h B off (xs ++ ys)
  | [], _, _, _, h2 => by simpa using h2
  | x :: xs, ys, off, h1, h2 => ⟨h1.1, cells_append h1.2 (by rw [List.length_cons] at h2; rw [Nat.add_right_comm]; exact h2)⟩
theorem SlR.all {h : Array Obj} {sz : Nat} {q : Option Addr} : ∀ {rows : List (List Value)} {off : Nat}, (∀ r ∈ rows, r.length = sz) → (∀ i r, rows[i]? = some r → cellsFrom h (blk q) (off + i * sz) r) → cellsFrom h (blk q) off rows.flatten
  | [], _, _, _ => trivial
  | r :: rows, off, hl, hr => by
    have hlr := hl r (by simp)
    refine cells_append (by simpa using hr 0 r (by simp)) (SlR.all (fun r hr => hl r (by simp [hr])) fun i s hs => ?_)
    have := hr (i + 1) s (by simpa using hs)
    rw [hlr, show off + sz + i * sz = off + (i + 1) * sz by rw [Nat.add_mul]; omega]
    exact this
theorem SlR.flat {h : Array Obj} {sz : Nat} {q : Option Addr} {rows : List (List Value)} (hr : SlR h sz q rows) (hl : ∀ r ∈ rows, r.length = sz) : cellsFrom h (blk q) (offs q) rows.flatten :=
  SlR.all hl fun i r hi => (hr i r hi).2
theorem SlR.known {h : Array Obj} {sz : Nat} {q : Option Addr} {rows : List (List Value)} (hr : SlR h sz q rows) (hn : 0 < rows.length) : q = some ⟨blk q, offs q, none⟩ := (hr 0 rows[0] (by simp)).1
/-- The same for values of a type that is written as rows. -/
theorem SlR.at {α : Type} {f : α → List Value} {h : Array Obj} {sz : Nat} {q : Option Addr} {as : List α} (hr : SlR h sz q (as.map f)) {i : Nat} (hi : i < as.length) :
    ∃ a, as[i]? = some a ∧ q = some ⟨blk q, offs q, none⟩ ∧ cellsFrom h (blk q) (offs q + i * sz) (f a) := by
  refine ⟨as[i], List.getElem?_eq_getElem hi, ?_⟩
  exact hr i (f as[i]) (by rw [List.getElem?_map, List.getElem?_eq_getElem hi]; rfl)

/-- A slice that the call owns, its rows. -/
structure SlO (sz : Nat) (T : TypeId) (q : Option Addr) (n cp : Nat) (Lv : List Blk) (rows : List (List Value)) : Prop where
  sh : SlSh sz T (.slice q n cp) Lv rows.flatten
  len : n = rows.length
  row : ∀ r ∈ rows, r.length = sz
theorem SlO.nil (sz : Nat) (T : TypeId) : SlO sz T none 0 0 [] [] := ⟨SlSh.nil sz T, rfl, by simp⟩
theorem SlO.le {sz : Nat} {T : TypeId} {q : Option Addr} {n cp : Nat} {Lv : List Blk} {rows : List (List Value)} (hs : SlO sz T q n cp Lv rows) : n ≤ cp := by
  rcases hs.sh with ⟨he, _, _⟩ | ⟨_, _, _, _, he, _, _, _, h⟩
  · cases he; exact Nat.le_refl _
  · cases he; exact h
theorem flat_len {sz : Nat} : ∀ {rows : List (List Value)}, (∀ r ∈ rows, r.length = sz) → rows.flatten.length = rows.length * sz
  | [], _ => by simp
  | r :: rows, h => by
    rw [List.flatten_cons, List.length_append, h r (by simp), flat_len (fun r hr => h r (by simp [hr])), List.length_cons, Nat.add_mul]
    omega
theorem flat_split {sz : Nat} : ∀ {rows : List (List Value)} {i : Nat} {r : List Value}, (∀ r ∈ rows, r.length = sz) → rows[i]? = some r → ∃ pre post, rows.flatten = pre ++ r ++ post ∧ pre.length = i * sz
  | [], i, r, _, h => by simp at h
  | x :: rows, 0, r, hl, h => by
    simp at h
    subst h
    exact ⟨[], rows.flatten, by simp, by simp⟩
  | x :: rows, i + 1, r, hl, h => by
    obtain ⟨pre, post, h1, h2⟩ := flat_split (rows := rows) (i := i) (fun r hr => hl r (by simp [hr])) (by simpa using h)
    exact ⟨x ++ pre, post, by simp [h1], by simp [h2, hl x (by simp), Nat.add_mul]; omega⟩
theorem SlO.rd {h0 h : Array Obj} {M L Lv : List Blk} {sz n cp : Nat} {T : TypeId} {q : Option Addr} {rows : List (List Value)} (hs : SlO sz T q n cp Lv rows) (hm : Mem h0 h M L) (hsub : ∀ p ∈ Lv, p ∈ M ++ L) : SlR h sz q rows := by
  intro i r hi
  obtain ⟨pre, post, h1, h2⟩ := flat_split hs.row hi
  rcases hs.sh with ⟨he, _, hv⟩ | ⟨B, n', cap, spare, he, hL, hn, hc, hle⟩
  · have hn : n = 0 := by cases he; rfl
    have hl := hs.len
    have := (List.getElem?_eq_some_iff.1 hi).1
    omega
  · cases he
    refine ⟨rfl, ?_⟩
    have hb := hm.at_ _ (hsub (B, rows.flatten ++ spare, BT.c T) (by rw [hL]; simp))
    rw [h1] at hb
    exact cells_of_row r pre (post ++ spare) _ (by show h[B]? = _; simpa using hb) (by simp [offs, h2])

/-- Blocks that a callee makes, behind those that are known. -/
theorem Mem.join {h0 h h' : Array Obj} {M L L' : List Blk} (hm : Mem h0 h M L) (hc : Mem h h' [] L') : Mem h0 h' M (L ++ L') := by
  have he := hc.ext
  refine ⟨Nat.le_trans hm.size he.1, fun b hb hM => (he.2 b (Nat.lt_of_lt_of_le hb hm.size)).trans (hm.old b hb hM), fun p hp => ?_, fun p hp => ?_, ?_⟩
  · rw [← List.append_assoc] at hp
    rcases List.mem_append.1 hp with hp | hp
    · exact (he.2 _ (hm.lt hp)).trans (hm.at_ p hp)
    · exact hc.at_ p (by simpa using hp)
  · rcases List.mem_append.1 hp with hp | hp
    · exact hm.new p hp
    · exact Nat.le_trans hm.size (hc.new p hp)
  · rw [← List.append_assoc, List.map_append, List.nodup_append]
    refine ⟨hm.nodup, by simpa using hc.nodup, fun a ha b hb hab => ?_⟩
    obtain ⟨p, hp, rfl⟩ := List.mem_map.1 ha
    obtain ⟨r, hr, rfl⟩ := List.mem_map.1 hb
    have h1 := hm.lt hp
    have h2 := hc.new r hr
    omega
theorem Mem.tl {h0 h : Array Obj} {M L : List Blk} {x : Blk} (hm : Mem h0 h M (x :: L)) : Mem h0 h M L := hm.sub (List.sublist_cons_self _ _)
theorem Mem.trans0 {h0 h h' : Array Obj} {L : List Blk} (he : Ext h0 h) (hc : Mem h h' [] L) : Mem h0 h' [] L := by
  simpa using (Mem.of_ext he).join hc

section
variable {P : Program} {E : Env} {ops : List Oper} {K : List Value → Array Obj → Prop} {rest : List Oper} {ρ ρ' : List Value} {o : Oper} {h0 h h' : Array Obj} {M L M' L' L1 L2 Lv Lf : List Blk} {v u : Value} {d : Option Tmp} {T ty S X e : TypeId} {p : String} {af : Array Edge} {g : Option (Nat × Bool)} {x y z : Operand} {cs vals new : List Value} {i : TypeInfo} {zv : Value} {sz n m cp Bx ox : Nat} {q : Option Addr} {k : IntKind} {rows : List (List Value)}

theorem pu_indexAddrQ [Und P T (.slice e)] [Siz P e sz] {len : Nat} (hx : ev ρ x = .slice q len cp) (hy : ev ρ y = .int k (n : Int)) (hn : n < len) (hq : q = some ⟨blk q, offs q, none⟩) : Pu P ρ ⟨d, .indexAddr T x y, ty, p, af, g⟩ h (.pointer (some ⟨blk q, offs q + n * sz, none⟩)) :=
  pu_indexAddr (by rw [hx, ← hq]) hy hn
theorem pu_slicesl_hi [Und P T (.slice e)] [Siz P e sz] (hx : ev ρ x = .slice q n cp) (hy : ev ρ y = .int k (m : Int)) (hm : m ≤ cp) (hq : q = some ⟨blk q, offs q, none⟩) : Pu P ρ ⟨d, .slice T x none (some y) none, ty, p, af, g⟩ h (.slice q m cp) := ⟨fun w _ => by
  obtain ⟨a, ha⟩ : ∃ a, q = some a := ⟨_, hq⟩
  subst ha
  have ha : a.add 0 = a := by simp [Addr.add]
  simp [execOp, hx, hy, Instr.sliceAt, Instr.slice, und T w, siz e w, Instr.sliceBounds, Instr.sliceBound, asIntOf, hm, ha]⟩
theorem lw_calo {gg : FuncId} {xs : List Operand} {ta : Array TypeId} {Q : Value → List Blk → Prop} [Cal P gg] (hw : Wan ops ρ ⟨d, .call ⟨.value (.func gg), xs.toArray, ta⟩, ty, p, af, g⟩) (hc : Ret P gg (xs.map (ev ρ)) h fun v' h' => ∃ L', Q v' L' ∧ Mem h h' [] L') (hm : Mem h0 h M L)
    (hk : ∀ v h L', Q v L' → Mem h0 h M (L ++ L') → LW P E ops K rest (setD ρ d v) h) : LW P E ops K (⟨d, .call ⟨.value (.func gg), xs.toArray, ta⟩, ty, p, af, g⟩ :: rest) ρ h :=
  lw_cal hw hc fun _ _ ⟨_, hq, hh⟩ => hk _ _ _ hq (hm.join hh)

/-- append of one row to a slice that the call owns. -/
theorem lw_append1 {X' : TypeId} [Und P S (.slice e)] [Und P X (.slice X')] [Siz P e sz] [Inf P e i] [Zer P e zv] (hw : Wan ops ρ ⟨d, .call ⟨.builtin .append, #[x, y], #[S, X]⟩, ty, p, af, g⟩) (hx : ev ρ x = .slice q n cp) (hy : ev ρ y = .slice (some ⟨Bx, ox, none⟩) 1 1) (hz : zv.cells.size = sz) (hm : Mem h0 h M Lf) (hs : SlO sz e q n cp Lv rows) (hL : Lf = L1 ++ (Lv ++ L2))
    (hc : cellsFrom h Bx ox new) (hn : new.length = sz) (hone : ∀ u ∈ new, u.oneCell' = true) (hsz : 0 < sz) (hb : i.bytes ≤ 300) (hr : (n + 1) * sz ≤ 2 ^ 36)
    (hk : ∀ q' cp' Lv' h', SlO sz e q' (n + 1) cp' Lv' (rows ++ [new]) → Mem h0 h' M (L1 ++ (Lv' ++ L2)) → LW P E ops K rest (setD ρ d (.slice q' (n + 1) cp')) h') : LW P E ops K (⟨d, .call ⟨.builtin .append, #[x, y], #[S, X]⟩, ty, p, af, g⟩ :: rest) ρ h := by
  have hfl := flat_len hs.row
  have hln := hs.len
  refine lw_append hw hx hy hz hm hL hs.sh hc (by rw [hn]; simp) hone ?_ hsz Nat.one_pos fun v' Lv' h' hsh hm' => ?_
  · rw [hfl, hn, ← hln]
    have h1 : n * sz + sz = (n + 1) * sz := by rw [Nat.add_mul]; omega
    rw [h1]
    have h2 : (n + 1) * sz * (i.bytes + 1) ≤ 2 ^ 36 * 301 := Nat.mul_le_mul hr (by omega)
    omega
  · have hv : ∃ q' cp', v' = .slice q' (n + 1) cp' := by
      rcases hsh with ⟨rfl, _, h1⟩ | ⟨B, n', cap, spare, rfl, _, h1, _, _⟩
      · have := congrArg List.length h1
        simp [hn] at this
        omega
      · have h2 : n' * sz = (n + 1) * sz := by rw [h1, List.length_append, hfl, hn, ← hln, Nat.add_mul]; omega
        have := Nat.eq_of_mul_eq_mul_right hsz h2
        exact ⟨_, _, by rw [this]⟩
    obtain ⟨q', cp', rfl⟩ := hv
    exact hk q' cp' Lv' h' ⟨by simpa using hsh, by simp [hln], fun r hr => by
      rcases List.mem_append.1 hr with hr | hr
      · exact hs.row r hr
      · rw [List.mem_singleton.1 hr]; exact hn⟩ hm'
theorem lw_append1t {X' : TypeId} [Und P S (.slice e)] [Und P X (.slice X')] [Siz P e sz] [Inf P e i] [Zer P e zv] (hw : Wan ops ρ ⟨d, .call ⟨.builtin .append, #[x, y], #[S, X]⟩, ty, p, af, g⟩) (hx : ev ρ x = .slice q n cp) (hy : ev ρ y = .slice (some ⟨Bx, ox, none⟩) 1 1) (hz : zv.cells.size = sz) (hm : Mem h0 h M Lf) (hs : SlO sz e q n cp Lv rows) (hL : Lf = L1 ++ Lv)
    (hc : cellsFrom h Bx ox new) (hn : new.length = sz) (hone : ∀ u ∈ new, u.oneCell' = true) (hsz : 0 < sz) (hb : i.bytes ≤ 300) (hr : (n + 1) * sz ≤ 2 ^ 36)
    (hk : ∀ q' cp' Lv' h', SlO sz e q' (n + 1) cp' Lv' (rows ++ [new]) → Mem h0 h' M (L1 ++ Lv') → LW P E ops K rest (setD ρ d (.slice q' (n + 1) cp')) h') : LW P E ops K (⟨d, .call ⟨.builtin .append, #[x, y], #[S, X]⟩, ty, p, af, g⟩ :: rest) ρ h :=
  lw_append1 (L1 := L1) (L2 := []) hw hx hy hz hm hs (by rw [hL]; simp) hc hn hone hsz hb hr fun q' cp' Lv' h' h1 h2 => hk q' cp' Lv' h' h1 (by simpa using h2)
/-- append of rows that lie somewhere, none may be there. -/
theorem lw_appendR {X' : TypeId} [Und P S (.slice e)] [Und P X (.slice X')] [Siz P e sz] [Inf P e i] [Zer P e zv] {qx : Option Addr} {nx cx : Nat} {news : List (List Value)} (hw : Wan ops ρ ⟨d, .call ⟨.builtin .append, #[x, y], #[S, X]⟩, ty, p, af, g⟩) (hx : ev ρ x = .slice q n cp) (hy : ev ρ y = .slice qx nx cx) (hz : zv.cells.size = sz) (hm : Mem h0 h M Lf) (hs : SlO sz e q n cp Lv rows) (hL : Lf = L1 ++ Lv)
    (hrd : cellsFrom h (blk qx) (offs qx) news.flatten) (hq : 0 < nx → qx = some ⟨blk qx, offs qx, none⟩) (hnx : nx = news.length) (hn : ∀ r ∈ news, r.length = sz) (hone : ∀ r ∈ news, ∀ u ∈ r, u.oneCell' = true) (hsz : 0 < sz) (hb : i.bytes ≤ 300) (hr : (n + nx) * sz ≤ 2 ^ 36)
    (hk : ∀ q' cp' Lv' h', SlO sz e q' (n + nx) cp' Lv' (rows ++ news) → Mem h0 h' M (L1 ++ Lv') → LW P E ops K rest (setD ρ d (.slice q' (n + nx) cp')) h') : LW P E ops K (⟨d, .call ⟨.builtin .append, #[x, y], #[S, X]⟩, ty, p, af, g⟩ :: rest) ρ h := by
  have hfl := flat_len hs.row
  have hln := hs.len
  have hfn := flat_len hn
  rcases Nat.eq_zero_or_pos nx with h0 | hpos
  · have hnil : news = [] := List.eq_nil_of_length_eq_zero (by omega)
    subst hnil
    have hle : n ≤ cp := by
      rcases hs.sh with ⟨he, _, _⟩ | ⟨_, _, _, _, he, _, _, _, h⟩
      · cases he; exact Nat.le_refl _
      · cases he; exact h
    refine ⟨fun w hA => ?_⟩
    have hfc : (Builtin.firstCells sz 0 (.slice qx 0 cx)).run P w = .ok #[] w := by
      cases qx <;> simp [Builtin.firstCells, loadCells, loadCellsFrom]
    have hrun : (Builtin.append_ #[S, X] ty #[.slice q n cp, .slice qx 0 cx]).run P w = .ok (.slice q n cp) w := by
      simp only [Builtin.append_]
      cases q <;> simp [und S w, und X w, siz e w, Builtin.lenOf, hle, hfc, storeCells]
    have := (hk q cp Lv h (by simpa [h0] using hs) (by rw [← hL]; exact hm)).out w hA
    unfold wpList
    rw [if_pos hw.out]
    refine .inl ?_
    unfold Oper.wp
    rw [eval_mk]
    have hrun' : (execOp (ev ρ) ⟨d, .call ⟨.builtin .append, #[x, y], #[S, X]⟩, ty, p, af, g⟩).run P w = .ok (.value (.slice q n cp)) w := by
      simp [execOp, resolve, hx, hy, h0, invoke, builtin, hrun]
    rw [hrun', Oper.upon_value, put_mk]
    simpa [h0] using this
  · refine lw_append (L1 := L1) (Lv := Lv) (L2 := []) hw hx (by rw [hy, ← hq hpos]) hz hm (by rw [hL]; simp) hs.sh hrd (by rw [hfn, hnx]) (fun u hu => by
      obtain ⟨r, hr1, hr2⟩ := List.mem_flatten.1 hu
      exact hone r hr1 u hr2) ?_ hsz hpos fun v' Lv' h' hsh hm' => ?_
    · rw [hfl, hfn, ← hln, ← hnx, ← Nat.add_mul]
      have h2 : (n + nx) * sz * (i.bytes + 1) ≤ 2 ^ 36 * 301 := Nat.mul_le_mul hr (by omega)
      omega
    · have hv : ∃ q' cp', v' = .slice q' (n + nx) cp' := by
        rcases hsh with ⟨rfl, _, h1⟩ | ⟨B, n', cap, spare, rfl, _, h1, _, _⟩
        · have := congrArg List.length h1
          have h3 : 0 < nx * sz := Nat.mul_pos hpos hsz
          simp [hfn, ← hnx] at this
          omega
        · have h2 : n' * sz = (n + nx) * sz := by rw [h1, List.length_append, hfl, hfn, ← hln, ← hnx, Nat.add_mul]
          have := Nat.eq_of_mul_eq_mul_right hsz h2
          exact ⟨_, _, by rw [this]⟩
      obtain ⟨q', cp', rfl⟩ := hv
      exact hk q' cp' Lv' h' ⟨by simpa using hsh, by simp [hln, hnx], fun r hr => by
        rcases List.mem_append.1 hr with hr | hr
        · exact hs.row r hr
        · exact hn r hr⟩ (by simpa using hm')
/-- A slice literal of no element. -/
theorem ex_buildSlice0 [Und P T (.slice e)] [Siz P e sz] : Ex P ρ ⟨d, .buildSlice T 0 #[], ty, p, af, g⟩ h (.slice (some ⟨h.size, 0, none⟩) 0 0) (h.push (.cells #[] e (0, 0))) := ⟨fun E w hw => by
  refine ⟨_, _, by
    simp [execOp, Instr.buildSlice, und T w, siz e w, Instr.fill, newRow]
    exact ⟨rfl, congrArg (fun a => w.alloc (Obj.cells a e)) (Array.ext' (by simp))⟩, hw.push, .inl ?_⟩
  rw [hw.1]⟩
theorem lw_buildSlice0 [Und P T (.slice e)] [Siz P e sz] (hw : Wan ops ρ ⟨d, .buildSlice T 0 #[], ty, p, af, g⟩) (hm : Mem h0 h M L)
    (hk : ∀ q Lv h, SlO sz e q 0 0 Lv [] → Mem h0 h M (L ++ Lv) → LW P E ops K rest (setD ρ d (.slice q 0 0)) h) : LW P E ops K (⟨d, .buildSlice T 0 #[], ty, p, af, g⟩ :: rest) ρ h :=
  lw_ex hw ex_buildSlice0 rfl (hk _ [(h.size, [], BT.c e)] _ ⟨.inr ⟨h.size, 0, 0, [], rfl, rfl, by simp, by simp, Nat.le_refl _⟩, rfl, by simp⟩ ((hm.push [] e).perm (List.perm_append_comm (l₁ := L) (l₂ := [(h.size, [], BT.c e)]))))
theorem pu_field {fi ft fo : Nat} [F : Fld P T fi ft fo] [Agg P ft false] (hx : ev ρ x = .agg cs.toArray) (hv : cs[fo]? = some v) : Pu P ρ ⟨d, .field T x fi, ty, p, af, g⟩ h v := ⟨fun w _ => by
  obtain ⟨fs, f, hu, hf, rfl, rfl⟩ := F.out
  simp [execOp, hx, Instr.field, run_underlying hu, hf, asAgg, part, agg f.type w, hv]⟩
theorem flat_set {sz : Nat} : ∀ {rows : List (List Value)} {i o : Nat} {r : List Value} {v : Value}, (∀ r ∈ rows, r.length = sz) → rows[i]? = some r → o < sz → rows.flatten.set (i * sz + o) v = (rows.set i (r.set o v)).flatten
  | [], i, o, r, v, _, h, _ => by simp at h
  | x :: rows, 0, o, r, v, hl, h, ho => by
    simp at h
    subst h
    have := hl x (by simp)
    simp [this, ho]
  | x :: rows, i + 1, o, r, v, hl, h, ho => by
    have h1 := flat_set (rows := rows) (i := i) (o := o) (r := r) (v := v) (fun r hr => hl r (by simp [hr])) (by simpa using h) ho
    have h2 := hl x (by simp)
    have h3 : (i + 1) * sz + o = x.length + (i * sz + o) := by rw [h2, Nat.add_mul]; omega
    simp only [List.flatten_cons, List.set_cons_succ]
    rw [h3, List.set_append_right _ _ (by omega), ← h1]
    congr 2
    omega
/-- A store into a row of a slice that the call owns. -/
theorem lw_store_row [Siz P T 1] {i o : Nat} {r : List Value} (hw : Wan ops ρ ⟨d, .store T x y, ty, p, af, g⟩) (hx : ev ρ x = .pointer (some ⟨blk q, offs q + i * sz + o, none⟩)) (hy : ev ρ y = v) (hv : v.oneCell' = true) (hm : Mem h0 h M Lf) (hs : SlO sz e q n cp Lv rows) (hL : Lf = L1 ++ Lv)
    (hi : rows[i]? = some r) (ho : o < sz) (hk : ∀ Lv' h, SlO sz e q n cp Lv' (rows.set i (r.set o v)) → Mem h0 h M (L1 ++ Lv') → LW P E ops K rest (setD ρ d undef) h) : LW P E ops K (⟨d, .store T x y, ty, p, af, g⟩ :: rest) ρ h := by
  have hrow := hs.row
  have hin := (List.getElem?_eq_some_iff.1 hi).1
  have hlen := hs.len
  have hfl := flat_len hs.row
  rcases hs.sh with ⟨he, _, hv⟩ | ⟨B, n', cap, spare, he, hLv, hn, hc, hle⟩
  · have hn : n = 0 := by cases he; rfl
    omega
  · cases he
    subst hLv
    have hlt : i * sz + o < rows.flatten.length := by
      rw [hfl]
      have := Nat.mul_le_mul_right sz hin
      rw [Nat.succ_mul] at this
      omega
    refine lw_store_own (j := L1.length) (B := B) (off := i * sz + o) (cs := rows.flatten ++ spare) (e := e) hw (by rw [hx]; simp [blk, offs]) hy hv hm (by rw [hL]; simp) (by rw [List.length_append]; omega) rfl rfl fun h hm' => ?_
    have h1 : (rows.flatten ++ spare).set (i * sz + o) v = (rows.set i (r.set o v)).flatten ++ spare := by
      rw [List.set_append_left _ _ hlt, flat_set hrow hi ho]
    refine hk [(B, (rows.set i (r.set o v)).flatten ++ spare, BT.c e)] h ⟨.inr ⟨B, n, cp, spare, rfl, rfl, ?_, ?_, hle⟩, by simp [hlen], fun r' hr' => ?_⟩ ?_
    · rw [hn, ← flat_set hrow hi ho, List.length_set]
    · rw [hc, ← flat_set hrow hi ho, List.length_set]
    · rcases List.mem_or_eq_of_mem_set hr' with h2 | h2
      · exact hrow r' h2
      · rw [h2, List.length_set]; exact hrow r (List.mem_of_getElem? hi)
    · rw [hL, List.set_append_right _ _ (Nat.le_refl _), h1] at hm'
      simpa using hm'
/-! Addresses are compared with nil. -/
theorem equal_pn [Und P T (.pointer e)] (q : Option Addr) (w : World) : (Op.equal T (.pointer q) (.pointer none)).run P w = .ok (decide (q = none)) w := by
  unfold Op.equal Op.maxDepth Op.equalIn
  cases q <;> simp [und T w]
theorem pu_eql_pt [Und P T (.pointer e)] {U : TypeId} (hx : ev ρ x = .pointer q) (hy : ev ρ y = .pointer none) : Pu P ρ ⟨d, .binOp .eql T x y U, ty, p, af, g⟩ h (.bool (decide (q = none))) := ⟨fun w _ => by
  simp [execOp, guard_ptr, hx, hy, binOp, equal_pn]⟩
theorem pu_neq_pt [Und P T (.pointer e)] {U : TypeId} (hx : ev ρ x = .pointer q) (hy : ev ρ y = .pointer none) : Pu P ρ ⟨d, .binOp .neq T x y U, ty, p, af, g⟩ h (.bool (decide (q ≠ none))) := ⟨fun w _ => by
  simp [execOp, guard_ptr, hx, hy, binOp, equal_pn]⟩
/-! Structs of two texts are compared. -/
theorem run_equal_ss {f0 f1 : Field} (hu : P.underlying T = some (.struct #[f0, f1])) (hp : P.stoodInHeld T = false) (n0 : f0.name ≠ "_") (n1 : f1.name ≠ "_") (o0 : f0.offset = 0) (o1 : f1.offset = 1) (u0 : P.underlying f0.type = some .string) (u1 : P.underlying f1.type = some .string) (a0 : ∀ w, (isAgg f0.type).run P w = .ok false w) (a1 : ∀ w, (isAgg f1.type).run P w = .ok false w) (a b c e : List UInt8) (w : World) :
    (Op.equalIn 10000 T (.agg #[bs a, bs b]) (.agg #[bs c, bs e])).run P w = .ok (decide ((a, b) = (c, e))) w := by
  have hf : P.fieldsOf T = #[f0, f1] := by unfold Program.fieldsOf; rw [hu]
  rw [run_equalIn_struct w 9999 T _ _ (by rw [hf]; exact hu) hp, hf]
  have hbb : ∀ x y : List UInt8, ((ByteArray.mk x.toArray) == (ByteArray.mk y.toArray)) = decide (x = y) := fun x y => by
    show ((x.toArray : Array UInt8) == y.toArray) = _
    rw [Bool.eq_iff_iff, beq_iff_eq, decide_eq_true_iff]
    simp
  have hs : ∀ (d : Nat) (t : TypeId) (x y : List UInt8) (w : World), P.underlying t = some .string → (Op.equalIn (d + 1) t (bs x) (bs y)).run P w = .ok (decide (x = y)) w := fun d t x y w ht => by
    rw [Op.equalIn]
    simp only [Sem.run_bind, run_underlying ht, Result.andThen_ok, Sem.run_pure, hbb]
  have q0 : ∀ x y w, (Op.equalIn 9999 f0.type (bs x) (bs y)).run P w = .ok (decide (x = y)) w := fun x y w => hs 9998 _ x y w u0
  have q1 : ∀ x y w, (Op.equalIn 9999 f1.type (bs x) (bs y)).run P w = .ok (decide (x = y)) w := fun x y w => hs 9998 _ x y w u1
  have e0 : ∀ (x y : Value), (#[x, y] : Array Value)[0]? = some x := fun _ _ => rfl
  have e1 : ∀ (x y : Value), (#[x, y] : Array Value)[1]? = some y := fun _ _ => rfl
  simp only [Op.eqFields, n0, n1, ne_eq, not_false_eq_true, if_true, o0, o1, part, Sem.run_bind, a0, a1, Result.andThen_ok, Bool.false_eq_true, if_false, e0, e1, Sem.run_pure, q0, q1, Sem.run_ite]
  by_cases h0 : a = c <;> by_cases h1 : b = e <;> simp [h0, h1]
theorem pu_neq_ss {f0 f1 : Field} (hu : P.underlying T = some (.struct #[f0, f1])) (hp : P.stoodInHeld T = false) (hG : P.eqGuardType P.depth T = false) (n0 : f0.name ≠ "_") (n1 : f1.name ≠ "_") (o0 : f0.offset = 0) (o1 : f1.offset = 1) (u0 : P.underlying f0.type = some .string) (u1 : P.underlying f1.type = some .string) (a0 : ∀ w, (isAgg f0.type).run P w = .ok false w) (a1 : ∀ w, (isAgg f1.type).run P w = .ok false w) {a b c e : List UInt8} {U : TypeId}
    (hx : ev ρ x = .agg #[bs a, bs b]) (hy : ev ρ y = .agg #[bs c, bs e]) : Pu P ρ ⟨d, .binOp .neq T x y U, ty, p, af, g⟩ h (.bool (decide ((a, b) ≠ (c, e)))) := ⟨fun w _ => by
  have h1 := run_eqGuard_agg (P := P) w .neq T x y #[bs a, bs b] #[bs c, bs e] hG
  have h2 := run_neq_struct (P := P) w T #[bs a, bs b] #[bs c, bs e]
  rw [run_equal_ss hu hp n0 n1 o0 o1 u0 u1 a0 a1] at h2
  simp only [execOp, hx, hy, Sem.run_bind, h1, Result.andThen_ok, h2, Sem.run_pure, decide_not]⟩
end
end Go.Proofs.YtpedmnlpccngiaaDoor.K
namespace Go.Proofs.YtpedmnlpccngiaaDoor.K
open Go Go.WideShapes

theorem rows_exist {α : Type} (R : Nat → α → Prop) : ∀ (n : Nat), (∀ i, i < n → ∃ a, R i a) → ∃ l : List α, l.length = n ∧ ∀ i a, l[i]? = some a → R i a
  | 0, _ => ⟨[], rfl, fun i a h => by simp at h⟩
  | n + 1, h => by
    obtain ⟨l, h1, h2⟩ := rows_exist R n (fun i hi => h i (by omega))
    obtain ⟨a, ha⟩ := h n (by omega)
    refine ⟨l ++ [a], by simp [h1], fun i b hb => ?_⟩
    rcases Nat.lt_or_ge i l.length with h3 | h3
    · rw [List.getElem?_append_left h3] at hb
      exact h2 i b hb
    · rw [List.getElem?_append_right h3] at hb
      have h4 : i - l.length = 0 := by
        have := (List.getElem?_eq_some_iff.1 hb).1
        simp at this
        omega
      rw [h4] at hb
      simp at hb
      subst hb
      have : i = n := by omega
      subst this
      exact ha

section
variable {H : Type} {enc : TypeId × Value → H} {P : Program} {w : World} {base b0 sz : Nat} {spare : Nat → Bool} {held : Bool} {t e : TypeId} {v : Value} {d : DataW H} {ps : List MemPlace}
/-- A slice whose elements read as values of a type that is written as rows. -/
theorem slice_trod {α : Type} {fuel : Nat} {cs : List Value} {x : DataW H × List MemPlace} (f : α → List Value) (ok : α → Prop) (hu : P.underlying t = some (.slice e)) (hc : P.cellsOf e = sz) (hsz : 0 < sz) (hd : DataW.trod enc P w base spare held fuel t cs = some x)
    (hel : ∀ (fuel : Nat) (ys : List Value) (y : DataW H × List MemPlace), ys.length = sz → DataW.trod enc P w base spare held fuel e ys = some y → ∃ a, ys = f a ∧ ok a) : ∃ (xs : List α) (q : Option Addr) (cp : Nat), cs = [.slice q xs.length cp] ∧ xs.length ≤ maxLen ∧ (∀ a ∈ xs, ok a) ∧ SlR w.heap sz q (xs.map f) := by
  obtain ⟨fu, hs⟩ := rd_slice hu hd
  rcases hs with rfl | ⟨a, len, cap, rfl, h1, h2, h3⟩
  · exact ⟨[], none, 0, rfl, Nat.zero_le _, by simp, SlR.nil _ _ _⟩
  · rw [hc] at h3
    obtain ⟨xs, hl, hx⟩ := rows_exist (fun i (x : α) => ok x ∧ (some a = some ⟨blk (some a), offs (some a), none⟩ ∧ cellsFrom w.heap (blk (some a)) (offs (some a) + i * sz) (f x))) len (fun i hi => by
      obtain ⟨ys, y, hy1, hy2⟩ := h3 i hi
      obtain ⟨zs, z, hz1, hz2⟩ := h3 0 (by omega)
      obtain ⟨g1, g2, g3⟩ := slice_at hsz ⟨zs, hz1⟩ hy1
      obtain ⟨x, rfl, hok⟩ := hel fu ys y g2 hy2
      exact ⟨x, hok, g1, g3⟩)
    refine ⟨xs, some a, cap, by rw [hl], by omega, fun x hxm => ?_, fun i r hr => ?_⟩
    · obtain ⟨i, hi⟩ := List.mem_iff_getElem?.1 hxm
      exact (hx i x hi).1
    · rw [List.getElem?_map] at hr
      cases hxi : xs[i]? with
      | none => rw [hxi] at hr; cases hr
      | some x =>
        rw [hxi] at hr
        cases hr
        exact (hx i x hxi).2
theorem slice_arg {α : Type} (f : α → List Value) (ok : α → Prop) (hu : P.underlying t = some (.slice e)) (hc : P.cellsOf e = sz) (hsz : 0 < sz) (hval : Value.okWide P w .any b0 t v) (hd : DataW.Trod enc P w base spare held t v d ps)
    (hel : ∀ (fuel : Nat) (ys : List Value) (y : DataW H × List MemPlace), ys.length = sz → DataW.trod enc P w base spare held fuel e ys = some y → ∃ a, ys = f a ∧ ok a) : ∃ (xs : List α) (q : Option Addr) (cp : Nat), v = .slice q xs.length cp ∧ xs.length ≤ maxLen ∧ (∀ a ∈ xs, ok a) ∧ SlR w.heap sz q (xs.map f) := by
  obtain ⟨q0, len0, cap0, rfl⟩ := okWide_slice hu hval
  obtain ⟨fuel, hf⟩ := hd
  obtain ⟨xs, q, cp, h1, h2⟩ := slice_trod f ok hu hc hsz hf hel
  simp [Value.cells] at h1
  obtain ⟨rfl, rfl, rfl⟩ := h1
  exact ⟨xs, _, _, rfl, h2⟩
/-- A struct of two texts. -/
theorem struct_ss {f0 f1 : Field} {fuel : Nat} {ys : List Value} {y : DataW H × List MemPlace} (hu : P.underlying t = some (.struct #[f0, f1])) (hc : P.cellsOf t = 2) (o0 : f0.offset = 0) (o1 : f1.offset = 1) (u0 : P.underlying f0.type = some .string) (u1 : P.underlying f1.type = some .string) (c0 : P.cellsOf f0.type = 1) (c1 : P.cellsOf f1.type = 1)
    (h : DataW.trod enc P w base spare held fuel t ys = some y) : ∃ a : List UInt8 × List UInt8, ys = [bs a.1, bs a.2] ∧ a.1.length ≤ maxLen ∧ a.2.length ≤ maxLen := by
  obtain ⟨fu, h1, h2⟩ := rd_struct hu h
  rw [hc] at h1
  match ys, h1 with
  | [x, z], _ =>
    obtain ⟨y0, hy0⟩ := h2 f0 (by simp)
    obtain ⟨y1, hy1⟩ := h2 f1 (by simp)
    rw [o0, c0] at hy0
    rw [o1, c1] at hy1
    obtain ⟨l0, hl0, hm0⟩ := rd_string u0 hy0
    obtain ⟨l1, hl1, hm1⟩ := rd_string u1 hy1
    simp at hl0 hl1
    exact ⟨(l0, l1), by rw [hl0, hl1], hm0, hm1⟩
end
end Go.Proofs.YtpedmnlpccngiaaDoor.K
namespace Go.Proofs.YtpedmnlpccngiaaDoor.K
open Go

section
variable {P : Program} {E : Env} {ops : List Oper} {ρ ρ' : List Value} {h : Array Obj} {d : Option Tmp} {T ty U S D e : TypeId} {p : String} {af : Array Edge} {g : Option (Nat × Bool)} {x y z : Operand} {k k' k0 : IntKind} {a b : Int}
theorem pu_rem (hx : ev ρ x = .int k a) (hy : ev ρ y = .int k b) (hb : b ≠ 0) : Pu P ρ ⟨d, .binOp .rem T x y U, ty, p, af, g⟩ h (.int k (a.tmod b)) := ⟨fun w _ => by
  simp [execOp, guard_int, hx, hy, binOp, Op.intDiv, hb]⟩
theorem pu_remn {m n : Nat} (hx : ev ρ x = .int k (m : Int)) (hy : ev ρ y = .int k (n : Int)) (hn : 0 < n) : Pu P ρ ⟨d, .binOp .rem T x y U, ty, p, af, g⟩ h (.int k ((m % n : Nat) : Int)) := by
  have := pu_rem (P := P) (h := h) (d := d) (T := T) (U := U) (ty := ty) (p := p) (af := af) (g := g) hx hy (by omega)
  rwa [show ((m : Int).tmod (n : Int)) = ((m % n : Nat) : Int) by exact rfl] at this
theorem pu_quo (hx : ev ρ x = .int .i64 a) (hy : ev ρ y = .int .i64 b) (hb : b ≠ 0) (h1 : -9223372036854775808 ≤ a.tdiv b) (h2 : a.tdiv b ≤ 9223372036854775807) : Pu P ρ ⟨d, .binOp .quo T x y U, ty, p, af, g⟩ h (.int .i64 (a.tdiv b)) := ⟨fun w _ => by
  simp [execOp, guard_int, hx, hy, binOp, Op.intDiv, hb, wrap_in _ h1 h2]⟩
theorem tdiv_abs (a b : Int) : (a.tdiv b).natAbs ≤ a.natAbs := by
  rw [Int.natAbs_tdiv]
  exact Nat.div_le_self _ _
theorem tdiv_lo {a b : Int} (h1 : -9223372036854775807 ≤ a) (h2 : a ≤ 9223372036854775807) : -9223372036854775808 ≤ a.tdiv b := by
  have := tdiv_abs a b
  omega
theorem tdiv_hi {a b : Int} (h1 : -9223372036854775807 ≤ a) (h2 : a ≤ 9223372036854775807) : a.tdiv b ≤ 9223372036854775807 := by
  have := tdiv_abs a b
  omega
theorem pu_conv [Und P S (.int k0)] [Und P D (.int k)] (hx : ev ρ x = .int k' a) (ha : k.wrap a = b) : Pu P ρ ⟨d, .convert S D x, ty, p, af, g⟩ h (.int k b) := ⟨fun w _ => by
  simp [execOp, convert, hx, und S w, und D w, Conv.intToInt, ha]⟩
theorem wrap_n64 {n : Nat} (hn : n < 2 ^ 62) : IntKind.wrap .i64 (n : Int) = (n : Int) := wrap_in _ (by omega) (by omega)
theorem pu_andn {m n : Nat} (hx : ev ρ x = .int .i64 (m : Int)) (hy : ev ρ y = .int .i64 (n : Int)) (hm : m < 2 ^ 62) (hn : n < 2 ^ 62) : Pu P ρ ⟨d, .binOp .and T x y U, ty, p, af, g⟩ h (.int .i64 ((m &&& n : Nat) : Int)) := by
  have := pu_and (P := P) (h := h) (d := d) (T := T) (U := U) (ty := ty) (p := p) (af := af) (g := g) hx hy
  have e1 : ((m : Int) % 2 ^ IntKind.bits .i64).toNat = m := by simp [IntKind.bits]; omega
  have e2 : ((n : Int) % 2 ^ IntKind.bits .i64).toNat = n := by simp [IntKind.bits]; omega
  rw [e1, e2, wrap_n64 (Nat.lt_of_le_of_lt Nat.and_le_left hm)] at this
  exact this
theorem equal_pp {n : Nat} [Und P T (.pointer e)] [Siz P e n] (hn : n ≠ 0) {a b : Nat} {ca cb : List Value} {ta tb : TypeId} (w : World) (ha : w.heap[a]? = some (.cells ca.toArray ta (0, 0))) (hb : w.heap[b]? = some (.cells cb.toArray tb (0, 0))) : (Op.equal T (.pointer (some ⟨a, 0, none⟩)) (.pointer (some ⟨b, 0, none⟩))).run P w = .ok (decide (a = b)) w := by
  unfold Op.equal Op.maxDepth Op.equalIn
  simp only [Sem.run_bind, und T w, Result.andThen_ok, siz e w, ne_eq, hn, not_false_eq_true, if_true]
  by_cases hab : a = b
  · subst hab
    simp [run_sameAddr_same]
  · rw [run_sameAddr_other w (a := ⟨a, 0, none⟩) (b := ⟨b, 0, none⟩) (by intro h; cases h; exact hab rfl) ha hb]
    simp [hab]
theorem pu_eql_pp {n : Nat} [Und P T (.pointer e)] [Siz P e n] {a b : Nat} {ca cb : List Value} {ta tb : TypeId} (hx : ev ρ x = .pointer (some ⟨a, 0, none⟩)) (hy : ev ρ y = .pointer (some ⟨b, 0, none⟩)) (ha : h[a]? = some (.cells ca.toArray ta (0, 0))) (hb : h[b]? = some (.cells cb.toArray tb (0, 0))) (hn : n ≠ 0) : Pu P ρ ⟨d, .binOp .eql T x y U, ty, p, af, g⟩ h (.bool (decide (a = b))) := ⟨fun w hw => by
  subst hw
  simp [execOp, guard_ptr, hx, hy, binOp, equal_pp (P := P) (T := T) (e := e) hn w ha hb]⟩
theorem pu_neq_pp {n : Nat} [Und P T (.pointer e)] [Siz P e n] {a b : Nat} {ca cb : List Value} {ta tb : TypeId} (hx : ev ρ x = .pointer (some ⟨a, 0, none⟩)) (hy : ev ρ y = .pointer (some ⟨b, 0, none⟩)) (ha : h[a]? = some (.cells ca.toArray ta (0, 0))) (hb : h[b]? = some (.cells cb.toArray tb (0, 0))) (hn : n ≠ 0) : Pu P ρ ⟨d, .binOp .neq T x y U, ty, p, af, g⟩ h (.bool (decide (a ≠ b))) := ⟨fun w hw => by
  subst hw
  simp [execOp, guard_ptr, hx, hy, binOp, equal_pp (P := P) (T := T) (e := e) hn w ha hb]⟩
end
end Go.Proofs.YtpedmnlpccngiaaDoor.K
namespace Go.Proofs.YtpedmnlpccngiaaDoor.K
open Go

section
variable {P : Program} {E : Env} {ops : List Oper} {K : List Value → Array Obj → Prop} {rest : List Oper} {ρ : List Value} {h0 h : Array Obj} {M L : List Blk} {d : Option Tmp} {T ty e : TypeId} {p : String} {af : Array Edge} {g : Option (Nat × Bool)} {x y : Operand} {i : TypeInfo} {zv : Value} {n : Nat}
theorem flat_rep (z : Value) : ∀ n : Nat, (List.replicate n [z]).flatten = List.replicate n z
  | 0 => rfl
  | n + 1 => by rw [List.replicate_succ, List.flatten_cons, flat_rep z n, List.replicate_succ]; rfl
theorem zero_rep (z : Value) (n : Nat) : (Array.range n).map (fun x => ([z][x % 1]?).getD default) = Array.replicate n z := by
  apply Array.ext
  · simp
  · intro i h1 h2
    simp [Nat.mod_one]
theorem ex_makeSlice {m : Nat} [Und P T (.slice e)] [Siz P e 1] [Inf P e i] [Zer P e zv] (hz : zv.cells = #[zv]) (hx : ev ρ x = .int .i64 (n : Int)) (hy : ev ρ y = .int .i64 (m : Int)) (hb : i.bytes ≤ 300) (hnm : n ≤ m) (hm : m ≤ 2 ^ 20) : Ex P ρ ⟨d, .makeSlice T x y, ty, p, af, g⟩ h (.slice (some ⟨h.size, 0, none⟩) n m) (h.push (.cells (List.replicate m zv).toArray e (0, 0))) := ⟨fun E w hw => by
  have hw1 : IntKind.wrap .i64 (m : Int) = (m : Int) := wrap_n64 (by omega)
  have hw2 : IntKind.wrap .i64 (n : Int) = (n : Int) := wrap_n64 (by omega)
  have h2 : (i.bytes : Int) * (m : Int) ≤ 2 ^ 48 := by
    have := Nat.mul_le_mul hb hm
    have h3 : ((i.bytes * m : Nat) : Int) ≤ ((300 * 2 ^ 20 : Nat) : Int) := by exact_mod_cast this
    rw [Int.natCast_mul] at h3
    omega
  have hcap : ¬ (281474976710656 < (i.bytes : Int) * (m : Int)) := by omega
  have hwh : w.heap = h := hw.1
  have hneg : ¬ ((m : Int) < 0) := by omega
  have hneg2 : ¬ ((n : Int) < 0) := by omega
  have hle : ¬ ((m : Int) < (n : Int)) := by omega
  refine ⟨.value (.slice (some ⟨w.heap.size, 0, none⟩) n m), { w with heap := w.heap.push (.cells (List.replicate m zv).toArray e (0, 0)) }, ?_, by rw [← hwh]; exact ⟨rfl, hw.2.1, hw.2.2.1, hw.2.2.2⟩, .inl (by rw [hwh])⟩
  simp only [execOp, Instr.makeSlice, hx, hy]
  rcases Nat.eq_zero_or_pos m with h0 | h0
  · subst h0
    obtain rfl : n = 0 := by omega
    have hw0 : IntKind.wrap .i64 0 = 0 := by rfl
    simp [und T w, siz e w, fun w => inf (P := P) e w, asInt, asIntOf, hw0, askRoom, newRow]
    exact congrArg (fun a => w.alloc (Obj.cells a e)) (Array.ext' (by simp))
  · simp [und T w, siz e w, fun w => inf (P := P) e w, fun w => zer (P := P) e w, asInt, asIntOf, hw1, hw2, askRoom, hcap, hneg, hneg2, hle, hnm, newRow, hz, show m ≠ 0 by omega]
    exact congrArg (fun a => w.alloc (Obj.cells a e)) (zero_rep zv m)⟩
theorem lw_makeSlice [Und P T (.slice e)] [Siz P e 1] [Inf P e i] [Zer P e zv] (hw : Wan ops ρ ⟨d, .makeSlice T x y, ty, p, af, g⟩) (hz : zv.cells = #[zv]) (hx : ev ρ x = .int .i64 (n : Int)) (hy : ev ρ y = .int .i64 (n : Int)) (hb : i.bytes ≤ 300) (hn : n ≤ 2 ^ 20) (hm : Mem h0 h M L)
    (hk : ∀ q Lv h, SlO 1 e q n n Lv (List.replicate n [zv]) → Mem h0 h M (L ++ Lv) → LW P E ops K rest (setD ρ d (.slice q n n)) h) : LW P E ops K (⟨d, .makeSlice T x y, ty, p, af, g⟩ :: rest) ρ h :=
  lw_ex hw (ex_makeSlice hz hx hy hb (Nat.le_refl _) hn) rfl (hk _ [(h.size, List.replicate n zv, BT.c e)] _ ⟨.inr ⟨h.size, n, n, [], rfl, by rw [flat_rep, List.append_nil], by rw [flat_rep]; simp, by rw [flat_rep]; simp, Nat.le_refl _⟩, by simp, fun r hr => by rw [(List.mem_replicate.1 hr).2]; rfl⟩ ((hm.push _ e).perm (List.perm_append_comm (l₁ := L) (l₂ := [_]))))
end
end Go.Proofs.YtpedmnlpccngiaaDoor.K
namespace Go.Proofs.YtpedmnlpccngiaaDoor.K
open Go

def byteV (b : UInt8) : Value := .int .u8 (b.toNat : Int)
section
variable {P : Program} {E : Env} {ops : List Oper} {ρ ρ' : List Value} {h : Array Obj} {d : Option Tmp} {S T ty U X e kt vt : TypeId} {p : String} {af : Array Edge} {g : Option (Nat × Bool)} {x y z : Operand} {l m : List UInt8} {n : Nat} {u : Value}
theorem push_modify {α : Type} (a : Array α) (x : α) (f : α → α) : (a.push x).modify a.size f = a.push (f x) := by
  apply Array.ext_getElem?
  intro i
  simp only [Array.getElem?_modify, Array.getElem?_push]
  by_cases h : i = a.size
  · subst h; simp
  · have : ¬ a.size = i := fun e => h e.symm
    simp [h, this]
theorem run_s2b [Und P S .string] [Und P T (.slice e)] [Und P e (.int .u8)] (hx : ev ρ x = bs l) (w : World) (hw : At E h w) :
    ∃ cap w', l.length ≤ cap ∧ (execOp (ev ρ) ⟨d, .convert S T x, ty, p, af, g⟩).run P w = .ok (.value (.slice (some ⟨h.size, 0, none⟩) l.length cap)) w' ∧ At E (h.push (.cells (l.map byteV ++ List.replicate (cap - l.length) (Value.int .u8 0)).toArray e (cap, cap + 1))) w' := by
  let q' : Question := .appendCap l.length 0 e
  let nc := q'.cut (w.tape w.drawn q')
  have hnc : l.length ≤ nc := Nat.le_add_right _ _
  have hwh : w.heap = h := hw.1
  refine ⟨nc, { w.drew with heap := w.drew.heap.push (.cells (l.map byteV ++ List.replicate (nc - l.length) (Value.int .u8 0)).toArray e (nc, nc + 1)) }, hnc, ?_, ⟨by rw [← hwh]; rfl, hw.2.1, hw.2.2.1, hw.2.2.2⟩⟩
  simp only [execOp, convert, hx, Sem.run_bind, und S w, und T w, Result.andThen_ok, und e w, Conv.stringToBytes]
  have hsz : (ByteArray.mk l.toArray).size = l.length := size_mk l
  simp only [bs, choose, Sem.run_bind, hsz]
  simp only [Sem.run, Question.forced, Result.andThen_ok, hsz]
  simp only [newRow, Sem.run_bind, run_newObj, Result.andThen_ok, Sem.run_pure, markStringish, shape, freeze, Sem.run]
  have hcell : (Array.map (fun b => Value.int IntKind.u8 ((UInt8.toNat b : Nat) : Int)) l.toArray ++ Array.replicate (nc - l.length) (Value.int IntKind.u8 0)) = (List.map byteV l ++ List.replicate (nc - l.length) (Value.int IntKind.u8 0)).toArray := Array.ext' (by simp [byteV])
  have hq : (Question.appendCap l.length 0 e).cut (w.tape w.drawn (Question.appendCap l.length 0 e)) = nc := rfl
  have hlen : (List.map byteV l ++ List.replicate (nc - l.length) (Value.int IntKind.u8 0)).toArray.size = nc := by simp; omega
  simp only [Bool.false_eq_true, if_false, Result.andThen_ok, hq, hcell]
  have hshape : ∀ (W : World) (a : Array Obj) (c : Array Value), W.heap = a.push (Obj.cells c e) → W.shape? a.size = some (e, c.size) := fun W a c hW => by simp [World.shape?, hW]
  rw [hshape _ w.heap _ rfl]
  simp only [hlen]
  simp [Sem.run, World.freeze, push_modify, World.drew, hwh]
theorem bytes_loop (w : World) (f : Value → ByteArray → Sem (ForInStep ByteArray)) (hf : ∀ (c : UInt8) (s : ByteArray) (w : World), (f (byteV c) s).run P w = .ok (.yield (s.push c)) w) : ∀ (l : List UInt8) (s : ByteArray), (forIn (l.map byteV) s f : Sem ByteArray).run P w = .ok ⟨s.data ++ l.toArray⟩ w := by
  intro l
  induction l with
  | nil => intro s; simp
  | cons c l ih =>
    intro s
    simp only [List.map_cons, List.forIn_cons, Sem.run_bind, hf, Result.andThen_ok, ih]
    congr 1
    apply ByteArray.ext
    simp
theorem pu_b2s [Und P S (.slice e)] [Und P T .string] [Und P e (.int .u8)] {B off cp : Nat} (hx : ev ρ x = .slice (some ⟨B, off, none⟩) l.length cp) (hc : cellsFrom h B off (l.map byteV)) : Pu P ρ ⟨d, .convert S T x, ty, p, af, g⟩ h (bs l) := ⟨fun w hw => by
  have hl : (loadCells ⟨B, off, none⟩ l.length).run P w = .ok (l.map byteV).toArray w := by
    subst hw
    have := run_loadCellsFrom (P := P) w B off (l.map byteV) 0 #[] (by simpa using hc)
    simpa [loadCells] using this
  simp only [execOp, convert, hx, Sem.run_bind, und S w, und T w, Result.andThen_ok, und e w, Conv.bytesToString, hl]
  rw [← Array.forIn_toList]
  simp only [List.toList_toArray]
  rw [bytes_loop]
  · simp [bs]
  · intro c s w
    simp [byteV]⟩
theorem pu_b2s0 [Und P S (.slice e)] [Und P T .string] [Und P e (.int .u8)] {n cp : Nat} (hx : ev ρ x = .slice none n cp) : Pu P ρ ⟨d, .convert S T x, ty, p, af, g⟩ h (bs []) := ⟨fun w hw => by
  simp [execOp, convert, hx, Sem.run_bind, und S w, und T w, Result.andThen_ok, und e w, Conv.bytesToString]
  rfl⟩
theorem pu_b2sE [Und P S (.slice e)] [Und P T .string] [Und P e (.int .u8)] {a : Addr} {cp : Nat} (hx : ev ρ x = .slice (some a) 0 cp) : Pu P ρ ⟨d, .convert S T x, ty, p, af, g⟩ h (bs []) := ⟨fun w hw => by
  simp [execOp, convert, hx, Sem.run_bind, und S w, und T w, Result.andThen_ok, und e w, Conv.bytesToString, loadCells, loadCellsFrom]
  rfl⟩
theorem eql_map [Und P T (.map kt vt)] (a : Option Nat) (w : World) : (Op.equal T (.map a) (.map none)).run P w = .ok (decide (a = none)) w := by
  unfold Op.equal Op.maxDepth Op.equalIn
  simp only [Sem.run_bind, und T w, Result.andThen_ok]
  cases a <;> simp
theorem guard_map (op : BinOp) (q : Option Nat) (v2 : Value) (w : World) : (eqGuard op T x y (.map q) v2).run P w = .ok () w := by
  unfold eqGuard
  split <;> simp
theorem pu_eql_map [Und P T (.map kt vt)] {a : Option Nat} (hx : ev ρ x = .map a) (hy : ev ρ y = .map none) : Pu P ρ ⟨d, .binOp .eql T x y U, ty, p, af, g⟩ h (.bool (decide (a = none))) := ⟨fun w hw => by
  simp [execOp, guard_map, hx, hy, binOp, eql_map (P := P) (T := T) (kt := kt) (vt := vt)]⟩
theorem pu_neq_map [Und P T (.map kt vt)] {a : Option Nat} (hx : ev ρ x = .map a) (hy : ev ρ y = .map none) : Pu P ρ ⟨d, .binOp .neq T x y U, ty, p, af, g⟩ h (.bool (!decide (a = none))) := ⟨fun w hw => by
  simp [execOp, guard_map, hx, hy, binOp, eql_map (P := P) (T := T) (kt := kt) (vt := vt)]⟩
theorem run_range (hx : ev ρ x = bs l) [Und P T .string] (w : World) (hw : At E h w) : (execOp (ev ρ) ⟨d, .range T x, ty, p, af, g⟩).run P w = .ok (.value (.pointer (some ⟨h.size, 0, none⟩))) { w with heap := w.heap.push (.stringIter ⟨l.toArray⟩ 0) } := by
  rw [← hw.1]
  simp [execOp, hx, Instr.range, und T w, bs]
theorem run_next_on {B pos : Nat} (hx : ev ρ x = .pointer (some ⟨B, 0, none⟩)) (w : World) (hw : w.heap[B]? = some (.stringIter ⟨l.toArray⟩ pos)) (hp : pos < l.length) : (execOp (ev ρ) ⟨d, .next x true, ty, p, af, g⟩).run P w = .ok (.value (.tuple #[.bool true, .int .i64 (pos : Int), .int .i32 ((Utf8.decode ⟨l.toArray⟩ pos).1 : Int)])) { w with heap := w.heap.setIfInBounds B (.stringIter ⟨l.toArray⟩ (pos + (Utf8.decode ⟨l.toArray⟩ pos).2)) } := by
  have h1 : (getObj B).run P w = .ok (.stringIter ⟨l.toArray⟩ pos) w := by simp [getObj, Sem.run, hw]
  have h2 : ∀ o, (setObj B o).run P w = .ok () { w with heap := w.heap.setIfInBounds B o } := fun o => by simp [setObj, Sem.run, hw]
  have hs : pos < (ByteArray.mk l.toArray).size := by rw [size_mk]; exact hp
  simp [execOp, hx, Instr.next, h1, h2, hs]
  rfl
theorem run_next_off {B pos : Nat} (hx : ev ρ x = .pointer (some ⟨B, 0, none⟩)) (w : World) (hw : w.heap[B]? = some (.stringIter ⟨l.toArray⟩ pos)) (hp : ¬ pos < l.length) : (execOp (ev ρ) ⟨d, .next x true, ty, p, af, g⟩).run P w = .ok (.value (.tuple #[.bool false])) w := by
  have h1 : (getObj B).run P w = .ok (.stringIter ⟨l.toArray⟩ pos) w := by simp [getObj, Sem.run, hw]
  have hs : ¬ pos < (ByteArray.mk l.toArray).size := by rw [size_mk]; exact hp
  simp only [execOp, hx, Instr.next, Sem.run_bind, h1, Result.andThen_ok, if_neg hs]
  simp
/-! maps whose keys are addresses -/
theorem equal_nil [Und P T (.pointer e)] [Siz P e n] (hn : n ≠ 0) (a : Option Addr) (w : World) : (Op.equal T (.pointer none) (.pointer a)).run P w = .ok (decide (a = none)) w := by
  unfold Op.equal Op.maxDepth Op.equalIn
  simp only [Sem.run_bind, und T w, Result.andThen_ok, siz e w, ne_eq, hn, not_false_eq_true, if_true]
  cases a <;> simp
theorem equal_nil' [Und P T (.pointer e)] [Siz P e n] (hn : n ≠ 0) (a : Option Addr) (w : World) : (Op.equal T (.pointer a) (.pointer none)).run P w = .ok (decide (a = none)) w := by
  unfold Op.equal Op.maxDepth Op.equalIn
  simp only [Sem.run_bind, und T w, Result.andThen_ok, siz e w, ne_eq, hn, not_false_eq_true, if_true]
  cases a <;> simp
def findD (dec : Value → Bool) : List MapEntry → Nat → Option (Nat × Value)
  | [], _ => none
  | m :: es, i => if dec m.key then some (i, m.val) else findD dec es (i + 1)
theorem run_findAsking (w : World) (k : Value) (dec : Value → Bool) : ∀ (es : List MapEntry) (i : Nat), (∀ m ∈ es, (Op.equal kt k m.key).run P w = .ok (dec m.key) w) → (Instr.findAsking kt k es i).run P w = .ok (findD dec es i) w
  | [], i, _ => by simp [Instr.findAsking, findD]
  | m :: es, i, hq => by
    simp only [Instr.findAsking, Sem.run_bind, hq m (by simp), Result.andThen_ok, findD]
    cases dec m.key with
    | true => simp
    | false => simpa using run_findAsking w k dec es (i + 1) fun m hm => hq m (by simp [hm])
theorem run_findKey [Und P kt (.pointer e)] (w : World) (k : Value) (dec : Value → Bool) (es : List MapEntry) (hq : ∀ m ∈ es, (Op.equal kt k m.key).run P w = .ok (dec m.key) w) : (Instr.findKey kt k es).run P w = .ok (findD dec es 0) w := by
  simp only [Instr.findKey, Sem.run_bind, und kt w, Result.andThen_ok]
  cases es with
  | nil => simp [Instr.findNow, findD]
  | cons m es =>
    simp only [Instr.findNow, Instr.sameNow]
    exact run_findAsking w k dec _ 0 hq
theorem run_checkKey [Und P kt (.pointer e)] (w : World) (b : Bool) (a : Option Addr) : (Instr.checkKey b 10000 kt (.pointer a)).run P w = .ok () w := by
  have h : ∀ n, (Instr.checkKey b (n + 1) kt (.pointer a)).run P w = .ok () w := fun n => by simp [Instr.checkKey, und kt w]
  exact h 9999
theorem pu_lookup [Und P T (.map kt vt)] [Und P kt (.pointer e)] [Zer P vt u] {B : Nat} {a : Option Addr} {es : Array MapEntry} {ck : Nat} (dec : Value → Bool) (hx : ev ρ x = .map (some B)) (hy : ev ρ y = .pointer a) (hb : h[B]? = some (.map es ck)) (hq : ∀ w : World, w.heap = h → ∀ m ∈ es.toList, (Op.equal kt (.pointer a) m.key).run P w = .ok (dec m.key) w) : Pu P ρ ⟨d, .lookup T x y false, ty, p, af, g⟩ h (match findD dec es.toList 0 with | some r => r.2 | none => u) := ⟨fun w hw => by
  have h1 : (getObj B).run P w = .ok (.map es ck) w := by simp [getObj, Sem.run, hw, hb]
  simp only [execOp, hx, hy, Instr.lookup, Sem.run_bind, und T w, Result.andThen_ok, h1, Sem.run_pure, run_checkKey (e := e), run_findKey (e := e) w _ dec _ (hq w hw)]
  cases findD dec es.toList 0 with
  | none => simp [zer vt w]
  | some r => simp⟩
theorem pu_lookup0 [Und P T (.map kt vt)] [Und P kt (.pointer e)] [Zer P vt u] {a : Option Addr} (hx : ev ρ x = .map none) (hy : ev ρ y = .pointer a) : Pu P ρ ⟨d, .lookup T x y false, ty, p, af, g⟩ h u := ⟨fun w hw => by
  have hf := run_findKey (P := P) (kt := kt) (e := e) w (.pointer a) (fun _ => true) [] (by simp)
  simp only [execOp, hx, hy, Instr.lookup, Sem.run_bind, und T w, Result.andThen_ok, Sem.run_pure, run_checkKey (e := e), hf]
  simp [findD, zer vt w]⟩
theorem run_makeMap [Und P T (.map kt vt)] {r : Option Operand} (hr : ∀ y, r = some y → ∃ k n, ev ρ y = .int k n) (w : World) (hw : At E h w) : (execOp (ev ρ) ⟨d, .makeMap T r, ty, p, af, g⟩).run P w = .ok (.value (.map (some h.size))) { w with heap := w.heap.push (.map #[] 0) } := by
  rw [← hw.1]
  cases r with
  | none => simp [execOp, Instr.makeMap]
  | some y =>
    obtain ⟨k, n, hy⟩ := hr y rfl
    simp [execOp, Instr.makeMap, hy, und T w, asInt, asIntOf]
theorem run_mapUpdate [Und P T (.map kt vt)] [Und P kt (.pointer e)] {B : Nat} {a : Option Addr} {es : Array MapEntry} {ck : Nat} (dec : Value → Bool) (hx : ev ρ x = .map (some B)) (hy : ev ρ y = .pointer a) (w : World) (hb : w.heap[B]? = some (.map es ck)) (hq : ∀ m ∈ es.toList, (Op.equal kt (.pointer a) m.key).run P w = .ok (dec m.key) w) (hd : ∀ m ∈ es.toList, dec m.key = true → m.key = .pointer a) :
    (execOp (ev ρ) ⟨d, .mapUpdate T x y z, ty, p, af, g⟩).run P w = .ok .skip { w with heap := w.heap.setIfInBounds B (match findD dec es.toList 0 with
      | some r => .map (es.modify r.1 fun m => { m with key := .pointer a, val := ev ρ z }) ck
      | none => .map (es.push { key := .pointer a, val := ev ρ z, born := ck }) (ck + 1)) } := by
  have h1 : (getObj B).run P w = .ok (.map es ck) w := by simp [getObj, Sem.run, hb]
  have h2 : ∀ o, (setObj B o).run P w = .ok () { w with heap := w.heap.setIfInBounds B o } := fun o => by simp [setObj, Sem.run, hb]
  simp only [execOp, hx, hy, Instr.mapUpdate, Sem.run_bind, und T w, Result.andThen_ok, h1, run_checkKey (e := e), run_findKey (e := e) w _ dec _ hq]
  cases hf : findD dec es.toList 0 with
  | none => simp [h2]
  | some r =>
    obtain ⟨i, v⟩ := r
    have hk : ∃ m, es[i]? = some m ∧ m.key = .pointer a := by
      have key : ∀ (l : List MapEntry) (j : Nat), (∀ m ∈ l, dec m.key = true → m.key = .pointer a) → findD dec l j = some (i, v) → ∃ m, j ≤ i ∧ l[i - j]? = some m ∧ m.key = .pointer a := by
        intro l
        induction l with
        | nil => intro j _ h; simp [findD] at h
        | cons m l ih =>
          intro j hm h
          simp only [findD] at h
          cases hd : dec m.key with
          | true =>
            rw [hd] at h
            simp at h
            obtain ⟨rfl, rfl⟩ := h
            exact ⟨m, Nat.le_refl _, by simp, hm m (by simp) hd⟩
          | false =>
            rw [hd] at h
            obtain ⟨m', h1, h2, h3⟩ := ih (j + 1) (fun m hm' => hm m (by simp [hm'])) (by simpa using h)
            refine ⟨m', by omega, ?_, h3⟩
            rw [show i - j = (i - (j + 1)) + 1 by omega]
            simpa using h2
      obtain ⟨m, _, h2, h3⟩ := key es.toList 0 hd hf
      exact ⟨m, by simpa using h2, h3⟩
    obtain ⟨m, hm1, hm2⟩ := hk
    have hsame : Instr.sameBits 10000 (.pointer a) (.pointer a) = true := by simp [Instr.sameBits]
    simp [hm1, hm2, Instr.keyThatStays, hsame, h2]
end
end Go.Proofs.YtpedmnlpccngiaaDoor.K
namespace Go.Proofs.YtpedmnlpccngiaaDoor.K
open Go

section
variable {P : Program} {ops : Array Oper} {Q : Exit → Act → World → Prop} {md : Region.Mode}
/-- An operation waits for another one. -/
def waitsB (md : Region.Mode) (ops : Array Oper) (i k : Nat) : Bool :=
  match ops[i]? with
  | some o => o.after.any fun e => Region.binds md e && e.on == k
  | none => false
/-- Whatever order is picked from here on; T: what was taken early, and what must hold as long as it may still come. -/
def wpAnyT (P : Program) (md : Region.Mode) (ops : Array Oper) (Q : Exit → Act → World → Prop) : Nat → Array Bool → List (Nat × (World → Prop)) → Act → World → Prop
  | 0, listed, _, a, w => Region.ready md ops listed = [] ∧ Q .normal a w
  | fuel + 1, listed, T, a, w =>
    (Region.ready md ops listed = [] → Q .normal a w) ∧
    ∀ i ∈ Region.ready md ops listed, wpOp P ops Q i (fun a' w' => (∀ q ∈ T.filter (fun q => !(waitsB md ops i q.1)), q.2 w') ∧ wpAnyT P md ops Q fuel (listed.setIfInBounds i true) (T.filter fun q => !(waitsB md ops i q.1)) a' w') a w
theorem wpAny_of_T : ∀ (fuel : Nat) (listed : Array Bool) (T : List (Nat × (World → Prop))) (a : Act) (w : World), wpAnyT P md ops Q fuel listed T a w → wpAny P md ops Q fuel listed a w
  | 0, _, _, _, _, h => h
  | fuel + 1, _, _, _, _, h => ⟨h.1, fun i hi => wpOp_mono (fun a' w' h' => wpAny_of_T fuel _ _ a' w' h'.2) (h.2 i hi)⟩
theorem wpAnyT_mono : ∀ (fuel : Nat) (listed : Array Bool) (T T' : List (Nat × (World → Prop))) (a : Act) (w : World), (∀ q ∈ T', q ∈ T ∨ ∀ w, q.2 w) → wpAnyT P md ops Q fuel listed T a w → wpAnyT P md ops Q fuel listed T' a w
  | 0, _, _, _, _, _, _, h => h
  | fuel + 1, listed, T, T', _, _, hs, h => ⟨h.1, fun i hi => wpOp_mono (fun a' w' h' => by
      have key : ∀ q ∈ T'.filter (fun q => !(waitsB md ops i q.1)), q ∈ T.filter (fun q => !(waitsB md ops i q.1)) ∨ ∀ w, q.2 w := fun q hq => by
        obtain ⟨h1, h2⟩ := List.mem_filter.1 hq
        rcases hs q h1 with h3 | h3
        · exact .inl (List.mem_filter.2 ⟨h3, h2⟩)
        · exact .inr h3
      exact ⟨fun q hq => (key q hq).elim (fun h => h'.1 q h) (fun h => h w'), wpAnyT_mono fuel _ _ _ a' w' key h'.2⟩) (h.2 i hi)⟩
theorem wpAnyT_first {i : Nat} {oi : Oper} {v : Value} {Si : World → Prop} (hi : ops[i]? = some oi) (hsel : ∀ (j : Nat) (o : Oper) cs b, ops[j]? = some o → o.op ≠ .select cs b)
    (hQ : ∀ c a w, Q (.panic c) (a.put oi.dst v) w → Q (.panic c) a w) :
    ∀ (fuel : Nat) (listed : Array Bool) (T : List (Nat × (World → Prop))) (a : Act) (w : World),
      (∀ j oj, ops[j]? = some oj → j ≠ i → listed.getD j true = false → (∀ e ∈ oj.after, Region.binds md e = true → e.on ≠ i) → oi.apart ops oj = true) →
      i ∈ Region.ready md ops listed → YieldsIf P ops Si oi v a → Si w → (∀ q ∈ T, q.2 w) →
      wpAnyT P md ops Q fuel (listed.setIfInBounds i true) ((i, Si) :: T) (a.put oi.dst v) w → wpAnyT P md ops Q (fuel + 1) listed T a w := by
  intro fuel
  have own : ∀ (fuel : Nat) (listed : Array Bool) (T : List (Nat × (World → Prop))) (a : Act) (w : World), YieldsIf P ops Si oi v a → Si w → (∀ q ∈ T, q.2 w) → wpAnyT P md ops Q fuel (listed.setIfInBounds i true) ((i, Si) :: T) (a.put oi.dst v) w →
      wpOp P ops Q i (fun a' w' => (∀ q ∈ T.filter (fun q => !(waitsB md ops i q.1)), q.2 w') ∧ wpAnyT P md ops Q fuel (listed.setIfInBounds i true) (T.filter fun q => !(waitsB md ops i q.1)) a' w') a w := fun fuel listed T a w hy hS hT H =>
    hy.wpOp hi hS ⟨fun q hq => hT q (List.mem_filter.1 hq).1, wpAnyT_mono fuel _ _ _ _ _ (fun q hq => .inl (List.mem_cons_of_mem _ (List.mem_filter.1 hq).1)) H⟩
  induction fuel with
  | zero =>
    intro listed T a w _ hr hy hS hT H
    refine ⟨fun h => (by rw [h] at hr; cases hr), fun j hj => ?_⟩
    by_cases hji : j = i
    · subst hji; exact own 0 listed T a w hy hS hT H
    · have := ready_mono hj hji
      rw [H.1] at this
      cases this
  | succ fuel ih =>
    intro listed T a w hfree hr hy hS hT H
    refine ⟨fun h => (by rw [h] at hr; cases hr), fun j hj => ?_⟩
    by_cases hji : j = i
    · subst hji; exact own (fuel + 1) listed T a w hy hS hT H
    · have h1 := H.2 j (ready_mono hj hji)
      obtain ⟨hjun, oj, hoj, hall⟩ := mem_ready.1 hj
      have hnot : ∀ e ∈ oj.after, Region.binds md e = true → e.on ≠ i := fun e he hb heq => by
        have h1 := hall e he hb
        have h0 := (mem_ready.1 hr).1
        rw [heq] at h1
        rcases Nat.lt_or_ge i listed.size with h' | h'
        · simp [h'] at h0 h1; rw [h0] at h1; cases h1
        · simp [Array.getElem?_eq_none h'] at h1
      have hwt : waitsB md ops j i = false := by
        unfold waitsB
        rw [hoj]
        simp only
        rw [Array.any_eq_false]
        intro k hk
        cases hb : Region.binds md oj.after[k] with
        | false => simp
        | true =>
          have := hnot _ (Array.getElem_mem hk) hb
          simpa using this
      have hfl : ((i, Si) :: T).filter (fun q => !(waitsB md ops j q.1)) = (i, Si) :: T.filter (fun q => !(waitsB md ops j q.1)) := by
        rw [List.filter_cons]
        simp only [hwt, Bool.not_false, if_true]
      rw [hfl] at h1
      have h2 := wpOp_putIf hoj (hfree j oj hoj hji hjun hnot) (fun cs b => hsel i oi cs b hi) (fun cs b => hsel j oj cs b hoj) hQ hy h1
      have hfree' : ∀ k ok, ops[k]? = some ok → k ≠ i → (listed.setIfInBounds j true).getD k true = false →
          (∀ e ∈ ok.after, Region.binds md e = true → e.on ≠ i) → oi.apart ops ok = true := fun k ok hk hki hun hno => by
        refine hfree k ok hk hki ?_ hno
        by_cases hjk : j = k
        · subst hjk; exact hjun
        · rw [getD_set_ne true hjk] at hun; exact hun
      refine wpOp_mono (fun a' w' h3 => ?_) h2
      have h4 := h3.2.1 (i, Si) (by simp)
      have h5 : ∀ q ∈ T.filter (fun q => !(waitsB md ops j q.1)), q.2 w' := fun q hq => h3.2.1 q (List.mem_cons_of_mem _ hq)
      refine ⟨h5, ih (listed.setIfInBounds j true) _ a' w' hfree' (ready_mono hr (Ne.symm hji)) h3.1 h4 h5 ?_⟩
      rw [Array.setIfInBounds_comm _ _ hji]
      exact h3.2.2
theorem wpAnyT_firstG {i : Nat} {oi : Oper} {v : Value} {Si : World → Prop} (hi : ops[i]? = some oi) (hsel : ∀ (j : Nat) (o : Oper) cs b, ops[j]? = some o → o.op ≠ .select cs b)
    (hQ : ∀ c a w, Q (.panic c) (a.put oi.dst v) w → Q (.panic c) a w) :
    ∀ (fuel : Nat) (listed : Array Bool) (T T1 : List (Nat × (World → Prop))) (G : World → Prop) (a : Act) (w : World),
      (∀ j oj, ops[j]? = some oj → j ≠ i → listed.getD j true = false → (∀ e ∈ oj.after, Region.binds md e = true → e.on ≠ i) → oi.apart ops oj = true) →
      i ∈ Region.ready md ops listed → YieldsIf P ops Si oi v a → Si w → G w → (∀ w, G w → Si w) → (∀ q ∈ T, q.2 w) → (∀ q ∈ T, waitsB md ops i q.1 = false → q ∈ T1) → (∀ q ∈ T, q ∈ T1 ∨ ∀ w, G w → q.2 w) →
      wpAnyT P md ops Q fuel (listed.setIfInBounds i true) ((i, G) :: T1) (a.put oi.dst v) w → wpAnyT P md ops Q (fuel + 1) listed T a w := by
  intro fuel
  have own : ∀ (fuel : Nat) (listed : Array Bool) (T T1 : List (Nat × (World → Prop))) (G : World → Prop) (a : Act) (w : World), YieldsIf P ops Si oi v a → Si w → (∀ q ∈ T, q.2 w) → (∀ q ∈ T, waitsB md ops i q.1 = false → q ∈ T1) → wpAnyT P md ops Q fuel (listed.setIfInBounds i true) ((i, G) :: T1) (a.put oi.dst v) w →
      wpOp P ops Q i (fun a' w' => (∀ q ∈ T.filter (fun q => !(waitsB md ops i q.1)), q.2 w') ∧ wpAnyT P md ops Q fuel (listed.setIfInBounds i true) (T.filter fun q => !(waitsB md ops i q.1)) a' w') a w := fun fuel listed T T1 G a w hy hS hT hc1 H =>
    hy.wpOp hi hS ⟨fun q hq => hT q (List.mem_filter.1 hq).1, wpAnyT_mono fuel _ _ _ _ _ (fun q hq => .inl (List.mem_cons_of_mem _ (hc1 q (List.mem_filter.1 hq).1 (by simpa using (List.mem_filter.1 hq).2)))) H⟩
  induction fuel with
  | zero =>
    intro listed T T1 G a w _ hr hy hS hG hGS hT hc1 hc2 H
    refine ⟨fun h => (by rw [h] at hr; cases hr), fun j hj => ?_⟩
    by_cases hji : j = i
    · subst hji; exact own 0 listed T T1 G a w hy hS hT hc1 H
    · have := ready_mono hj hji
      rw [H.1] at this
      cases this
  | succ fuel ih =>
    intro listed T T1 G a w hfree hr hy hS hG hGS hT hc1 hc2 H
    refine ⟨fun h => (by rw [h] at hr; cases hr), fun j hj => ?_⟩
    by_cases hji : j = i
    · subst hji; exact own (fuel + 1) listed T T1 G a w hy hS hT hc1 H
    · have h1 := H.2 j (ready_mono hj hji)
      obtain ⟨hjun, oj, hoj, hall⟩ := mem_ready.1 hj
      have hnot : ∀ e ∈ oj.after, Region.binds md e = true → e.on ≠ i := fun e he hb heq => by
        have h1 := hall e he hb
        have h0 := (mem_ready.1 hr).1
        rw [heq] at h1
        rcases Nat.lt_or_ge i listed.size with h' | h'
        · simp [h'] at h0 h1; rw [h0] at h1; cases h1
        · simp [Array.getElem?_eq_none h'] at h1
      have hwt : waitsB md ops j i = false := by
        unfold waitsB
        rw [hoj]
        simp only
        rw [Array.any_eq_false]
        intro k hk
        cases hb : Region.binds md oj.after[k] with
        | false => simp
        | true =>
          have := hnot _ (Array.getElem_mem hk) hb
          simpa using this
      have hfl : ((i, G) :: T1).filter (fun q => !(waitsB md ops j q.1)) = (i, G) :: T1.filter (fun q => !(waitsB md ops j q.1)) := by
        rw [List.filter_cons]
        simp only [hwt, Bool.not_false, if_true]
      rw [hfl] at h1
      have h2 := wpOp_putIf hoj (hfree j oj hoj hji hjun hnot) (fun cs b => hsel i oi cs b hi) (fun cs b => hsel j oj cs b hoj) hQ hy h1
      have hfree' : ∀ k ok, ops[k]? = some ok → k ≠ i → (listed.setIfInBounds j true).getD k true = false →
          (∀ e ∈ ok.after, Region.binds md e = true → e.on ≠ i) → oi.apart ops ok = true := fun k ok hk hki hun hno => by
        refine hfree k ok hk hki ?_ hno
        by_cases hjk : j = k
        · subst hjk; exact hjun
        · rw [getD_set_ne true hjk] at hun; exact hun
      refine wpOp_mono (fun a' w' h3 => ?_) h2
      have h4 := h3.2.1 (i, G) (by simp)
      have h5 : ∀ q ∈ T.filter (fun q => !(waitsB md ops j q.1)), q.2 w' := fun q hq => by
        obtain ⟨g1, g2⟩ := List.mem_filter.1 hq
        rcases hc2 q g1 with h | h
        · exact h3.2.1 q (List.mem_cons_of_mem _ (List.mem_filter.2 ⟨h, g2⟩))
        · exact h w' h4
      refine ⟨h5, ih (listed.setIfInBounds j true) _ (T1.filter fun q => !(waitsB md ops j q.1)) G a' w' hfree' (ready_mono hr (Ne.symm hji)) h3.1 (hGS _ h4) h4 hGS h5 (fun q hq hw => ?_) (fun q hq => ?_) ?_⟩
      · obtain ⟨g1, g2⟩ := List.mem_filter.1 hq
        exact List.mem_filter.2 ⟨hc1 q g1 hw, g2⟩
      · obtain ⟨g1, g2⟩ := List.mem_filter.1 hq
        rcases hc2 q g1 with h | h
        · exact .inl (List.mem_filter.2 ⟨h, g2⟩)
        · exact .inr h
      · rw [Array.setIfInBounds_comm _ _ hji]
        exact h3.2.2
end

/-- The same, of lists of values. -/
structure AM (P : Program) (E : Env) (ops : List Oper) (K : List Value → Array Obj → Prop) (fuel : Nat) (listed : Array Bool) (T : List (Nat × (Array Obj → Prop))) (ρ : List Value) (h : Array Obj) : Prop where
  out : ∀ w, At E h w → wpAnyT P .any ops.toArray (fun e a w' => e = .normal ∧ ∃ ρ' h', a = act ρ' ∧ At E h' w' ∧ K ρ' h') fuel listed (T.map fun q => (q.1, Sin E q.2)) (act ρ) w
section
variable {P : Program} {f : FuncId} {E : Env} {R : Value → Array Obj → Prop} {kk : List Item} {S : Array Obj → Prop} {ops : List Oper} {K : List Value → Array Obj → Prop} {T : List (Nat × (Array Obj → Prop))} {ρ ρ' : List Value} {o : Oper} {h h' : Array Obj} {v : Value} {fuel n : Nat} {listed : Array Bool}
theorem tw_mixed {id : Nat} (hm : P.follows .mixedOrders = true) (hl : ∀ K : List Value → Array Obj → Prop, (∀ ρ h, TW P f E R kk ρ h → K ρ h) → AM P E ops K ops.length (Array.replicate ops.length false) [] ρ h) : TW P f E R (.code (.region id ops.toArray true) :: kk) ρ h :=
  TW.of_wp fun w hw => by
    have h1 := (hl _ (fun _ _ h => h)).out { w with drawn := w.drawn + 1 } ⟨hw.1, hw.2.1, hw.2.2.1, hw.2.2.2⟩
    exact wp_region_any hm (by simpa using wpAny_of_T _ _ _ _ _ h1)
theorem am_done (hr : Region.ready .any ops.toArray listed = []) (hk : K ρ h) : AM P E ops K fuel listed T ρ h :=
  ⟨fun w hA => by
    cases fuel with
    | zero => exact ⟨hr, rfl, ρ, h, rfl, hA, hk⟩
    | succ n => exact ⟨fun _ => ⟨rfl, ρ, h, rfl, hA, hk⟩, fun i hi => by rw [hr] at hi; cases hi⟩⟩
theorem am_take (i : Nat) (hi : ops[i]? = some o) (hs : Region.noSelect ops.toArray = true) (hf : Region.free .any ops.toArray listed i = true) (hr : (Region.ready .any ops.toArray listed).contains i = true)
    (hS : S h) (hT : ∀ q ∈ T, q.2 h) (hw : Wan ops ρ o) (hx : ∀ h, S h → Pu P ρ o h v) (hset : setD ρ o.dst v = ρ') (hk : AM P E ops K fuel (listed.setIfInBounds i true) ((i, S) :: T) ρ' h) : AM P E ops K (fuel + 1) listed T ρ h := by
  have hi' : ops.toArray[i]? = some o := by simpa using hi
  refine ⟨fun w hA => wpAnyT_first (i := i) (oi := o) (v := v) (Si := Sin E S) hi' (Region.noSelect_spec hs) (fun c a w hq => by cases hq.1) fuel listed _ (act ρ) w (Region.free_spec hi' hf) (by simpa using hr) (.inl ⟨hw.out, fun w' ⟨h', hA', hS'⟩ => ?_⟩) ⟨h, hA, hS⟩ (fun q hq => ?_) ?_⟩
  · rw [eval_mk]; exact (hx h' hS').out w' hA'.1
  · obtain ⟨q0, hq0, rfl⟩ := List.mem_map.1 hq
    exact ⟨h, hA, hT q0 hq0⟩
  · rw [put_mk, hset]; exact hk.out w hA
/-- .. and what it waits for is done when it is. -/
theorem am_take2 (i : Nat) (hi : ops[i]? = some o) (hs : Region.noSelect ops.toArray = true) (hf : Region.free .any ops.toArray listed i = true) (hr : (Region.ready .any ops.toArray listed).contains i = true)
    (hS : S h) (hT : ∀ q ∈ T, q.2 h) (hw : Wan ops ρ o) (hx : ∀ h, S h → Pu P ρ o h v) (hset : setD ρ o.dst v = ρ') (hk : AM P E ops K fuel (listed.setIfInBounds i true) ((i, fun h => S h ∧ ∀ q ∈ T, waitsB .any ops.toArray i q.1 = true → q.2 h) :: T.filter fun q => !(waitsB .any ops.toArray i q.1)) ρ' h) : AM P E ops K (fuel + 1) listed T ρ h := by
  have hi' : ops.toArray[i]? = some o := by simpa using hi
  refine ⟨fun w hA => wpAnyT_firstG (i := i) (oi := o) (v := v) (Si := Sin E S) hi' (Region.noSelect_spec hs) (fun c a w hq => by cases hq.1) fuel listed _ ((T.filter fun q => !(waitsB .any ops.toArray i q.1)).map fun q => (q.1, Sin E q.2)) (Sin E fun h => S h ∧ ∀ q ∈ T, waitsB .any ops.toArray i q.1 = true → q.2 h) (act ρ) w (Region.free_spec hi' hf) (by simpa using hr) (.inl ⟨hw.out, fun w' ⟨h', hA', hS'⟩ => ?_⟩) ⟨h, hA, hS⟩ ⟨h, hA, hS, fun q hq _ => hT q hq⟩ (fun w ⟨h, hA, hS, _⟩ => ⟨h, hA, hS⟩) (fun q hq => ?_) (fun q hq hwt => ?_) (fun q hq => ?_) ?_⟩
  · rw [eval_mk]; exact (hx h' hS').out w' hA'.1
  · obtain ⟨q0, hq0, rfl⟩ := List.mem_map.1 hq
    exact ⟨h, hA, hT q0 hq0⟩
  · obtain ⟨q0, hq0, rfl⟩ := List.mem_map.1 hq
    exact List.mem_map.2 ⟨q0, List.mem_filter.2 ⟨hq0, by simpa using hwt⟩, rfl⟩
  · obtain ⟨q0, hq0, rfl⟩ := List.mem_map.1 hq
    cases hb : waitsB .any ops.toArray i q0.1 with
    | false => exact .inl (List.mem_map.2 ⟨q0, List.mem_filter.2 ⟨hq0, by rw [hb]; rfl⟩, rfl⟩)
    | true => exact .inr fun w ⟨h, hA, _, hG⟩ => ⟨h, hA, hG q0 hq0 hb⟩
  · rw [put_mk, hset]; exact hk.out w hA
theorem am_take3 (i : Nat) (hi : ops[i]? = some o) (hs : Region.noSelect ops.toArray = true) (hf : Region.free .any ops.toArray listed i = true) (hr : (Region.ready .any ops.toArray listed).contains i = true)
    (hT : ∀ q ∈ T, q.2 h) (hw : Wan ops ρ o) (hx : ∀ h, Pu P ρ o h v) (hset : setD ρ o.dst v = ρ') (hk : AM P E ops K fuel (listed.setIfInBounds i true) ((i, fun _ => True) :: T) ρ' h) : AM P E ops K (fuel + 1) listed T ρ h := by
  have hi' : ops.toArray[i]? = some o := by simpa using hi
  refine ⟨fun w hA => wpAnyT_firstG (i := i) (oi := o) (v := v) (Si := Sin E fun _ => True) hi' (Region.noSelect_spec hs) (fun c a w hq => by cases hq.1) fuel listed _ (T.map fun q => (q.1, Sin E q.2)) (Sin E fun _ => True) (act ρ) w (Region.free_spec hi' hf) (by simpa using hr) (.inl ⟨hw.out, fun w' ⟨h', hA', _⟩ => ?_⟩) ⟨h, hA, trivial⟩ ⟨h, hA, trivial⟩ (fun w hw => hw) (fun q hq => ?_) (fun q hq _ => hq) (fun q hq => .inl hq) ?_⟩
  · rw [eval_mk]; exact (hx h').out w' hA'.1
  · obtain ⟨q0, hq0, rfl⟩ := List.mem_map.1 hq
    exact ⟨h, hA, hT q0 hq0⟩
  · rw [put_mk, hset]; exact hk.out w hA
theorem am_skip (i : Nat) (hi : ops[i]? = some o) (hs : Region.noSelect ops.toArray = true) (hf : Region.free .any ops.toArray listed i = true) (hr : (Region.ready .any ops.toArray listed).contains i = true)
    (hT : ∀ q ∈ T, q.2 h) (hw : Region.wanted o (yielded ops.toArray (act ρ).tmps) = false) (hset : setD ρ o.dst undef = ρ') (hk : AM P E ops K fuel (listed.setIfInBounds i true) T ρ' h) : AM P E ops K (fuel + 1) listed T ρ h := by
  have hi' : ops.toArray[i]? = some o := by simpa using hi
  refine ⟨fun w hA => wpAnyT_first (i := i) (oi := o) (v := undef) (Si := fun _ => True) hi' (Region.noSelect_spec hs) (fun c a w hq => by cases hq.1) fuel listed _ (act ρ) w (Region.free_spec hi' hf) (by simpa using hr) (.inr ⟨hw, rfl⟩) trivial (fun q hq => ?_) ?_⟩
  · obtain ⟨q0, hq0, rfl⟩ := List.mem_map.1 hq
    exact ⟨h, hA, hT q0 hq0⟩
  · rw [put_mk, hset]
    refine wpAnyT_mono _ _ _ _ _ _ (fun q hq => ?_) (hk.out w hA)
    rcases List.mem_cons.1 hq with rfl | hq
    · exact .inr fun _ => trivial
    · exact .inl hq
theorem am_steps (hne : Region.ready .any ops.toArray listed ≠ []) (hall : ∀ i ∈ Region.ready .any ops.toArray listed, ∃ o, ops[i]? = some o ∧ LW P E ops (fun ρ' h' => (∀ q ∈ T.filter (fun q => !(waitsB .any ops.toArray i q.1)), q.2 h') ∧ AM P E ops K fuel (listed.setIfInBounds i true) (T.filter fun q => !(waitsB .any ops.toArray i q.1)) ρ' h') [o] ρ h) : AM P E ops K (fuel + 1) listed T ρ h := by
  refine ⟨fun w hA => ⟨fun h0 => absurd h0 hne, fun j hj => ?_⟩⟩
  obtain ⟨o, hi, hl⟩ := hall j hj
  have h1 := hl.out w hA
  have hi' : ops.toArray[j]? = some o := by simpa using hi
  have hfm : (T.map fun q => (q.1, Sin E q.2)).filter (fun q => !(waitsB .any ops.toArray j q.1)) = (T.filter fun q => !(waitsB .any ops.toArray j q.1)).map fun q => (q.1, Sin E q.2) := by
    rw [List.filter_map]; rfl
  rw [hfm]
  have fin : ∀ h' w', At E h' w' → (∀ q ∈ T.filter (fun q => !(waitsB .any ops.toArray j q.1)), q.2 h') → ∀ q ∈ (T.filter fun q => !(waitsB .any ops.toArray j q.1)).map (fun q => (q.1, Sin E q.2)), q.2 w' := fun h' w' hA' hT' q hq => by
    obtain ⟨q0, hq0, rfl⟩ := List.mem_map.1 hq
    exact ⟨h', hA', hT' q0 hq0⟩
  unfold wpOp
  simp only [hi']
  unfold wpList at h1
  split
  · rename_i hq
    rw [if_pos hq] at h1
    rcases h1 with h1 | h1
    · refine .inl (wp_mono2 (fun a w' hh => ?_) (fun e a w' hne hh => absurd hh.1 hne) (fun ⟨_, _, hh⟩ => by cases hh.1) h1)
      obtain ⟨_, ρ', h', rfl, hA', hS', hk⟩ := hh
      exact ⟨fin h' w' hA' hS', hk.out w' hA'⟩
    · obtain ⟨_, a, w', hq, _⟩ := h1
      cases hq
  · rename_i hq
    rw [if_neg hq] at h1
    obtain ⟨_, ρ', h', he, hA', hS', hk⟩ := h1
    rw [he]
    exact ⟨fin h' w hA' hS', hk.out w hA'⟩
theorem am_step (i : Nat) (hi : ops[i]? = some o) (hr : Region.ready .any ops.toArray listed = [i]) (hl : LW P E ops (fun ρ' h' => (∀ q ∈ T.filter (fun q => !(waitsB .any ops.toArray i q.1)), q.2 h') ∧ AM P E ops K fuel (listed.setIfInBounds i true) (T.filter fun q => !(waitsB .any ops.toArray i q.1)) ρ' h') [o] ρ h) : AM P E ops K (fuel + 1) listed T ρ h := by
  refine ⟨fun w hA => ⟨fun h0 => (by rw [hr] at h0; cases h0), fun j hj => ?_⟩⟩
  rw [hr] at hj
  obtain rfl : j = i := by simpa using hj
  have h1 := hl.out w hA
  have hi' : ops.toArray[j]? = some o := by simpa using hi
  have hfm : (T.map fun q => (q.1, Sin E q.2)).filter (fun q => !(waitsB .any ops.toArray j q.1)) = (T.filter fun q => !(waitsB .any ops.toArray j q.1)).map fun q => (q.1, Sin E q.2) := by
    rw [List.filter_map]; rfl
  rw [hfm]
  have fin : ∀ h' w', At E h' w' → (∀ q ∈ T.filter (fun q => !(waitsB .any ops.toArray j q.1)), q.2 h') → ∀ q ∈ (T.filter fun q => !(waitsB .any ops.toArray j q.1)).map (fun q => (q.1, Sin E q.2)), q.2 w' := fun h' w' hA' hT' q hq => by
    obtain ⟨q0, hq0, rfl⟩ := List.mem_map.1 hq
    exact ⟨h', hA', hT' q0 hq0⟩
  unfold wpOp
  simp only [hi']
  unfold wpList at h1
  split
  · rename_i hq
    rw [if_pos hq] at h1
    rcases h1 with h1 | h1
    · refine .inl (wp_mono2 (fun a w' hh => ?_) (fun e a w' hne hh => absurd hh.1 hne) (fun ⟨_, _, hh⟩ => by cases hh.1) h1)
      obtain ⟨_, ρ', h', rfl, hA', hS', hk⟩ := hh
      exact ⟨fin h' w' hA' hS', hk.out w' hA'⟩
    · obtain ⟨_, a, w', hq, _⟩ := h1
      cases hq
  · rename_i hq
    rw [if_neg hq] at h1
    obtain ⟨_, ρ', h', he, hA', hS', hk⟩ := h1
    rw [he]
    exact ⟨fin h' w hA' hS', hk.out w hA'⟩
end
end Go.Proofs.YtpedmnlpccngiaaDoor.K
