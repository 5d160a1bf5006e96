/-
  Regions that draw their order and write: the operations that only read are taken first, what writes comes up alone.
-/
import Derived.Test.YtchhjooifjcnkaaKMem
import Derived.OrdersHeld
namespace Go.Proofs.Ytchhjooifjcnkaa.K
open Go

structure AW (P : Program) (E : Env) (S : Array Obj → Prop) (ops : List Oper) (K : List Value → Array Obj → Prop) (fuel : Nat) (listed : Array Bool) (ρ : List Value) (h : Array Obj) : Prop where
  out : ∀ w, At E h w → wpAnyH P .any ops.toArray (fun e a w' => e = .normal ∧ ∃ ρ' h', a = act ρ' ∧ At E h' w' ∧ K ρ' h') (Sin E S) fuel listed (act ρ) w

theorem wp_mono2 {P : Program} {o : Oper} {a : Act} {w : World} {K K' : Act → World → Prop} {Q Q' : Exit → Act → World → Prop} (h : ∀ a w, K a w → K' a w) (hq : ∀ e a w, e ≠ .normal → Q e a w → Q' e a w) (hl : LetsOut Q → LetsOut Q') (hh : o.wp P a w K Q) : o.wp P a w K' Q' := by
  unfold Oper.wp at *
  generalize (execOp a.eval o).run P w = r at *
  cases r with
  | ok n w' =>
    cases n <;> simp only [Oper.upon] at hh ⊢ <;>
      first
        | exact h _ _ hh
        | exact Calls.mono hh (fun e w'' he => by cases e <;> first | exact h _ _ he | exact hq _ _ _ (by simp) he | exact hl he)
        | exact Rows.mono hh (fun _ _ he => h _ _ he)
  | halt x w' => cases x <;> simp only [Oper.upon] at hh ⊢ <;> first | exact hh | exact hq _ _ _ (by simp) hh

section
variable {P : Program} {f : FuncId} {E : Env} {R : Value → Array Obj → Prop} {kk : List Item} {S : Array Obj → Prop} {ops : List Oper} {K : List Value → Array Obj → Prop} {ρ ρ' : List Value} {o : Oper} {h0 h h' : Array Obj} {v : Value} {fuel n : Nat} {listed : Array Bool} {i : Nat} {M L : List Blk}

theorem tw_held (S : Array Obj → Prop) {id : Nat} (hm : P.follows .mixedOrders = true) (hn : ops.length = n) (hl : ∀ K : List Value → Array Obj → Prop, (∀ ρ h, TW P f E R kk ρ h → K ρ h) → AW P E S ops K n (Array.replicate n false) ρ h) : TW P f E R (.code (.region id ops.toArray true) :: kk) ρ h :=
  TW.of_wp fun w hw => by
    subst hn
    exact wp_region_held (S := Sin E S) hm (by simpa using (hl _ (fun _ _ h => h)).out { w with drawn := w.drawn + 1 } ⟨hw.1, hw.2.1, hw.2.2.1, hw.2.2.2⟩)
theorem aw_done (hr : Region.ready .any ops.toArray listed = []) (hk : K ρ h) : AW P E S ops K fuel listed ρ h :=
  ⟨fun _ hw => wpAnyH_done hr ⟨rfl, ρ, h, rfl, hw, hk⟩ fuel⟩
/-- An operation that only reads is taken first. -/
theorem aw_take (i : Nat) (hi : ops[i]? = some o) (hs : Region.noSelect ops.toArray = true) (hf : Region.free .any ops.toArray listed i = true) (hr : (Region.ready .any ops.toArray listed).contains i = true)
    (hS : S h) (hw : Wan ops ρ o) (hx : ∀ h, S h → Pu P ρ o h v) (hset : setD ρ o.dst v = ρ') (hk : AW P E S ops K fuel (listed.setIfInBounds i true) ρ' h) : AW P E S ops K (fuel + 1) listed ρ h := by
  refine ⟨fun w hA => wpAnyH_take (i := i) (oi := o) (v := v) (by simpa using hi) hs hf hr (fun c a w hq => by cases hq.1) (.inl ⟨hw.out, fun w' ⟨h', hA', hS'⟩ => ?_⟩) ⟨h, hA, hS⟩ ?_⟩
  · rw [eval_mk]; exact (hx h' hS').out w' hA'.1
  · rw [put_mk, hset]; exact hk.out w hA
theorem aw_skip_gen (i : Nat) (hi : ops[i]? = some o) (hs : Region.noSelect ops.toArray = true) (hf : Region.free .any ops.toArray listed i = true) (hr : (Region.ready .any ops.toArray listed).contains i = true)
    (hS : S h) (hw : Region.wanted o (yielded ops.toArray (act ρ).tmps) = false) (hset : setD ρ o.dst undef = ρ') (hk : AW P E S ops K fuel (listed.setIfInBounds i true) ρ' h) : AW P E S ops K (fuel + 1) listed ρ h := by
  refine ⟨fun w hA => wpAnyH_take (i := i) (oi := o) (v := undef) (by simpa using hi) hs hf hr (fun c a w hq => by cases hq.1) (.inr ⟨hw, rfl⟩) ⟨h, hA, hS⟩ ?_⟩
  rw [put_mk, hset]; exact hk.out w hA
theorem aw_each {l : List Nat} (hr : Region.ready .any ops.toArray listed = l) (hne : l ≠ []) (hl : ∀ j ∈ l, ∃ o, ops[j]? = some o ∧ LW P E ops (fun ρ' h' => S h' ∧ AW P E S ops K fuel (listed.setIfInBounds j true) ρ' h') [o] ρ h) : AW P E S ops K (fuel + 1) listed ρ h := by
  refine ⟨fun w hA => wpAnyH_all hr hne fun j hj => ?_⟩
  obtain ⟨o, hi, hl⟩ := hl j hj
  have h1 := hl.out w hA
  unfold wpOp
  have hi' : ops.toArray[j]? = some o := by simpa using hi
  simp only [hi']
  unfold wpList at h1
  split
  · rename_i hq
    rw [if_pos hq] at h1
    rcases h1 with h1 | h1
    · refine .inl (wp_mono2 (fun a w' hh => ?_) (fun e a w' hne hh => absurd hh.1 hne) (fun ⟨_, _, hh⟩ => by cases hh.1) h1)
      obtain ⟨_, ρ', h', rfl, hA', hS', hk⟩ := hh
      exact ⟨⟨h', hA', hS'⟩, hk.out w' hA'⟩
    · obtain ⟨_, a, w', hq, _⟩ := h1
      cases hq
  · rename_i hq
    rw [if_neg hq] at h1
    obtain ⟨_, ρ', h', he, hA', hS', hk⟩ := h1
    rw [he]
    exact ⟨⟨h', hA', hS'⟩, hk.out w hA'⟩
/-- Of those that may come up, one stands alone: it is carried out as ever. -/
theorem aw_step (i : Nat) (hi : ops[i]? = some o) (hr : Region.ready .any ops.toArray listed = [i]) (hl : LW P E ops (fun ρ' h' => S h' ∧ AW P E S ops K fuel (listed.setIfInBounds i true) ρ' h') [o] ρ h) : AW P E S ops K (fuel + 1) listed ρ h :=
  aw_each hr (by simp) fun j hj => by
    obtain rfl : j = i := by simpa using hj
    exact ⟨o, hi, hl⟩
/-- Two may come up: either way. -/
theorem aw_two {o' : Oper} (i i' : Nat) (hi : ops[i]? = some o) (hi' : ops[i']? = some o') (hr : Region.ready .any ops.toArray listed = [i, i']) (hl : LW P E ops (fun ρ' h' => S h' ∧ AW P E S ops K fuel (listed.setIfInBounds i true) ρ' h') [o] ρ h)
    (hl' : LW P E ops (fun ρ' h' => S h' ∧ AW P E S ops K fuel (listed.setIfInBounds i' true) ρ' h') [o'] ρ h) : AW P E S ops K (fuel + 1) listed ρ h :=
  aw_each hr (by simp) fun j hj => by
    have hj' : j = i ∨ j = i' := by simpa using hj
    rcases hj' with rfl | rfl
    · exact ⟨o, hi, hl⟩
    · exact ⟨o', hi', hl'⟩
theorem aw_skip_b {j t : Nat} {b : Bool} (i : Nat) (hi : ops[i]? = some o) (hs : Region.noSelect ops.toArray = true) (hf : Region.free .any ops.toArray listed i = true) (hr : (Region.ready .any ops.toArray listed).contains i = true)
    (hS : S h) (hg : o.guard = some (j, b)) (hd : (ops[j]?).bind (·.dst) = some t) (hv : ev ρ (.tmp t) = .bool (!b)) (hset : setD ρ o.dst undef = ρ') (hk : AW P E S ops K fuel (listed.setIfInBounds i true) ρ' h) : AW P E S ops K (fuel + 1) listed ρ h :=
  aw_skip_gen i hi hs hf hr hS (by cases b <;> simp [Region.wanted, hg, yielded_mk hd hv]) hset hk
theorem aw_skip_u {j t : Nat} {b : Bool} (i : Nat) (hi : ops[i]? = some o) (hs : Region.noSelect ops.toArray = true) (hf : Region.free .any ops.toArray listed i = true) (hr : (Region.ready .any ops.toArray listed).contains i = true)
    (hS : S h) (hg : o.guard = some (j, b)) (hd : (ops[j]?).bind (·.dst) = some t) (hv : ev ρ (.tmp t) = undef) (hset : setD ρ o.dst undef = ρ') (hk : AW P E S ops K fuel (listed.setIfInBounds i true) ρ' h) : AW P E S ops K (fuel + 1) listed ρ h :=
  aw_skip_gen i hi hs hf hr hS (by simp [Region.wanted, hg, yielded_undef hd hv]) hset hk
end

/-- What is told of the memory throughout a region that writes: blocks that nobody in it writes, and what was there at h0 but for M. -/
structure Hld (h0 : Array Obj) (M Ls : List Blk) (h : Array Obj) : Prop where
  size : h0.size ≤ h.size
  old : ∀ b, b < h0.size → (∀ p ∈ M, p.1 ≠ b) → h[b]? = h0[b]?
  at_ : ∀ p ∈ Ls, h[p.1]? = some (.cells p.2.1.toArray p.2.2.ty (0, 0))
theorem Mem.hld {h0 h : Array Obj} {M M' L Ls : List Blk} (hm : Mem h0 h M' L) (hk : M'.map (·.1) = M.map (·.1)) (hs : Ls.Sublist (M' ++ L)) : Hld h0 M Ls h :=
  ⟨hm.size, fun b hb hM => hm.old b hb (fun p hp he => by
    have : p.1 ∈ M.map (·.1) := by rw [← hk]; exact List.mem_map.2 ⟨p, hp, rfl⟩
    obtain ⟨q, hq, hqe⟩ := List.mem_map.1 this
    exact hM q hq (hqe.trans he)), fun p hp => hm.at_ p (hs.subset hp)⟩
theorem Hld.own {h0 h : Array Obj} {M Ls : List Blk} (hm : Hld h0 M Ls h) {B off j : Nat} {cs : List Value} {T : TypeId} {v : Value} (hj : Ls[j]? = some (B, cs, BT.c T)) (hc : cs[off]? = some v) : cell h ⟨B, off, none⟩ = some v := by
  have h1 := hm.at_ (B, cs, BT.c T) (List.mem_of_getElem? hj)
  simp only at h1
  simp [K.cell, h1, hc]
theorem Hld.ext {h0 h : Array Obj} {Ls : List Blk} (hm : Hld h0 [] Ls h) : Ext h0 h := ⟨hm.size, fun b hb => hm.old b hb (by simp)⟩
theorem tw_heldM {P : Program} {f : FuncId} {E : Env} {R : Value → Array Obj → Prop} {kk : List Item} {ops : List Oper} {ρ : List Value} {h0 h : Array Obj} {M Ls : List Blk} {n id : Nat} (_hm : Hld h0 M Ls h) (hmo : P.follows .mixedOrders = true) (hn : ops.length = n) (hl : ∀ K : List Value → Array Obj → Prop, (∀ ρ h, TW P f E R kk ρ h → K ρ h) → AW P E (Hld h0 M Ls) ops K n (Array.replicate n false) ρ h) : TW P f E R (.code (.region id ops.toArray true) :: kk) ρ h :=
  tw_held (Hld h0 M Ls) hmo hn hl
end Go.Proofs.Ytchhjooifjcnkaa.K
