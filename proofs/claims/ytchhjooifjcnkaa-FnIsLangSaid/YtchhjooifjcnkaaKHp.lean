/-
  Memory, told in two parts: what nobody changes any more, and blocks that the call owns.
-/
import Derived.Test.YtchhjooifjcnkaaKRun
namespace Go.Proofs.Ytchhjooifjcnkaa.V
open Go K

/-- m: blocks that nobody changes any more. nid: where the nodes lie, by their numbers; lv: blocks that stay blocks of cells. -/
structure Frz where
  m : Nat → Option Obj
  nid : Nat → Option Nat
  lv : Nat → Prop
  inj : ∀ i j b, nid i = some b → nid j = some b → i = j
  nlt : ∀ i b, nid i = some b → lv b
def Frz.le (F F' : Frz) : Prop := (∀ b o, F.m b = some o → F'.m b = some o) ∧ (∀ i b, F.nid i = some b → F'.nid i = some b) ∧ ∀ b, F.lv b → F'.lv b
theorem Frz.le.refl (F : Frz) : F.le F := ⟨fun _ _ h => h, fun _ _ h => h, fun _ h => h⟩
theorem Frz.le.trans {F F' F'' : Frz} (h : F.le F') (h' : F'.le F'') : F.le F'' := ⟨fun b o hb => h'.1 b o (h.1 b o hb), fun b o hb => h'.2.1 b o (h.2.1 b o hb), fun b hb => h'.2.2 b (h.2.2 b hb)⟩
def cellF (F : Frz) (a : Addr) : Option Value :=
  match F.m a.block with
  | some (.cells c _ _) => if a.spot.isSome then none else c[a.off]?
  | _ => none
def cellsF (F : Frz) (B : Nat) : Nat → List Value → Prop
  | _, [] => True
  | off, c :: cs => cellF F ⟨B, off, none⟩ = some c ∧ cellsF F B (off + 1) cs
theorem cellF.mono {F F' : Frz} (h : F.le F') {a : Addr} {v : Value} (hc : cellF F a = some v) : cellF F' a = some v := by
  unfold cellF at *
  cases hb : F.m a.block with
  | none => rw [hb] at hc; cases hc
  | some o => rw [h.1 _ _ hb]; rw [hb] at hc; exact hc
theorem cellsF.mono {F F' : Frz} (h : F.le F') {B : Nat} : ∀ {cs : List Value} {off : Nat}, cellsF F B off cs → cellsF F' B off cs
  | [], _, _ => trivial
  | _ :: _, _, ⟨h1, h2⟩ => ⟨cellF.mono h h1, cellsF.mono h h2⟩

/-- A map's entries: keys and values by turns. -/
def pairsO : List Value → Nat → List MapEntry
  | k :: v :: r, i => { key := k, val := v, born := i } :: pairsO r (i + 1)
  | _, _ => []
def mapO (cs : List Value) : Obj := .map (pairsO cs 0).toArray (cs.length / 2)
def sitO : List Value → Obj
  | [.string s, .int _ n] => .stringIter s n.toNat
  | _ => .stringIter .empty 0
/-- An object is a block. -/
def isB (o : Option Obj) : Blk → Prop
  | (_, cs, .c T) => ∃ fz, fzok fz cs.length ∧ o = some (.cells cs.toArray T fz)
  | (_, cs, .map) => o = some (mapO cs)
  | (_, cs, .sit) => o = some (sitO cs)
theorem isB.some {o : Option Obj} {p : Blk} (h : isB o p) : ∃ x, o = some x := by
  obtain ⟨b, cs, T⟩ := p
  cases T with
  | c T => obtain ⟨fz, _, h⟩ := h; exact ⟨_, h⟩
  | map => exact ⟨_, h⟩
  | sit => exact ⟨_, h⟩
theorem isB.cells {o : Option Obj} {b : Nat} {cs : List Value} {T : TypeId} (h : isB o (b, cs, T)) : ∃ fz, fzok fz cs.length ∧ o = Option.some (.cells cs.toArray T fz) := h
theorem isB.mk {o : Option Obj} {b : Nat} {cs : List Value} {T : TypeId} (h : o = Option.some (.cells cs.toArray T (0, 0))) : isB o (b, cs, T) := ⟨(0, 0), fzok0 _, h⟩
structure Hp (h : Array Obj) (F : Frz) (L : List Blk) : Prop where
  frz : ∀ b o, F.m b = some o → h[b]? = some o
  own : ∀ p ∈ L, isB h[p.1]? p
  sep : ∀ p ∈ L, F.m p.1 = none
  nodup : (L.map (·.1)).Nodup
  live : ∀ b, F.lv b → ∃ cs T, h[b]? = some (.cells cs T (0, 0))

section
variable {h h' : Array Obj} {F F' : Frz} {L L' L1 L2 Lv : List Blk}
theorem isB.mono {p : Blk} (h : isB (F.m p.1) p) (hf : F.le F') : isB (F'.m p.1) p := by
  obtain ⟨x, hx⟩ := h.some
  rw [hf.1 _ _ hx]
  rw [hx] at h
  exact h
theorem isB.frz {p : Blk} (hi : isB (F.m p.1) p) (hm : Hp h F L) : isB h[p.1]? p := by
  obtain ⟨x, hx⟩ := hi.some
  rw [hm.frz _ _ hx]
  rw [hx] at hi
  exact hi
theorem Hp.cell (hm : Hp h F L) {a : Addr} {v : Value} (hc : cellF F a = some v) : K.cell h a = some v := by
  unfold cellF at hc
  unfold K.cell
  cases hb : F.m a.block with
  | none => rw [hb] at hc; cases hc
  | some o => rw [hm.frz _ _ hb]; rw [hb] at hc; exact hc
theorem Hp.cells (hm : Hp h F L) {B : Nat} : ∀ {cs : List Value} {off : Nat}, cellsF F B off cs → cellsFrom h B off cs
  | [], _, _ => trivial
  | _ :: _, _, ⟨h1, h2⟩ => ⟨hm.cell h1, hm.cells h2⟩
theorem Hp.lt (hm : Hp h F L) {p : Blk} (hp : p ∈ L) : p.1 < h.size := by
  obtain ⟨x, hx⟩ := (hm.own p hp).some
  exact (Array.getElem?_eq_some_iff.1 hx).1
theorem Hp.flt (hm : Hp h F L) {b : Nat} {o : Obj} (hb : F.m b = some o) : b < h.size := (Array.getElem?_eq_some_iff.1 (hm.frz b o hb)).1
theorem Hp.sub (hm : Hp h F L) (hs : L'.Sublist L) : Hp h F L' := ⟨hm.frz, fun p hp => hm.own p (hs.subset hp), fun p hp => hm.sep p (hs.subset hp), hm.nodup.sublist (hs.map _), hm.live⟩
theorem Hp.perm (hm : Hp h F L) (hp : L'.Perm L) : Hp h F L' := ⟨hm.frz, fun p hq => hm.own p (hp.mem_iff.1 hq), fun p hq => hm.sep p (hp.mem_iff.1 hq), ((hp.map _).nodup_iff).2 hm.nodup, hm.live⟩
theorem Hp.weaken (hm : Hp h F' L) (hf : F.le F') : Hp h F L := ⟨fun b o hb => hm.frz b o (hf.1 b o hb), hm.own, (fun p hp => by
  cases hb : F.m p.1 with
  | none => rfl
  | some o => (have := hm.sep p hp); rw [hf.1 _ _ hb] at this; cases this), hm.nodup, fun b hb => hm.live b (hf.2.2 b hb)⟩
theorem Hp.pushB (hm : Hp h F L) (o : Obj) (cs : List Value) (T : BT) (ho : isB (some o) (h.size, cs, T)) : Hp (h.push o) F ((h.size, cs, T) :: L) := by
  refine ⟨fun b o hb => ?_, fun p hp => ?_, fun p hp => ?_, ?_, fun b hb => ?_⟩
  · have := hm.flt hb
    rw [Array.getElem?_push, if_neg (by omega)]
    exact hm.frz b o hb
  · rcases List.mem_cons.1 hp with rfl | hp
    · simpa using ho
    · have := hm.lt hp
      rw [Array.getElem?_push, if_neg (by omega)]
      exact hm.own p hp
  · rcases List.mem_cons.1 hp with rfl | hp
    · cases hb : F.m h.size with
      | none => rfl
      | some o => have := hm.flt hb; omega
    · exact hm.sep p hp
  · rw [List.map_cons, List.nodup_cons]
    refine ⟨fun hin => ?_, hm.nodup⟩
    obtain ⟨q, hq, he⟩ := List.mem_map.1 hin
    have := hm.lt hq
    omega
  · obtain ⟨cs', T', h1⟩ := hm.live b hb
    have h2 := (Array.getElem?_eq_some_iff.1 h1).1
    exact ⟨cs', T', by rw [Array.getElem?_push, if_neg (by omega)]; exact h1⟩
theorem Hp.push (hm : Hp h F L) (cs : List Value) (T : TypeId) : Hp (h.push (.cells cs.toArray T (0, 0))) F ((h.size, cs, BT.c T) :: L) := hm.pushB _ cs T (.mk rfl)
theorem Hp.pushed (hm : Hp h F L) (ob : Obj) : Hp (h.push ob) F L := ⟨fun b o hb => by
  have := hm.flt hb
  rw [Array.getElem?_push, if_neg (by omega)]
  exact hm.frz b o hb, fun p hp => by
  have := hm.lt hp
  rw [Array.getElem?_push, if_neg (by omega)]
  exact hm.own p hp, hm.sep, hm.nodup, fun b hb => by
  obtain ⟨cs', T', h1⟩ := hm.live b hb
  have h2 := (Array.getElem?_eq_some_iff.1 h1).1
  exact ⟨cs', T', by rw [Array.getElem?_push, if_neg (by omega)]; exact h1⟩⟩
/-- A block is written whole: j is its place. -/
theorem Hp.putB (hm : Hp h F L) {j B : Nat} {cs cs' : List Value} {T : BT} (hj : L[j]? = some (B, cs, T)) (ho : ∀ b, b ≠ B → h'[b]? = h[b]?) (hb : isB h'[B]? (B, cs', T)) (hl : ∀ c t, h[B]? = some (.cells c t (0, 0)) → ∃ c t, h'[B]? = some (.cells c t (0, 0))) : Hp h' F (L.set j (B, cs', T)) := by
  have hjl : j < L.length := (List.getElem?_eq_some_iff.1 hj).1
  have hkeys : (L.set j (B, cs', T)).map (·.1) = L.map (·.1) := by
    rw [List.map_set]
    apply List.ext_getElem?
    intro i
    by_cases e : j = i
    · subst e
      rw [List.getElem?_set_self (by simpa using hjl), List.getElem?_map, hj]
      rfl
    · rw [List.getElem?_set_ne e]
  refine ⟨fun b o hbo => ?_, fun p hp => ?_, fun p hp => ?_, by rw [hkeys]; exact hm.nodup, fun b hbi => ?_⟩
  · have hne : b ≠ B := fun e => by
      subst e
      have := hm.sep _ (List.mem_of_getElem? hj)
      simp only at this
      rw [this] at hbo
      cases hbo
    rw [ho b hne]
    exact hm.frz b o hbo
  · obtain ⟨i, hi⟩ := List.mem_iff_getElem?.1 hp
    by_cases e : j = i
    · subst e
      rw [List.getElem?_set_self hjl] at hi
      obtain rfl := Option.some.inj hi
      exact hb
    · rw [List.getElem?_set_ne e] at hi
      have hne : p.1 ≠ B := fun he => by
        have h1 : (L.map (·.1))[i]? = some p.1 := by simp [hi]
        have h2 : (L.map (·.1))[j]? = some B := by simp [hj]
        rw [he] at h1
        obtain ⟨hi', hi''⟩ := List.getElem?_eq_some_iff.1 h1
        obtain ⟨hj', hj''⟩ := List.getElem?_eq_some_iff.1 h2
        exact e ((List.getElem_inj (h₀ := hi') (h₁ := hj') hm.nodup).1 (hi''.trans hj''.symm)).symm
      rw [ho _ hne]
      exact hm.own p (List.mem_of_getElem? hi)
  · have : p.1 ∈ L.map (·.1) := by rw [← hkeys]; exact List.mem_map.2 ⟨p, hp, rfl⟩
    obtain ⟨q, hq, he⟩ := List.mem_map.1 this
    rw [← he]
    exact hm.sep q hq
  · obtain ⟨c0, T0, h1⟩ := hm.live b hbi
    by_cases e : b = B
    · subst e; exact hl _ _ h1
    · exact ⟨c0, T0, by rw [ho b e]; exact h1⟩
theorem Hp.put (hm : Hp h F L) {j B : Nat} {cs cs' : List Value} {T : TypeId} {fz : Nat × Nat} (hj : L[j]? = some (B, cs, BT.c T)) (ho : ∀ b, b ≠ B → h'[b]? = h[b]?) (h0 : h[B]? = some (.cells cs.toArray T fz)) (hz : fzok fz cs'.length) (hb : h'[B]? = some (.cells cs'.toArray T fz)) : Hp h' F (L.set j (B, cs', BT.c T)) :=
  hm.putB hj ho ⟨fz, hz, hb⟩ fun c t h1 => by
    rw [h0] at h1
    cases h1
    exact ⟨_, _, hb⟩
/-- Owned blocks that nobody changes from here on. -/
def Frz.add (F : Frz) (h : Array Obj) (L : List Blk) : Frz := ⟨fun b => match L.find? (fun p => p.1 == b) with
  | some _ => h[b]?
  | none => F.m b, F.nid, F.lv, F.inj, F.nlt⟩
theorem Hp.freeze (hm : Hp h F (Lv ++ L)) : Hp h (F.add h Lv) L ∧ F.le (F.add h Lv) := by
  have hn := hm.nodup
  rw [List.map_append, List.nodup_append] at hn
  refine ⟨⟨fun b o hb => ?_, fun p hp => hm.own p (by simp [hp]), fun p hp => ?_, hn.2.1, hm.live⟩, ⟨fun b o hb => ?_, fun _ _ h => h, fun _ h => h⟩⟩
  · simp only [Frz.add] at hb
    split at hb
    · exact hb
    · exact hm.frz b o hb
  · simp only [Frz.add]
    split
    · rename_i q hq
      have h1 := List.find?_some hq
      have h2 := List.mem_of_find?_eq_some hq
      simp at h1
      exact absurd rfl (hn.2.2 q.1 (List.mem_map.2 ⟨q, h2, rfl⟩) q.1 (by rw [h1]; exact List.mem_map.2 ⟨p, hp, rfl⟩))
    · exact hm.sep p (by simp [hp])
  · simp only [Frz.add]
    split
    · exact hm.frz b o hb
    · exact hb
theorem add_get (hm : Hp h F (Lv ++ L)) {p : Blk} (hp : p ∈ Lv) : isB ((F.add h Lv).m p.1) p := by
  simp only [Frz.add]
  cases hf : Lv.find? (fun q => q.1 == p.1) with
  | none =>
    have := List.find?_eq_none.1 hf p hp
    simp at this
  | some q => exact hm.own p (by simp [hp])

/-- Nodes that are made. -/
def Frz.node (F : Frz) (i B : Nat) (hB : ∀ j, F.nid j ≠ some B) : Frz := ⟨F.m, fun j => if j = i then some B else F.nid j, fun b => b = B ∨ F.lv b, fun a b c h1 h2 => by
  by_cases ha : a = i <;> by_cases hb : b = i
  · rw [ha, hb]
  · rw [if_pos ha] at h1; rw [if_neg hb] at h2; cases h1; exact absurd h2 (hB b)
  · rw [if_neg ha] at h1; rw [if_pos hb] at h2; cases h2; exact absurd h1 (hB a)
  · rw [if_neg ha] at h1; rw [if_neg hb] at h2; exact F.inj a b c h1 h2, fun j b hj => by
  by_cases e : j = i
  · rw [if_pos e] at hj; cases hj; exact .inl rfl
  · rw [if_neg e] at hj; exact .inr (F.nlt j b hj)⟩
theorem Frz.node_le {i B : Nat} {hB : ∀ j, F.nid j ≠ some B} (hi : F.nid i = none) : F.le (F.node i B hB) := ⟨fun _ _ h => h, fun j b hj => by
  show (if j = i then some B else F.nid j) = some b
  by_cases e : j = i
  · subst e; rw [hi] at hj; cases hj
  · rw [if_neg e]; exact hj, fun _ h => .inr h⟩
theorem Hp.node {i B : Nat} {hB : ∀ j, F.nid j ≠ some B} (hm : Hp h F L) (hb : ∃ cs T, h[B]? = some (.cells cs T (0, 0))) : Hp h (F.node i B hB) L := ⟨hm.frz, hm.own, hm.sep, hm.nodup, fun b hl => by
  rcases hl with rfl | hl
  · exact hb
  · exact hm.live b hl⟩
theorem Hp.fresh (hm : Hp h F L) : ∀ j, F.nid j ≠ some h.size := fun j hj => by
  obtain ⟨cs, T, h1⟩ := hm.live _ (F.nlt j _ hj)
  have := (Array.getElem?_eq_some_iff.1 h1).1
  omega

/-- What an operation does. -/
structure Ef (P : Program) (ρ : List Value) (o : Oper) (h : Array Obj) (Q : Value → Array Obj → Prop) : Prop where
  out : ∀ E w, At E h w → ∃ n w' h' v, (execOp (ev ρ) o).run P w = .ok n w' ∧ At E h' w' ∧ (n = .value v ∨ (n = .skip ∧ v = undef)) ∧ Q v h'
theorem lw_ef {P : Program} {E : Env} {ops rest : List Oper} {K : List Value → Array Obj → Prop} {ρ : List Value} {o : Oper} {Q : Value → Array Obj → Prop} (hg : Region.wanted o (yielded ops.toArray (act ρ).tmps) = true) (hx : Ef P ρ o h Q) (hk : ∀ v h', Q v h' → LW P E ops K rest (setD ρ o.dst v) h') : LW P E ops K (o :: rest) ρ h := by
  refine ⟨fun w hw => ?_⟩
  unfold wpList
  rw [if_pos hg]
  refine .inl ?_
  obtain ⟨n, w', h', v, hr, hA, hn, hQ⟩ := hx.out E w hw
  unfold Oper.wp
  rw [eval_mk, hr]
  rcases hn with rfl | ⟨rfl, rfl⟩
  · rw [Oper.upon_value, put_mk]; exact (hk _ _ hQ).out w' hA
  · rw [Oper.upon_skip, put_mk]; exact (hk _ _ hQ).out w' hA
theorem Ef.of_ex {P : Program} {ρ : List Value} {o : Oper} {v : Value} {Q : Value → Array Obj → Prop} (hx : Ex P ρ o h v h') (hQ : Q v h') : Ef P ρ o h Q :=
  ⟨fun E w hw => by obtain ⟨n, w', h1, h2, h3⟩ := hx.out E w hw; exact ⟨n, w', h', v, h1, h2, h3, hQ⟩⟩
theorem Ef.mono {P : Program} {ρ : List Value} {o : Oper} {Q Q' : Value → Array Obj → Prop} (hx : Ef P ρ o h Q) (hQ : ∀ v h', Q v h' → Q' v h') : Ef P ρ o h Q' :=
  ⟨fun E w hw => by obtain ⟨n, w', h', v, h1, h2, h3, h4⟩ := hx.out E w hw; exact ⟨n, w', h', v, h1, h2, h3, hQ _ _ h4⟩⟩
end
end Go.Proofs.Ytchhjooifjcnkaa.V
