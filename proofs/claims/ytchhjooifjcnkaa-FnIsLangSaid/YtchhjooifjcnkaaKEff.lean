/-
  Operations that make or change memory: what the evaluator says of them is what the machine does.
-/
import Derived.Test.YtchhjooifjcnkaaKPure
namespace Go.Proofs.Ytchhjooifjcnkaa.V
open Go K

/-- append, run: what it hands back and what it leaves. -/

theorem run_appendL {P : Program} {S X e ty : TypeId} {X' : TypeId} {i : TypeInfo} {z : Value} {sz n : Nat} {xv : Value} {v : Value} {vals new : List Value} {Lv L1 L2 Lf : List Blk} {F : Frz} {E : Env} {h : Array Obj}
    [Und P S (.slice e)] [Und P X (.slice X')] [Siz P e sz] [Inf P e i] [Zer P e z] (hz : z.cells.size = sz) (hm : Hp h F Lf) (hL : Lf = L1 ++ (Lv ++ L2)) (sh : SlSh sz e v Lv vals) (hlx : ∀ w : World, (Builtin.lenOf xv).run P w = .ok n w) (hload : ∀ w : World, w.heap = h → (Builtin.firstCells sz n xv).run P w = .ok new.toArray w) (hn : new.length = n * sz) (hone : ∀ u ∈ new, u.oneCell' = true)
    (hr : (vals.length + new.length) * (i.bytes + 1) ≤ 2 ^ 46) (hsz : 0 < sz) (w : World) (hw : At E h w) (hpos : 0 < n) :
    ∃ v' w' Lv' h', (Builtin.append_ #[S, X] ty #[v, xv]).run P w = .ok v' w' ∧ At E h' w' ∧ SlSh sz e v' Lv' (vals ++ new) ∧ Hp h' F (L1 ++ (Lv' ++ L2)) := by
  have hlen : new.length ≥ n := by rw [hn]; exact Nat.le_mul_of_pos_right n hsz
  have key : ∀ (q : Option Addr) (sLen sCap : Nat) (old : List Value), v = .slice q sLen sCap → sCap < sLen + n → sLen ≤ vals.length → old = vals → (∀ w : World, w.heap = h → (Builtin.firstCells sz sLen v).run P w = .ok old.toArray w) → sLen * sz = vals.length →
      ∃ v' w' Lv' h', (Builtin.append_ #[S, X] ty #[v, xv]).run P w = .ok v' w' ∧ At E h' w' ∧ SlSh sz e v' Lv' (vals ++ new) ∧ Hp h' F (L1 ++ (Lv' ++ L2)) := by
    intro q sLen sCap old hv hcap hsl hold hfirst hlen'
    subst hold
    have hb0 : (sLen + n) * i.bytes ≤ 2 ^ 46 := Nat.le_trans (Nat.mul_le_mul (by omega) (by omega)) hr
    have hb1 : ¬ Builtin.nextslicecap (sLen + n) sCap * i.bytes > 2 ^ 48 := by
      have h1 := K.nextslicecap_le (sLen + n) sCap hcap
      have h2 : Builtin.nextslicecap (sLen + n) sCap * i.bytes ≤ 2 * (sLen + n) * i.bytes := Nat.mul_le_mul_right _ h1
      have h3 : 2 * (sLen + n) * i.bytes = 2 * ((sLen + n) * i.bytes) := by rw [Nat.mul_assoc]
      omega
    have hb2 : ¬ (((sLen + n : Nat) : Int) > IntKind.i64.max ∧ (false = true ∨ i.bytes = 0)) := by
      have h4 : (sLen + n) ≤ (old.length + new.length) * (i.bytes + 1) := Nat.le_trans (by omega) (Nat.le_mul_of_pos_right _ (by omega))
      simp only [IntKind.max, IntKind.signed, IntKind.bits]
      simp
      omega
    let q' : Question := .appendCap (sLen + n) sCap e
    let nc := q'.cut (w.tape w.drawn q')
    have hnc : sLen + n ≤ nc := Nat.le_add_right _ _
    let w1 : World := w.drew
    let cs := old ++ new ++ (Builtin.zeroCells z.cells (nc - (sLen + n))).toList
    have hwh : w.heap = h := hw.1
    refine ⟨.slice (some ⟨h.size, 0, none⟩) (sLen + n) nc, { w1 with heap := w1.heap.push (.cells cs.toArray e (0, 0)) }, [(h.size, cs, BT.c e)], h.push (.cells cs.toArray e (0, 0)), ?_, ⟨by rw [← hwh]; rfl, hw.2.1, hw.2.2.1, hw.2.2.2⟩, .inr ⟨h.size, sLen + n, nc, (Builtin.zeroCells z.cells (nc - (sLen + n))).toList, rfl, rfl, ?_, ?_, hnc⟩, ?_⟩
    · have hneg : ¬ (sLen + n ≤ sCap) := by omega
      subst hv
      simp only [Builtin.append_]
      simp [und S w, und X w, siz e w, hlx, hneg, fun w => inf (P := P) e w, hb1]
      have hb2' : ¬ (9223372036854775807 < ((sLen : Int) + (n : Int)) ∧ i.bytes = 0) := by
        simp only [IntKind.max, IntKind.signed, IntKind.bits] at hb2
        simp at hb2
        omega
      simp only [IntKind.max, IntKind.signed, IntKind.bits] at *
      simp [hb2', Question.forced]
      have h5 := hfirst w1 hwh
      have h6 := hload w1 hwh
      simp only [w1] at h5 h6
      simp [h5, h6, fun w => zer (P := P) e w, newRow, hwh, cs, nc, q', w1]
      exact congrArg (fun a => w.drew.alloc (Obj.cells a e)) (Array.ext' (by simp))
    · simp [Nat.add_mul, hn]; omega
    · simp only [List.length_append, Array.length_toList, length_zeroCells, hz]
      rw [hn, ← hlen', Nat.sub_mul, Nat.add_mul]
      have := Nat.mul_le_mul_right sz hnc
      rw [Nat.add_mul] at this
      omega
    · have h7 := hm.push cs e
      have h8 : Hp _ F ((h.size, cs, BT.c e) :: (L1 ++ L2)) := h7.sub (by rw [hL]; exact List.Sublist.cons_cons _ ((List.Sublist.refl _).append (List.sublist_append_right _ _)))
      exact h8.perm List.perm_middle
  rcases sh with ⟨rfl, rfl, rfl⟩ | ⟨B, sLen, cap, spare, rfl, rfl, hlen', hcap', hle⟩
  · exact key none 0 0 [] rfl (by omega) (Nat.le_refl _) rfl (fun w _ => by simp [Builtin.firstCells]) (by simp)
  · by_cases hroom : sLen + n ≤ cap
    · have hmem : (B, vals ++ spare, BT.c e) ∈ Lf := by rw [hL]; simp
      obtain ⟨fz, hfz, hb⟩ := (hm.own _ hmem).cells
      have hsp : new.length ≤ spare.length := by
        have := Nat.mul_le_mul_right sz hroom
        rw [Nat.add_mul] at this
        omega
      obtain ⟨w', h1, h2, h3, h4, h5, h6, h7⟩ := run_storeCellsZ (P := P) new vals spare w B 0 e hfz hone (by rw [hw.1]; exact hb) hsp (sLen * sz) (by rw [hlen']; rfl)
      refine ⟨.slice (some ⟨B, 0, none⟩) (sLen + n) cap, w', [(B, (vals ++ new) ++ spare.drop new.length, BT.c e)], w'.heap, ?_, ⟨rfl, by rw [h2]; exact hw.2.1, by rw [h3]; exact hw.2.2.1, by rw [h4]; exact hw.2.2.2⟩, .inr ⟨B, sLen + n, cap, spare.drop new.length, rfl, rfl, by simp [Nat.add_mul, hn]; omega, by simp; omega, hroom⟩, ?_⟩
      · have h8 := hload w hw.1
        simp only [Builtin.append_]
        simp [und S w, und X w, siz e w, hlx, hroom, h8, add_at, h1]
      · have hml : Lf[L1.length]? = some (B, vals ++ spare, BT.c e) := by
          rw [hL]
          simp
        have hln2 : ((vals ++ new) ++ spare.drop new.length).length = (vals ++ spare).length := by simp; omega
        have hp := hm.put (h' := w'.heap) (cs' := (vals ++ new) ++ spare.drop new.length) hml (fun b hb' => by rw [h6 b hb', hw.1]) hb (by rw [hln2]; exact hfz) (by rw [h7])
        rw [hL, List.set_append_right _ _ (Nat.le_refl _)] at hp
        simpa using hp
    · refine key (some ⟨B, 0, none⟩) sLen cap vals rfl (by omega) ?_ rfl (fun w hw' => ?_) hlen'
      · rw [← hlen']; exact Nat.le_mul_of_pos_right _ hsz
      · have hmem : (B, vals ++ spare, BT.c e) ∈ Lf := by rw [hL]; simp
        obtain ⟨fz, _, hb⟩ := (hm.own _ hmem).cells
        have hc := cells_of_row vals [] spare 0 (by simpa using hb) rfl
        subst hw'
        have := K.run_loadCellsFrom (P := P) w B 0 vals 0 #[] (by simpa using hc)
        simpa [Builtin.firstCells, loadCells, hlen'] using this

theorem run_appendS {P : Program} {S X e ty : TypeId} {X' : TypeId} {i : TypeInfo} {z : Value} {sz n : Nat} {xv : Value} {v : Value} {vals new : List Value} {Lv L1 L2 Lf : List Blk} {F : Frz} {E : Env} {h : Array Obj}
    [Und P S (.slice e)] [Und P X .string] [Siz P e sz] [Inf P e i] [Zer P e z] (hz : z.cells.size = sz) (hm : Hp h F Lf) (hL : Lf = L1 ++ (Lv ++ L2)) (sh : SlSh sz e v Lv vals) (hlx : ∀ w : World, (Builtin.lenOf xv).run P w = .ok n w) (hload : ∀ w : World, w.heap = h → (Builtin.firstCells sz n xv).run P w = .ok new.toArray w) (hn : new.length = n * sz) (hone : ∀ u ∈ new, u.oneCell' = true)
    (hr : (vals.length + new.length) * (i.bytes + 1) ≤ 2 ^ 46) (hsz : 0 < sz) (w : World) (hw : At E h w) (hpos : 0 < n) :
    ∃ v' w' Lv' h', (Builtin.append_ #[S, X] ty #[v, xv]).run P w = .ok v' w' ∧ At E h' w' ∧ SlSh sz e v' Lv' (vals ++ new) ∧ Hp h' F (L1 ++ (Lv' ++ L2)) := by
  have hlen : new.length ≥ n := by rw [hn]; exact Nat.le_mul_of_pos_right n hsz
  have key : ∀ (q : Option Addr) (sLen sCap : Nat) (old : List Value), v = .slice q sLen sCap → sCap < sLen + n → sLen ≤ vals.length → old = vals → (∀ w : World, w.heap = h → (Builtin.firstCells sz sLen v).run P w = .ok old.toArray w) → sLen * sz = vals.length →
      ∃ v' w' Lv' h', (Builtin.append_ #[S, X] ty #[v, xv]).run P w = .ok v' w' ∧ At E h' w' ∧ SlSh sz e v' Lv' (vals ++ new) ∧ Hp h' F (L1 ++ (Lv' ++ L2)) := by
    intro q sLen sCap old hv hcap hsl hold hfirst hlen'
    subst hold
    have hb0 : (sLen + n) * i.bytes ≤ 2 ^ 46 := Nat.le_trans (Nat.mul_le_mul (by omega) (by omega)) hr
    have hb1 : ¬ Builtin.nextslicecap (sLen + n) sCap * i.bytes > 2 ^ 48 := by
      have h1 := K.nextslicecap_le (sLen + n) sCap hcap
      have h2 : Builtin.nextslicecap (sLen + n) sCap * i.bytes ≤ 2 * (sLen + n) * i.bytes := Nat.mul_le_mul_right _ h1
      have h3 : 2 * (sLen + n) * i.bytes = 2 * ((sLen + n) * i.bytes) := by rw [Nat.mul_assoc]
      omega
    have hb2 : ¬ (((sLen + n : Nat) : Int) > IntKind.i64.max ∧ (false = true ∨ i.bytes = 0)) := by
      have h4 : (sLen + n) ≤ (old.length + new.length) * (i.bytes + 1) := Nat.le_trans (by omega) (Nat.le_mul_of_pos_right _ (by omega))
      simp only [IntKind.max, IntKind.signed, IntKind.bits]
      simp
      omega
    let q' : Question := .appendCap (sLen + n) sCap e
    let nc := q'.cut (w.tape w.drawn q')
    have hnc : sLen + n ≤ nc := Nat.le_add_right _ _
    let w1 : World := w.drew
    let cs := old ++ new ++ (Builtin.zeroCells z.cells (nc - (sLen + n))).toList
    have hwh : w.heap = h := hw.1
    refine ⟨.slice (some ⟨h.size, 0, none⟩) (sLen + n) nc, { w1 with heap := w1.heap.push (.cells cs.toArray e (0, 0)) }, [(h.size, cs, BT.c e)], h.push (.cells cs.toArray e (0, 0)), ?_, ⟨by rw [← hwh]; rfl, hw.2.1, hw.2.2.1, hw.2.2.2⟩, .inr ⟨h.size, sLen + n, nc, (Builtin.zeroCells z.cells (nc - (sLen + n))).toList, rfl, rfl, ?_, ?_, hnc⟩, ?_⟩
    · have hneg : ¬ (sLen + n ≤ sCap) := by omega
      subst hv
      simp only [Builtin.append_]
      simp [und S w, und X w, siz e w, hlx, hneg, fun w => inf (P := P) e w, hb1]
      have hb2' : ¬ (9223372036854775807 < ((sLen : Int) + (n : Int)) ∧ i.bytes = 0) := by
        simp only [IntKind.max, IntKind.signed, IntKind.bits] at hb2
        simp at hb2
        omega
      simp only [IntKind.max, IntKind.signed, IntKind.bits] at *
      simp [hb2', Question.forced]
      have h5 := hfirst w1 hwh
      have h6 := hload w1 hwh
      simp only [w1] at h5 h6
      simp [h5, h6, fun w => zer (P := P) e w, newRow, hwh, cs, nc, q', w1]
      exact congrArg (fun a => w.drew.alloc (Obj.cells a e)) (Array.ext' (by simp))
    · simp [Nat.add_mul, hn]; omega
    · simp only [List.length_append, Array.length_toList, length_zeroCells, hz]
      rw [hn, ← hlen', Nat.sub_mul, Nat.add_mul]
      have := Nat.mul_le_mul_right sz hnc
      rw [Nat.add_mul] at this
      omega
    · have h7 := hm.push cs e
      have h8 : Hp _ F ((h.size, cs, BT.c e) :: (L1 ++ L2)) := h7.sub (by rw [hL]; exact List.Sublist.cons_cons _ ((List.Sublist.refl _).append (List.sublist_append_right _ _)))
      exact h8.perm List.perm_middle
  rcases sh with ⟨rfl, rfl, rfl⟩ | ⟨B, sLen, cap, spare, rfl, rfl, hlen', hcap', hle⟩
  · exact key none 0 0 [] rfl (by omega) (Nat.le_refl _) rfl (fun w _ => by simp [Builtin.firstCells]) (by simp)
  · by_cases hroom : sLen + n ≤ cap
    · have hmem : (B, vals ++ spare, BT.c e) ∈ Lf := by rw [hL]; simp
      obtain ⟨fz, hfz, hb⟩ := (hm.own _ hmem).cells
      have hsp : new.length ≤ spare.length := by
        have := Nat.mul_le_mul_right sz hroom
        rw [Nat.add_mul] at this
        omega
      obtain ⟨w', h1, h2, h3, h4, h5, h6, h7⟩ := run_storeCellsZ (P := P) new vals spare w B 0 e hfz hone (by rw [hw.1]; exact hb) hsp (sLen * sz) (by rw [hlen']; rfl)
      refine ⟨.slice (some ⟨B, 0, none⟩) (sLen + n) cap, w', [(B, (vals ++ new) ++ spare.drop new.length, BT.c e)], w'.heap, ?_, ⟨rfl, by rw [h2]; exact hw.2.1, by rw [h3]; exact hw.2.2.1, by rw [h4]; exact hw.2.2.2⟩, .inr ⟨B, sLen + n, cap, spare.drop new.length, rfl, rfl, by simp [Nat.add_mul, hn]; omega, by simp; omega, hroom⟩, ?_⟩
      · have h8 := hload w hw.1
        simp only [Builtin.append_]
        simp [und S w, und X w, siz e w, hlx, hroom, h8, add_at, h1]
      · have hml : Lf[L1.length]? = some (B, vals ++ spare, BT.c e) := by
          rw [hL]
          simp
        have hln2 : ((vals ++ new) ++ spare.drop new.length).length = (vals ++ spare).length := by simp; omega
        have hp := hm.put (h' := w'.heap) (cs' := (vals ++ new) ++ spare.drop new.length) hml (fun b hb' => by rw [h6 b hb', hw.1]) hb (by rw [hln2]; exact hfz) (by rw [h7])
        rw [hL, List.set_append_right _ _ (Nat.le_refl _)] at hp
        simpa using hp
    · refine key (some ⟨B, 0, none⟩) sLen cap vals rfl (by omega) ?_ rfl (fun w hw' => ?_) hlen'
      · rw [← hlen']; exact Nat.le_mul_of_pos_right _ hsz
      · have hmem : (B, vals ++ spare, BT.c e) ∈ Lf := by rw [hL]; simp
        obtain ⟨fz, _, hb⟩ := (hm.own _ hmem).cells
        have hc := cells_of_row vals [] spare 0 (by simpa using hb) rfl
        subst hw'
        have := K.run_loadCellsFrom (P := P) w B 0 vals 0 #[] (by simpa using hc)
        simpa [Builtin.firstCells, loadCells, hlen'] using this

theorem run_appendH {P : Program} {S X e ty : TypeId} {X' : TypeId} {i : TypeInfo} {z : Value} {sz n cx : Nat} {v : Value} {vals new : List Value} {Lv L1 L2 Lf : List Blk} {F : Frz} {Bx ox : Nat} {E : Env} {h : Array Obj}
    [Und P S (.slice e)] [Und P X (.slice X')] [Siz P e sz] [Inf P e i] [Zer P e z] (hz : z.cells.size = sz) (hm : Hp h F Lf) (hL : Lf = L1 ++ (Lv ++ L2)) (sh : SlSh sz e v Lv vals) (hx : cellsFrom h Bx ox new) (hn : new.length = n * sz) (hone : ∀ u ∈ new, u.oneCell' = true)
    (hr : (vals.length + new.length) * (i.bytes + 1) ≤ 2 ^ 46) (hsz : 0 < sz) (w : World) (hw : At E h w) (hpos : 0 < n) :
    ∃ v' w' Lv' h', (Builtin.append_ #[S, X] ty #[v, .slice (some ⟨Bx, ox, none⟩) n cx]).run P w = .ok v' w' ∧ At E h' w' ∧ SlSh sz e v' Lv' (vals ++ new) ∧ Hp h' F (L1 ++ (Lv' ++ L2)) :=
  run_appendL (X' := X') hz hm hL sh (fun w => by simp [Builtin.lenOf]) (fun w hw => by
    subst hw
    have := K.run_loadCellsFrom (P := P) w Bx ox new 0 #[] (by simpa using hx)
    rw [hn] at this
    simpa [Builtin.firstCells, loadCells] using this) hn hone hr hsz w hw hpos

def Post {R : Type} (K : D → St → Option R) (r : R) (F : Frz) (ι : Gh) (s : St) (ρ : List Value) (L0 : List Blk) (dt : Nat) (v : Value) (h' : Array Obj) : Prop :=
  ∃ F' ι' d' s', F.le F' ∧ Rel F' ι' s' ρ ∧ Hp h' F' (lv ι' s'.ow ++ L0) ∧ RdV F' ι' d' v ∧ K d' s' = some r ∧ s'.n = s.n ∧ s'.np = s.np ∧ s'.nw = s.nw ∧ (s.nw = false → F'.nid = F.nid) ∧ (∀ t, (s.np / 1000 ≤ t ∧ t < s.np % 1000) → (ι' t).1 = (ι t).1) ∧ ∀ t, (∀ p ∈ s.ow, p.1 ≠ t) → t ≠ dt → t / 1000 ≠ dt + 1 → ι' t = ι t

section
variable {P : Program} {C : Cx} {R : Type} {F F' : Frz} {ι ι' : Gh} {s s' : St} {ρ : List Value} {d : D} {v : Value} {t dt : Nat} {L0 : List Blk} {r : R} {dst : Option Tmp} {ty : TypeId} {p : String} {af : Array Edge} {gd : Option (Nat × Bool)} {h : Array Obj}

theorem split_lv {b : OB} (hn : (s.ow.map (·.1)).Nodup) (hl : s.look t = some b) : ∃ l1 l2, lv ι s.ow = l1 ++ ((ι t).2 ++ l2) ∧ lv ι (s.purge t).ow = l1 ++ l2 := by
  obtain ⟨A, B, hs, hA, hB⟩ := split_ow hn hl
  refine ⟨lv ι A, lv ι B, by rw [hs, lv_append, lv_cons], ?_⟩
  rw [lv_congr (purge_keys s t), hs, List.filter_append, List.filter_cons, filter_ne hA, filter_ne hB]
  simp [lv_append]
theorem f2_of_get {α β : Type} {R : α → β → Prop} : ∀ {xs : List α} {Q : Nat → β → Prop}, (∀ i x, xs[i]? = some x → ∃ r, R x r ∧ Q i r) → ∃ rows, F2 R xs rows ∧ ∀ i r, rows[i]? = some r → Q i r
  | [], Q, _ => ⟨[], .nil, fun i r hr => by simp at hr⟩
  | x :: xs, Q, hq => by
    obtain ⟨r, h1, h2⟩ := hq 0 x rfl
    obtain ⟨rows, h3, h4⟩ := f2_of_get (xs := xs) (Q := fun i => Q (i + 1)) fun i y hy => hq (i + 1) y (by simpa using hy)
    refine ⟨r :: rows, .cons h1 h3, fun i q hi => ?_⟩
    match i with
    | 0 => simp at hi; subst hi; exact h2
    | i + 1 => exact h4 i q (by simpa using hi)
theorem f2_row {e : E} : ∀ {xs : List e.T} {rows : List (List Value)}, F2 (fun x r => Rd F (e.enc x) r) xs rows → ∀ r ∈ rows, r.length = e.sz
  | _, _, .nil, r, hr => by cases hr
  | _, _, .cons h t, r, hr => by
    rcases List.mem_cons.1 hr with rfl | hr
    · rw [h.length, enc_len]
    · exact f2_row t r hr
theorem f2_ones {e : E} : ∀ {xs : List e.T} {rows : List (List Value)}, F2 (fun x r => Rd F (e.enc x) r) xs rows → ∀ r ∈ rows, ∀ u ∈ r, u.oneCell' = true
  | _, _, .nil, r, hr => by cases hr
  | _, _, .cons h t, r, hr => by
    rcases List.mem_cons.1 hr with rfl | hr
    · exact h.ones (enc_plain _ _)
    · exact f2_ones t r hr
/-- What lies behind the elements that are handed on. -/
theorem listOf_sound {e : E} {ys : List e.T} (hr : Rel F ι s ρ) (hm : Hp h F (lv ι s.ow ++ L0)) (hd : RdV F ι d v) (hl : listOf s d e = some ys) :
    ∃ qx nx cx rows, v = .slice qx nx cx ∧ nx = ys.length ∧ nx ≤ cx ∧ (0 < nx → qx = some ⟨blk qx, offs qx, none⟩) ∧ F2 (fun x r => Rd F (e.enc x) r) ys rows ∧ cellsFrom h (blk qx) (offs qx) rows.flatten := by
  unfold listOf at hl
  split at hl
  · cases hl
    exact ⟨none, 0, 0, [], Rd.nil_inv hd, rfl, Nat.le_refl _, fun h => by omega, .nil, trivial⟩
  · rename_i e' xs
    obtain ⟨rfl, rfl⟩ := castE_eq hl
    obtain ⟨q, cp, hv, hcp, hat⟩ := Rd.at hd
    obtain ⟨rows, h1, h2⟩ := f2_of_get (R := fun x r => Rd F (e'.enc x) r) (Q := fun i cs => q = some ⟨blk q, offs q, none⟩ ∧ cellsF F (blk q) (offs q + i * e'.sz) cs) fun i x hx => by
      obtain ⟨cs, a, b, c⟩ := hat i x hx
      exact ⟨cs, c, a, b⟩
    refine ⟨q, xs.length, cp, rows, hv, rfl, hcp, fun hpos => ?_, h1, SlR.all (f2_row h1) fun i r hi => hm.cells (h2 i r hi).2⟩
    obtain ⟨cs, a, _⟩ := hat 0 xs[0] (by simp)
    exact a
  · rename_i t'
    split at hl
    · rename_i e' T xs hlk
      obtain ⟨rfl, rfl⟩ := castE_eq hl
      obtain ⟨q, n, cp, rows, g1, g2, g3⟩ := hr.look hlk
      have hd : v = (ι t').1 := hd
      have hml : n = xs.length := by rw [g2.len, ← forall2_len g3]
      refine ⟨q, n, cp, rows, by rw [hd, g1], hml, g2.le, fun hpos => ?_, g3, ?_⟩
      · rcases g2.sh with ⟨he, _, _⟩ | ⟨B, n', cap, spare, he, _, _, _, _⟩
        · cases he; omega
        · cases he; rfl
      · rcases g2.sh with ⟨he, _, hv⟩ | ⟨B, n', cap, spare, he, hL, _, _, _⟩
        · rw [hv]; trivial
        · cases he
          obtain ⟨fz, _, this⟩ := (hm.own (B, rows.flatten ++ spare, BT.c T) (List.mem_append_left _ (lv_mem hlk (by rw [hL]; simp)))).cells
          exact cells_of_row rows.flatten [] spare 0 (by show h[B]? = _; simpa using this) rfl
    · cases hl
  · cases hl
/-- append of rows to a slice that is owned. -/
theorem ef_append {S X et X' : TypeId} {e : E} {x y : Operand} {q qx : Option Addr} {n cp nx cx : Nat} {Lv L1 L2 Lf : List Blk} {rows news : List (List Value)} {i : TypeInfo} {z : Value} [Und P S (.slice et)] [Und P X (.slice X')] [Siz P et e.sz] [Inf P et i] [Zer P et z] (hz : z.cells.size = e.sz) (hx : ev ρ x = .slice q n cp) (hy : ev ρ y = .slice qx nx cx) (hm : Hp h F Lf) (hL : Lf = L1 ++ (Lv ++ L2)) (hs : SlO e.sz et q n cp Lv rows)
    (hrd : cellsFrom h (blk qx) (offs qx) news.flatten) (hq : 0 < nx → qx = some ⟨blk qx, offs qx, none⟩) (hnx : nx = news.length) (hn : ∀ r ∈ news, r.length = e.sz) (hone : ∀ r ∈ news, ∀ u ∈ r, u.oneCell' = true) (hb : e.sz * (i.bytes + 1) ≤ 32768) (hr : n + nx ≤ 2147483648) :
    Ef P ρ ⟨dst, .call ⟨.builtin .append, #[x, y], #[S, X]⟩, ty, p, af, gd⟩ h fun v h' => ∃ q' cp' Lv', v = .slice q' (n + nx) cp' ∧ SlO e.sz et q' (n + nx) cp' Lv' (rows ++ news) ∧ Hp h' F (L1 ++ (Lv' ++ L2)) := by
  have hfl := flat_len hs.row
  have hln := hs.len
  have hfn := flat_len hn
  have hsz := sz_pos e
  rcases Nat.eq_zero_or_pos nx with h0 | hpos
  · have hnil : news = [] := List.eq_nil_of_length_eq_zero (by omega)
    subst hnil
    have hle := hs.le
    refine ⟨fun E w hA => ?_⟩
    have hfc : (Builtin.firstCells e.sz 0 (.slice qx 0 cx)).run P w = .ok #[] w := by
      cases qx <;> simp [Builtin.firstCells, loadCells, loadCellsFrom]
    have hrun : (Builtin.append_ #[S, X] ty #[.slice q n cp, .slice qx 0 cx]).run P w = .ok (.slice q n cp) w := by
      simp only [Builtin.append_]
      cases q <;> simp [und S w, und X w, siz et w, Builtin.lenOf, hle, hfc, storeCells]
    refine ⟨.value (.slice q n cp), w, h, .slice q n cp, by simp [execOp, resolve, hx, hy, h0, invoke, builtin, hrun], hA, .inl rfl, q, cp, Lv, by rw [h0]; rfl, by simpa [h0] using hs, by rw [← hL]; exact hm⟩
  · have hya : ev ρ y = .slice (some ⟨blk qx, offs qx, none⟩) nx cx := by rw [hy, ← hq hpos]
    refine ⟨fun E w hA => ?_⟩
    obtain ⟨v', w', Lv', h', hrun, hA', hsh, hm'⟩ := run_appendH (P := P) (ty := ty) hz hm hL hs.sh hrd (by rw [hfn, hnx]) (fun u hu => by
      obtain ⟨r, hr1, hr2⟩ := List.mem_flatten.1 hu
      exact hone r hr1 u hr2) (by
        rw [hfl, hfn, ← hln, ← hnx, ← Nat.add_mul]
        have h2 : (n + nx) * (e.sz * (i.bytes + 1)) ≤ 2147483648 * 32768 := Nat.mul_le_mul hr hb
        rw [Nat.mul_assoc]
        omega) hsz w hA hpos (S := S) (X := X) (cx := cx)
    have hv : ∃ q' cp', v' = .slice q' (n + nx) cp' := by
      rcases hsh with ⟨rfl, _, h1⟩ | ⟨B, n', cap, spare, rfl, _, h1, _, _⟩
      · have := congrArg List.length h1
        have h3 : 0 < nx * e.sz := Nat.mul_pos hpos hsz
        simp [hfn, ← hnx] at this
        omega
      · have h2 : n' * e.sz = (n + nx) * e.sz := by rw [h1, List.length_append, hfl, hfn, ← hln, ← hnx, Nat.add_mul]
        have := Nat.eq_of_mul_eq_mul_right hsz h2
        exact ⟨_, _, by rw [this]⟩
    obtain ⟨q', cp', rfl⟩ := hv
    refine ⟨.value (.slice q' (n + nx) cp'), w', h', .slice q' (n + nx) cp', by simp [execOp, resolve, hx, hya, invoke, builtin, hrun], hA', .inl rfl, q', cp', Lv', rfl, ⟨by simpa using hsh, by simp [hln, hnx], fun r hr => ?_⟩, hm'⟩
    rcases List.mem_append.1 hr with hr | hr
    · exact hs.row r hr
    · exact hn r hr
/-- A store of cells. -/
theorem ef_store {T : TypeId} {n : Nat} [Siz P T n] {x y : Operand} {u : Value} {B off j : Nat} {pre old post new : List Value} {fz : TypeId} {L : List Blk} (hx : ev ρ x = .pointer (some ⟨B, off, none⟩)) (hy : ev ρ y = u) (hc : u.cells = new.toArray) (hn : new.length = n) (hone : ∀ u ∈ new, u.oneCell' = true) (hm : Hp h F L) (hj : L[j]? = some (B, pre ++ old ++ post, BT.c fz)) (ho : off = pre.length) (hol : old.length = n) :
    Ef P ρ ⟨dst, .store T x y, ty, p, af, gd⟩ h fun v h' => v = undef ∧ Hp h' F (L.set j (B, pre ++ new ++ post, BT.c fz)) := ⟨fun E w hw => by
  obtain ⟨fzz, hfz, hb⟩ := (hm.own _ (List.mem_of_getElem? hj)).cells
  simp only at hb
  obtain ⟨w', h1, h2, h3, h4, h5, h6, h7⟩ := run_storeCellsZ (P := P) new pre (old ++ post) w B 0 fz (by simpa using hfz) hone (by rw [hw.1, hb]; simp) (by simp; omega) off (by omega)
  refine ⟨.skip, w', w'.heap, undef, ?_, ⟨rfl, by rw [h2]; exact hw.2.1, by rw [h3]; exact hw.2.2.1, by rw [h4]; exact hw.2.2.2⟩, .inr ⟨rfl, rfl⟩, rfl, ?_⟩
  · simp [execOp, hx, hy, Instr.storeAt, Instr.sureAddr, storeVar, siz T w, hc, hn, h1]
  · have hln : (pre ++ new ++ post).length = (pre ++ old ++ post).length := by simp; omega
    refine hm.put hj (fun b hb' => by rw [h6 b hb', hw.1]) hb (by rw [hln]; exact hfz) ?_
    rw [h7]
    have : (old ++ post).drop new.length = post := by rw [hn, ← hol]; simp
    rw [this]⟩
/-- The same, the block told first. -/
theorem ef_store0 {T : TypeId} {n : Nat} [Siz P T n] {x y : Operand} {u : Value} {B off : Nat} {pre old post new : List Value} {fz : TypeId} {L : List Blk} (hx : ev ρ x = .pointer (some ⟨B, off, none⟩)) (hy : ev ρ y = u) (hc : u.cells = new.toArray) (hn : new.length = n) (hone : ∀ u ∈ new, u.oneCell' = true) (hm : Hp h F ((B, pre ++ old ++ post, BT.c fz) :: L)) (ho : off = pre.length) (hol : old.length = n) :
    Ef P ρ ⟨dst, .store T x y, ty, p, af, gd⟩ h fun v h' => v = undef ∧ Hp h' F ((B, pre ++ new ++ post, BT.c fz) :: L) :=
  ef_store (j := 0) hx hy hc hn hone hm rfl ho hol
theorem lv_perm {b : OB} (hn : (s.ow.map (·.1)).Nodup) (hl : s.look t = some b) : (lv ι s.ow).Perm ((ι t).2 ++ lv ι (s.purge t).ow) := by
  obtain ⟨l1, l2, h1, h2⟩ := split_lv (ι := ι) hn hl
  rw [h1, h2]
  exact List.perm_append_comm_assoc _ _ _
theorem find_filter {t' : Nat} (hne : t' ≠ t) : ∀ l : List (Nat × OB), (l.filter fun p => !(p.1 == t)).find? (fun p => p.1 == t') = l.find? fun p => p.1 == t'
  | [] => rfl
  | p :: l => by
    rw [List.filter_cons, List.find?_cons]
    by_cases h : p.1 = t
    · have h1 : (p.1 == t') = false := by simp; exact fun e => hne (e.symm.trans h)
      have h2 : (!(p.1 == t)) = false := by simp [h]
      rw [h2, h1]
      simp only [Bool.false_eq_true, if_false]
      exact find_filter hne l
    · have h2 : (!(p.1 == t)) = true := by simp [h]
      rw [h2]
      simp only [if_true]
      rw [List.find?_cons, find_filter hne l]
theorem purge_look {b : OB} {t' : Nat} (hne : t' ≠ t) (hl : s.look t' = some b) : (s.purge t).look t' = some (b.purge t) := by
  unfold St.look at *
  simp only [St.purge]
  rw [List.find?_map]
  have h1 : ((fun p : Nat × OB => p.1 == t') ∘ fun p : Nat × OB => (p.1, p.2.purge t)) = fun p => p.1 == t' := rfl
  rw [h1, find_filter hne]
  cases hf : s.ow.find? (fun p => p.1 == t') with
  | none => rw [hf] at hl; cases hl
  | some p =>
    rw [hf] at hl
    cases hl
    rfl
/-! The nodes -/
theorem NR.len {T A : TypeId} {hole : Option Nat} : ∀ {k : Nat} {hs : List HN} {hds : List Value} {L : List Blk}, NR F T A hole k hs hds L → hds.length = hs.length
  | _, _, _, _, .nil => rfl
  | _, _, _, _, .cons _ _ _ _ _ t => by simp [t.len]
theorem NR.append {T A : TypeId} {hole : Option Nat} {hs2 : List HN} {hds2 : List Value} {L2 : List Blk} : ∀ {k : Nat} {hs : List HN} {hds : List Value} {L : List Blk}, NR F T A hole k hs hds L → NR F T A hole (k + hs.length) hs2 hds2 L2 → NR F T A hole k (hs ++ hs2) (hds ++ hds2) (L ++ L2)
  | _, _, _, _, .nil, h => h
  | k, _ :: hs, _, _, .cons hB hc h1 ha hh t, h => by
    have := t.append (by rw [show k + 1 + hs.length = k + (hs.length + 1) by omega]; exact h)
    have h2 := NR.cons hB hc h1 ha hh this
    simpa using h2
theorem NR.other {T A : TypeId} {hole hole' : Option Nat} : ∀ {k : Nat} {hs : List HN} {hds : List Value} {L : List Blk}, NR F T A hole k hs hds L → (∀ i, k ≤ i → i < k + hs.length → hole ≠ some i ∧ hole' ≠ some i) → NR F T A hole' k hs hds L
  | _, _, _, _, .nil, _ => .nil
  | k, _ :: hs, _, _, .cons hB hc h1 ha hh t, hn => by
    have h0 := hn k (Nat.le_refl _) (by simp)
    exact .cons hB hc h1 (fun _ => ha h0.1) (fun e => absurd e h0.2) (t.other fun i h1 h2 => hn i (by omega) (by simp at h2 ⊢; omega))
structure N1 (F : Frz) (T A : TypeId) (hole : Option Nat) (i : Nat) (n : HN) (hd : Value) (B : Nat) (cs : List Value) (Lv : List Blk) : Prop where
  hB : F.nid i = some B
  hc : Rd F n.enc cs
  h1 : hd.oneCell' = true
  ha : hole ≠ some i → ∃ q n' cp rows, hd = .slice q n' cp ∧ SlO 3 A q n' cp Lv rows ∧ F2 (fun x r => Rd F (E.hattr.enc x) r) n.attrs rows
  hh : hole = some i → Lv = []
theorem N1.nr {T A : TypeId} {hole : Option Nat} {i B : Nat} {n : HN} {hd : Value} {cs : List Value} {Lv : List Blk} (h : N1 F T A hole i n hd B cs Lv) : NR F T A hole i [n] [hd] ((B, cs ++ [hd], BT.c T) :: Lv) := by
  have := NR.cons (T := T) h.hB h.hc h.h1 h.ha h.hh .nil
  simpa using this
theorem NR.split {T A : TypeId} {hole : Option Nat} : ∀ {k : Nat} {hs : List HN} {hds : List Value} {L : List Blk} {i : Nat} {n : HN}, NR F T A hole k hs hds L → hs[i]? = some n → ∃ hs1 hs2 hds1 hds2 L1 L2 hd B cs Lv, hs = hs1 ++ n :: hs2 ∧ hs1.length = i ∧ hds = hds1 ++ hd :: hds2 ∧ hds1.length = i ∧ L = L1 ++ ((B, cs ++ [hd], BT.c T) :: Lv ++ L2) ∧ NR F T A hole k hs1 hds1 L1 ∧ N1 F T A hole (k + i) n hd B cs Lv ∧ NR F T A hole (k + i + 1) hs2 hds2 L2
  | _, _, _, _, _, _, .nil, h => by simp at h
  | k, x :: hs, _, _, 0, n, .cons hB hc h1 ha hh t, h => by
    simp at h
    subst h
    exact ⟨[], hs, [], _, [], _, _, _, _, _, rfl, rfl, rfl, rfl, rfl, .nil, ⟨hB, hc, h1, ha, hh⟩, t⟩
  | k, x :: hs, hd0 :: hds, _, i + 1, n, .cons (Lv := Lv0) (L := L) (cs := cs0) (B := B0) hB hc h1 ha hh t, h => by
    obtain ⟨hs1, hs2, hds1, hds2, L1, L2, hd, B, cs, Lv, e1, e2, e3, e4, e5, e6, e7, e8⟩ := t.split (by simpa using h)
    refine ⟨x :: hs1, hs2, hd0 :: hds1, hds2, (B0, cs0 ++ [hd0], BT.c T) :: (Lv0 ++ L1), L2, hd, B, cs, Lv, by simp [e1], by simp [e2], by simp [e3], by simp [e4], by simp [e5], .cons hB hc h1 ha hh e6, ?_, ?_⟩
    · rw [show k + (i + 1) = k + 1 + i by omega]; exact e7
    · rw [show k + (i + 1) + 1 = k + 1 + i + 1 by omega]; exact e8
theorem NR.join {T A : TypeId} {hole : Option Nat} {k i B : Nat} {hs1 hs2 : List HN} {hds1 hds2 : List Value} {L1 L2 Lv : List Blk} {n : HN} {hd : Value} {cs : List Value} (h1 : NR F T A hole k hs1 hds1 L1) (hi : hs1.length = i) (h2 : N1 F T A hole (k + i) n hd B cs Lv) (h3 : NR F T A hole (k + i + 1) hs2 hds2 L2) : NR F T A hole k (hs1 ++ n :: hs2) (hds1 ++ hd :: hds2) (L1 ++ ((B, cs ++ [hd], BT.c T) :: Lv ++ L2)) := by
  subst hi
  have := h2.nr.append (hs2 := hs2) (hds2 := hds2) (L2 := L2) (by simpa using h3)
  have := h1.append this
  simpa using this
end
end Go.Proofs.Ytchhjooifjcnkaa.V
