/-
  strings.Builder: what String and copyCheck do, walked once.
-/
import Derived.Test.YtpedmnlpccngiaaDoorKTab
import Derived.Lib.UnsafeStr
import Derived.Lib.Walk
import Derived.Laws.Externs
import Derived.Lib.Builder
import Derived.RegionTactic
set_option linter.unusedVariables false
set_option linter.unusedSimpArgs false
namespace Go.Proofs.YtpedmnlpccngiaaDoor.V
open Go K

set_option maxHeartbeats 2000000
set_option maxRecDepth 100000
def Sam (h : Array Obj) (G : Nat → Prop) (h' : Array Obj) : Prop := ∀ b, b < h.size → ¬ G b → h'[b]? = h[b]?
theorem at_drew {E : K.Env} {h : Array Obj} {w : World} (hw : At E h w) : At E h w.drew := hw
theorem at_freeze {E : K.Env} {h : Array Obj} {w : World} (hw : At E h w) (g n : Nat) : ∃ h', At E h' (w.freeze ⟨g, 0, none⟩ n) ∧ Sam h (· = g) h' := by
  unfold World.freeze
  split
  · exact ⟨h, hw, fun _ _ _ => rfl⟩
  · refine ⟨_, ⟨rfl, hw.2.1, hw.2.2.1, hw.2.2.2⟩, fun b _ hb => ?_⟩
    rw [← hw.1]
    simp only [Array.getElem?_modify]
    rw [if_neg (fun e => hb e.symm)]
theorem at_alloc {E : K.Env} {h : Array Obj} {w : World} (hw : At E h w) (o : Obj) : ∃ h', At E h' (w.alloc o) ∧ Sam h (fun _ => False) h' := by
  refine ⟨_, ⟨rfl, hw.2.1, hw.2.2.1, hw.2.2.2⟩, fun b hb _ => ?_⟩
  show (w.heap.push o)[b]? = _
  rw [hw.1, Array.getElem?_push, if_neg (by omega)]
theorem string_row {B g cap n : Nat} {p : Value} {cur : Array Value} {T0 : TypeId} {z0 z : Nat × Nat} {E : K.Env} {h : Array Obj} (w : World) (l : List UInt8) (hw : At E h w) (h0 : l ≠ []) (hn : n = l.length)
    (hb : h[B]? = some (.cells #[p, .slice (some ⟨g, 0, none⟩) n cap] T0 z0)) (hg : h[g]? = some (.cells cur 5 z)) (hc : n ≤ cap) (hcm : n ≤ 9223372036854775807) (hcs : cap ≤ cur.size) (hcell : ∀ (j : Nat) (x : UInt8), l[j]? = some x → cur[j]? = some (Value.int .u8 x.toNat)) :
    Calls Tryd.prog 28 #[.pointer (some ⟨B, 0, none⟩)] w fun e w' => e = .returned (bs l) ∧ ∃ h', At E h' w' ∧ Sam h (· = g) h' := by
  subst hn
  have hl0 : l.length ≠ 0 := by simpa using h0
  have hbk : w.heap[B]? = some (.cells #[p, .slice (some ⟨g, 0, none⟩) l.length cap] T0 z0) := by rw [hw.1]; exact hb
  have hgk : w.heap[g]? = some (.cells cur 5 z) := by rw [hw.1]; exact hg
  have c1 : w.drew.cell? ⟨B, 1, none⟩ = some (.slice (some ⟨g, 0, none⟩) l.length cap) := by
    have : w.drew.heap[B]? = some (.cells #[p, .slice (some ⟨g, 0, none⟩) l.length cap] T0 z0) := hbk
    rw [Lib.cell_of_heap this]; rfl
  have hSD : (Builtin.unsafeSliceData_ #[54] 75 #[.slice (some ⟨g, 0, none⟩) l.length cap]).run Tryd.prog w.drew = .ok (.pointer (some ⟨g, 0, none⟩)) w.drew :=
    Lib.run_unsafeSliceData_row _ _ _ _ _ _ (by omega)
  have hUS : (Builtin.unsafeString_ #[75, 3] 9 #[.pointer (some ⟨g, 0, none⟩), .int .i64 l.length]).run Tryd.prog w.drew = .ok (.string ⟨l.toArray⟩) (w.drew.freeze ⟨g, 0, none⟩ l.length) := by
    refine Lib.run_unsafeString_row w.drew 75 3 9 5 Tryd.underlying75 (by kernel_rfl) g cur.size (by have hg' : w.drew.heap[g]? = some (.cells cur 5 z) := hgk; simp [World.shape?, hg']) l h0 (by omega) (by omega) ?_
    intro j x hx
    have hg' : w.drew.heap[g]? = some (.cells cur 5 z) := hgk
    have e : ((⟨g, 0, none⟩ : Addr).add j) = ⟨g, j, none⟩ ∨ j = 0 := by
      unfold Addr.add
      by_cases hj : j = 0
      · exact .inr hj
      · left; simp [hj]
    have := hcell j x hx
    rcases e with e | rfl
    · rw [e, Lib.cell_of_heap hg']; exact this
    · have e0 : ((⟨g, 0, none⟩ : Addr).add 0) = ⟨g, 0, none⟩ := rfl
      rw [e0, Lib.cell_of_heap hg']; exact this
  go_enter Tryd.func28, Tryd.ntmps28
  go_wp2
  go_region
  all_goals (go_wp2; go_ret; exact ⟨rfl, at_freeze (at_drew hw) g l.length⟩)
theorem string_no {B cap : Nat} {q : Option Addr} {p : Value} {T0 : TypeId} {z0 : Nat × Nat} {E : K.Env} {h : Array Obj} (w : World) (hw : At E h w)
    (hb : h[B]? = some (.cells #[p, .slice q 0 cap] T0 z0)) (v : Option Addr) (hSD : (Builtin.unsafeSliceData_ #[54] 75 #[.slice q 0 cap]).run Tryd.prog w.drew = .ok (.pointer v) w.drew) :
    Calls Tryd.prog 28 #[.pointer (some ⟨B, 0, none⟩)] w fun e w' => e = .returned (bs []) ∧ ∃ h', At E h' w' ∧ Sam h (fun _ => False) h' := by
  have hbk : w.heap[B]? = some (.cells #[p, .slice q 0 cap] T0 z0) := by rw [hw.1]; exact hb
  have c1 : w.drew.cell? ⟨B, 1, none⟩ = some (.slice q 0 cap) := by
    have : w.drew.heap[B]? = some (.cells #[p, .slice q 0 cap] T0 z0) := hbk
    rw [Lib.cell_of_heap this]; rfl
  have hUS := fun (W : World) (q : Option Addr) => Lib.run_unsafeString_none (P := Tryd.prog) W 75 3 9 q
  go_enter Tryd.func28, Tryd.ntmps28
  go_wp2
  go_region
  all_goals (go_wp2; go_ret; exact ⟨rfl, h, at_drew hw, fun _ _ _ => rfl⟩)
theorem string_zero {B g : Nat} {p : Value} {cur : Array Value} {T0 : TypeId} {z0 z : Nat × Nat} {E : K.Env} {h : Array Obj} (w : World) (hw : At E h w)
    (hb : h[B]? = some (.cells #[p, .slice (some ⟨g, 0, none⟩) 0 0] T0 z0)) (hg : h[g]? = some (.cells cur 5 z)) :
    Calls Tryd.prog 28 #[.pointer (some ⟨B, 0, none⟩)] w fun e w' => e = .returned (bs []) ∧ ∃ h', At E h' w' ∧ Sam h (fun _ => False) h' := by
  have hbk : w.heap[B]? = some (.cells #[p, .slice (some ⟨g, 0, none⟩) 0 0] T0 z0) := by rw [hw.1]; exact hb
  have hgk : w.heap[g]? = some (.cells cur 5 z) := by rw [hw.1]; exact hg
  have hlt : B < w.heap.size := (Array.getElem?_eq_some_iff.1 hbk).1
  have hUS := fun (W : World) (q : Option Addr) => Lib.run_unsafeString_none (P := Tryd.prog) W 75 3 9 q
  have c1 : w.drew.cell? ⟨B, 1, none⟩ = some (.slice (some ⟨g, 0, none⟩) 0 0) := by
    have : w.drew.heap[B]? = some (.cells #[p, .slice (some ⟨g, 0, none⟩) 0 0] T0 z0) := hbk
    rw [Lib.cell_of_heap this]; rfl
  have hSD : (Builtin.unsafeSliceData_ #[54] 75 #[.slice (some ⟨g, 0, none⟩) 0 0]).run Tryd.prog w.drew = .ok (.pointer (some ⟨w.drew.heap.size, 0, none⟩)) (w.drew.alloc (.view ⟨g, 0, none⟩ 5)) :=
    Lib.run_unsafeSliceData_zero w.drew _ _ 5 Tryd.underlying75 ⟨g, 0, none⟩ 0 (5, cur.size) (by have hg' : w.drew.heap[g]? = some (.cells cur 5 z) := hgk; simp [World.shape?, hg'])
  have c2 : (w.drew.alloc (.view ⟨g, 0, none⟩ 5)).cell? ⟨B, 1, none⟩ = some (.slice (some ⟨g, 0, none⟩) 0 0) := by
    have : (w.drew.alloc (.view ⟨g, 0, none⟩ 5)).heap[B]? = _ := (Lib.alloc_old w.drew _ B hlt).trans hbk
    rw [Lib.cell_of_heap this]; rfl
  have c3 : (w.alloc (.view ⟨g, 0, none⟩ 5)).drew.cell? ⟨B, 1, none⟩ = some (.slice (some ⟨g, 0, none⟩) 0 0) := c2
  have c0 : w.cell? ⟨B, 1, none⟩ = some (.slice (some ⟨g, 0, none⟩) 0 0) := c1
  go_enter Tryd.func28, Tryd.ntmps28
  go_wp2
  go_region
  all_goals (go_wp2; go_ret; exact ⟨rfl, at_alloc (at_drew hw) _⟩)
theorem check_used {B : Nat} {c1 : Value} {T0 : TypeId} {z0 : Nat × Nat} {E : K.Env} {h : Array Obj} (w : World) (hw : At E h w)
    (hb : h[B]? = some (.cells #[.pointer (some ⟨B, 0, none⟩), c1] T0 z0)) :
    Calls Tryd.prog 94 #[.pointer (some ⟨B, 0, none⟩)] w fun e w' => e = .returned (.tuple #[]) ∧ w' = w := by
  have hbk : w.heap[B]? = some (.cells #[.pointer (some ⟨B, 0, none⟩), c1] T0 z0) := by rw [hw.1]; exact hb
  have h0 : w.cell? ⟨B, 0, none⟩ = some (.pointer (some ⟨B, 0, none⟩)) := by rw [Lib.cell_of_heap hbk]; rfl
  obtain ⟨j, hj, hjs⟩ : ∃ j, Tryd.prog.info? 56 = some j ∧ j.size = 2 := Option.map_eq_some_iff.1 (by kernel_rfl : (Tryd.prog.info? 56).map (·.size) = some 2)
  go_enter Tryd.func94, Tryd.ntmps94
  go_wp2
  rw [Lib.run_neq_ptr_same w _ Tryd.underlying53 hj]
  go_wp2
  go_end0
  exact ⟨rfl, rfl⟩
theorem check_new {B : Nat} {c1 : Value} {E : K.Env} {h : Array Obj} (w : World) (hw : At E h w)
    {z0 : Nat × Nat} (hb : h[B]? = some (.cells #[.pointer none, c1] 56 z0)) (hz : ¬ (z0.1 ≤ 0 ∧ 0 < z0.2)) :
    Calls Tryd.prog 94 #[.pointer (some ⟨B, 0, none⟩)] w fun e w' => e = .returned (.tuple #[]) ∧ w' = w.setCell ⟨B, 0, none⟩ (.pointer (some ⟨B, 0, none⟩)) := by
  have hbk : w.heap[B]? = some (.cells #[.pointer none, c1] 56 z0) := by rw [hw.1]; exact hb
  have h0 : w.cell? ⟨B, 0, none⟩ = some (.pointer none) := by rw [Lib.cell_of_heap hbk]; rfl
  have hsh : w.shape? B = some (56, 2) := by simp [World.shape?, hbk]
  have hfz : w.frozen? ⟨B, 0, none⟩ = false := by
    simp only [World.frozen?, hbk]
    cases hq : (decide (z0.1 ≤ 0) && decide (0 < z0.2)) with
    | false => rfl
    | true => exact absurd (by simpa using hq) hz
  obtain ⟨j, hj, hjs⟩ : ∃ j, Tryd.prog.info? 56 = some j ∧ j.size = 2 := Option.map_eq_some_iff.1 (by kernel_rfl : (Tryd.prog.info? 56).map (·.size) = some 2)
  go_enter Tryd.func94, Tryd.ntmps94
  go_wp2
  rw [Lib.run_to_unsafe w ⟨B, 0, none⟩ Tryd.underlying53 Tryd.underlying136 hj (by rw [hjs]; decide) hsh (Nat.zero_lt_succ 1)]
  simp only [Result.andThen]
  rw [Oper.upon_value]
  go_wp2
  rw [run_callFunc_extern Tryd.func95 (by kernel_rfl) (by kernel_rfl) (by kernel_rfl) (e := Extern.AbiNoEscape.same) (by kernel_rfl)]
  rw [Lib.run_noEscape]
  simp only [Result.andThen]
  rw [Oper.upon_value]
  go_wp2
  rw [Lib.run_from_unsafe w ⟨B, 0, none⟩ Tryd.underlying136 Tryd.underlying53 hj hsh (by kernel_rfl)]
  simp only [Result.andThen]
  rw [Oper.upon_value]
  go_wp2
  go_end0
  exact ⟨rfl, rfl⟩

abbrev p_strings_Builder_copyCheck : Pt := [(0, .blkx 56 [.self, .own]), (2000000001, .hown 0 1 .u8 5)]
abbrev q_strings_Builder_copyCheck : Pt := [(1000, .blkx 56 [.self, .own]), (2000064001, .hown 1000 1 .u8 5)]
noncomputable def m_strings_Builder_copyCheck : Tup p_strings_Builder_copyCheck → Option (Tup q_strings_Builder_copyCheck) := fun (x : (Bool × Unit) × List UInt8) => some ((true, ()), x.2)
noncomputable def e_strings_Builder_copyCheck : Ent := ⟨1, p_strings_Builder_copyCheck, q_strings_Builder_copyCheck, m_strings_Builder_copyCheck⟩
theorem at_set {E : K.Env} {h : Array Obj} {w : World} {B : Nat} {c0 c1 v : Value} {T : TypeId} {z : Nat × Nat} (hw : At E h w) (hb : h[B]? = some (.cells #[c0, c1] T z)) : ∃ h', At E h' (w.setCell ⟨B, 0, none⟩ v) ∧ (∀ b, b ≠ B → h'[b]? = h[b]?) ∧ h'[B]? = some (.cells #[v, c1] T z) := by
  refine ⟨_, ⟨rfl, hw.2.1, hw.2.2.1, hw.2.2.2⟩, fun b hbB => ?_, ?_⟩
  · rw [← hw.1]
    simp only [World.setCell, Array.getElem?_modify]
    rw [if_neg (fun e => hbB e.symm)]
  · rw [← hw.1] at hb
    simp only [World.setCell, Array.getElem?_modify, hb]
    simp
theorem build_inv {F : Frz} {ι : Gh} {b : Bool} {v : Value} {T : TypeId} (h : M1 F ι 0 (.blkx T [.self, .own]) ((b, ()) : Bool × Unit) v) : ∃ B c1, (ι 0).1 = .pointer (some ⟨B, 0, none⟩) ∧ v = .pointer (some ⟨B, 0, none⟩) ∧ c1 = (ι 2000000001).1 ∧ (ι 0).2 = [(B, [if b then .pointer (some ⟨B, 0, none⟩) else .pointer none, c1], BT.c T)] := by
  obtain ⟨⟨B, g1, g2⟩, hO⟩ := h
  obtain ⟨B', cs, a1, a2, a3⟩ := hO (0, .cells T [.opb 0 b, .own (subT 0 1)]) (by simp [mk1, fxEnc, FX.enc])
  rw [g1] at a1
  cases a1
  cases a3 with
  | cons h0 t =>
    cases t with
    | cons h1 t =>
      cases t
      obtain ⟨B2, k1, k2⟩ := h0
      rw [g1] at k1
      cases k1
      subst k2
      exact ⟨B, _, g1, g2, h1, a2⟩
theorem ok_strings_Builder_copyCheck : FnOK Tryd.prog 94 e_strings_Builder_copyCheck := by
  intro x r hr F ι h L0 vargs hlen hM hH
  obtain ⟨⟨b, ⟨⟩⟩, xs⟩ := x
  have hr : some (((true, ()), xs) : (Bool × Unit) × List UInt8) = some r := hr
  obtain rfl := Option.some.inj hr
  obtain ⟨h1, h2⟩ := hM
  obtain ⟨B, c1, g1, g2, g3, g4⟩ := build_inv (b := b) h1
  have hv : vargs = [.pointer (some ⟨B, 0, none⟩)] := by
    match vargs, hlen, g2 with
    | [v], _, g2 => exact congrArg (fun y => [y]) g2
  subst hv
  have hH : Hp h F ((ι 0).2 ++ ((ι 2000000001).2 ++ [] ++ L0)) := by
    have := hH
    simp only [lv, e_strings_Builder_copyCheck, mkOw, mk1, List.flatMap_append, List.flatMap_cons, List.flatMap_nil, List.append_nil, List.append_assoc] at this
    simpa using this
  rw [g4] at hH
  obtain ⟨fz, hz, hb⟩ := hH.own _ (List.mem_append_left _ (List.mem_singleton.2 rfl))
  have key : ∀ (c0 : Value), c0 = .pointer (some ⟨B, 0, none⟩) → ∀ h', Hp h' F ((B, [c0, c1], BT.c 56) :: ((ι 2000000001).2 ++ [] ++ L0)) → Res F ι e_strings_Builder_copyCheck (((true, ()), xs) : (Bool × Unit) × List UInt8) L0 (.tuple #[]) h' := by
    intro c0 hc0 h' hH'
    refine ⟨F, fun k => if k = 1000 then (.pointer (some ⟨B, 0, none⟩), [(B, [c0, c1], BT.c 56)]) else if k = 2000064001 then ι 2000000001 else ι k, [], .refl F, fun _ => rfl, rfl, ⟨⟨⟨B, rfl, ?_⟩, fun q hq => ?_⟩, ⟨trivial, fun q hq => ?_⟩⟩, rfl, ?_, ?_⟩
    · exact g1
    · simp only [mk1, List.mem_singleton] at hq
      subst hq
      refine ⟨B, [c0, c1], rfl, rfl, .cons ⟨B, rfl, hc0⟩ (.cons ?_ .nil)⟩
      exact g3
    · obtain ⟨_, h4⟩ := h2
      obtain ⟨q', n, cp, rows, k1, k2, k3⟩ := h4 (2000000001, .rows .u8 5 xs) (by simp [mk1])
      simp only [mk1, List.mem_singleton] at hq
      subst hq
      exact ⟨q', n, cp, rows, k1, k2, k3⟩
    · simp only [lv, e_strings_Builder_copyCheck, mkOw, mk1, List.flatMap_append, List.flatMap_cons, List.flatMap_nil, List.append_nil, List.append_assoc]
      simpa using hH'
    · intro k hk h5 h6 h7
      have hk : k = 1000 ∨ k = 2000064001 := by simpa [e_strings_Builder_copyCheck] using hk
      rcases hk with rfl | rfl
      · exact g1.symm
      · exact absurd h7 (by decide)
  refine ⟨fun E w hw => ?_⟩
  cases b with
  | true =>
    refine (check_used w hw (c1 := c1) (by simpa using hb)).mono ?_
    rintro e w' ⟨rfl, rfl⟩
    exact ⟨_, rfl, h, hw, key _ rfl h (by simpa using hH)⟩
  | false =>
    have hb' : h[B]? = some (.cells #[.pointer none, c1] 56 fz) := by simpa using hb
    refine (check_new w hw hb' (hz 0 (by simp))).mono ?_
    rintro e w' ⟨rfl, rfl⟩
    obtain ⟨h', k1, k2, k3⟩ := at_set (v := .pointer (some ⟨B, 0, none⟩)) hw hb'
    refine ⟨_, rfl, h', k1, key _ rfl h' ?_⟩
    exact hH.put (j := 0) (cs' := [.pointer (some ⟨B, 0, none⟩), c1]) rfl k2 (by simpa using hb') hz k3

abbrev p_strings_Builder_String : Pt := [(0, .blkx 56 [.self, .own]), (2000000001, .hown 0 1 .u8 5)]
abbrev q_strings_Builder_String : Pt := [(0, .str)]
noncomputable def m_strings_Builder_String : Tup p_strings_Builder_String → Option (Tup q_strings_Builder_String) := fun (x : (Bool × Unit) × List UInt8) => bif Nat.ble x.2.length 2147483648 then some x.2 else none
noncomputable def e_strings_Builder_String : Ent := ⟨0, p_strings_Builder_String, q_strings_Builder_String, m_strings_Builder_String⟩
theorem Hp.sam {h h' : Array Obj} {F : Frz} {L L1 : List Blk} {G : Nat → Prop} (hm : Hp h F (L1 ++ L)) (hs : Sam h G h') (hG : ∀ b, G b → F.m b = none ∧ (∀ p ∈ L, p.1 ≠ b) ∧ ¬ F.lv b) : Hp h' F L := by
  have hm2 : Hp h F L := hm.sub (List.sublist_append_right _ _)
  refine ⟨fun b o hb => ?_, fun p hp => ?_, hm2.sep, hm2.nodup, fun b hb => ?_, hm2.gl⟩
  · have h1 := hm.frz b o hb
    rw [hs b (hm.flt hb) (fun hg => by rw [(hG b hg).1] at hb; cases hb)]
    exact h1
  · rw [hs p.1 (hm2.lt hp) (fun hg => (hG _ hg).2.1 p hp rfl)]
    exact hm2.own p hp
  · obtain ⟨cs, T, h1, h2⟩ := hm.live b hb
    refine ⟨cs, T, ?_, h2⟩
    rw [hs b (Array.getElem?_eq_some_iff.1 h1).1 (fun hg => (hG b hg).2.2 hb)]
    exact h1
theorem rows_u8 {F : Frz} : ∀ {xs : List UInt8} {rows : List (List Value)}, F2 (fun (x : E.u8.T) r => Rd F (E.u8.enc x) r) xs rows → rows.flatten = xs.map byteV
  | _, _, .nil => rfl
  | x :: _, _, .cons h t => by
    have h : Rd F [.int .u8 (x.toNat : Int)] _ := h
    obtain ⟨v9, vs9, rfl, g1, g2⟩ := h.inv_cons
    cases g2
    rw [Rd.int_inv g1, List.flatten_cons, rows_u8 t]
    rfl
theorem ok_strings_Builder_String : FnOK Tryd.prog 28 e_strings_Builder_String := by
  intro x r hr F ι h L0 vargs hlen hM hH
  obtain ⟨⟨b, ⟨⟩⟩, xs⟩ := x
  have hr : (bif Nat.ble (List.length (α := UInt8) xs) 2147483648 then some xs else none : Option (List UInt8)) = some r := hr
  cases hle0 : Nat.ble (List.length (α := UInt8) xs) 2147483648 with
  | false => rw [hle0] at hr; cases hr
  | true =>
  rw [hle0] at hr
  rw [Nat.ble_eq] at hle0
  obtain rfl := Option.some.inj hr
  obtain ⟨h1, h2⟩ := hM
  obtain ⟨B, c1, g1, g2, g3, g4⟩ := build_inv (b := b) h1
  have hv : vargs = [.pointer (some ⟨B, 0, none⟩)] := by
    match vargs, hlen, g2 with
    | [v], _, g2 => exact congrArg (fun y => [y]) g2
  subst hv
  have hH : Hp h F ((ι 0).2 ++ ((ι 2000000001).2 ++ [] ++ L0)) := by
    have := hH
    simp only [lv, e_strings_Builder_String, mkOw, mk1, List.flatMap_append, List.flatMap_cons, List.flatMap_nil, List.append_nil, List.append_assoc] at this
    simpa using this
  rw [g4] at hH
  obtain ⟨fz, hz, hb⟩ := hH.own _ (List.mem_append_left _ (List.mem_singleton.2 rfl))
  obtain ⟨_, h4⟩ := h2
  obtain ⟨q', n, cp, rows, k1, k2, k3⟩ := h4 (2000000001, .rows .u8 5 xs) (by simp [mk1])
  have k1 : (ι 2000000001).1 = .slice q' n cp := k1
  have hfl := rows_u8 k3
  have hn : n = xs.length := by rw [k2.len, ← forall2_len k3]
  rw [k1] at g3
  subst g3
  have hb : h[B]? = some (.cells #[if b then .pointer (some ⟨B, 0, none⟩) else .pointer none, .slice q' n cp] 56 fz) := hb
  have key : ∀ h', Hp h' F L0 → Res F ι e_strings_Builder_String (xs : List UInt8) L0 (bs xs) h' := fun h' hH' =>
    ⟨F, ι, [bs xs], .refl F, fun _ => rfl, rfl, ⟨.str .nil, fun q hq => by simp [mk1] at hq⟩, rfl, by simpa [lv, e_strings_Builder_String, mkOw, mk1] using hH', fun k hk h5 _ _ => by
      have hk : k = 0 := by simpa [e_strings_Builder_String] using hk
      omega⟩
  have hHs : Hp h F L0 := hH.sub (by rw [List.append_nil, ← List.append_assoc]; exact List.sublist_append_right _ _)
  refine ⟨fun E w hw => ?_⟩
  rcases k2.sh with ⟨he, hL, hv⟩ | ⟨g, n', cap, spare, he, hL, hn', hc, hle⟩
  · cases he
    obtain rfl : xs = [] := List.length_eq_zero_iff.1 hn.symm
    refine (string_no w hw hb none rfl).mono ?_
    rintro e w' ⟨rfl, h', hA, hs⟩
    exact ⟨_, rfl, h', hA, key h' ((show Hp h F ([] ++ L0) from hHs).sam hs fun b hb => hb.elim)⟩
  · cases he
    have hL : (ι 2000000001).2 = [(g, rows.flatten ++ spare, BT.c 5)] := hL
    rw [hL] at hH
    have hHg : Hp h F ((g, rows.flatten ++ spare, BT.c 5) :: L0) := hH.sub (by simp)
    obtain ⟨z, hz', hg⟩ := hHg.own _ (List.mem_cons_self ..)
    have hg : h[g]? = some (.cells (rows.flatten ++ spare).toArray 5 z) := hg
    by_cases h0 : xs = []
    · subst h0
      obtain rfl : n = 0 := hn
      by_cases hc0 : cp = 0
      · subst hc0
        refine (string_zero w hw hb hg).mono ?_
        rintro e w' ⟨rfl, h', hA, hs⟩
        exact ⟨_, rfl, h', hA, key h' ((show Hp h F ([] ++ L0) from hHs).sam hs fun b hb => hb.elim)⟩
      · refine (string_no w hw hb _ (Lib.run_unsafeSliceData_row _ _ _ _ _ _ hc0)).mono ?_
        rintro e w' ⟨rfl, h', hA, hs⟩
        exact ⟨_, rfl, h', hA, key h' ((show Hp h F ([] ++ L0) from hHs).sam hs fun b hb => hb.elim)⟩
    · refine (string_row w xs hw h0 hn hb hg hle (by have : n = List.length (α := UInt8) xs := hn; omega) (by rw [List.size_toArray, List.length_append]; have hc : cp * 1 = rows.flatten.length + spare.length := hc; omega) fun j x hx => ?_).mono ?_
      · rw [hfl]
        have hj := (List.getElem?_eq_some_iff.1 hx).1
        rw [List.getElem?_toArray, List.getElem?_append_left (by simpa using hj), List.getElem?_map, hx]
        rfl
      · rintro e w' ⟨rfl, h', hA, hs⟩
        refine ⟨_, rfl, h', hA, key h' ((show Hp h F ([_] ++ L0) from hHg).sam hs fun b hb => ?_)⟩
        subst hb
        refine ⟨hHg.sep _ (List.mem_cons_self ..), fun p hp e => ?_, fun hlv => ?_⟩
        · have := hHg.nodup
          rw [List.map_cons, List.nodup_cons] at this
          exact this.1 (List.mem_map.2 ⟨p, hp, e⟩)
        · obtain ⟨cs, T, l1, l2⟩ := hHg.live _ hlv
          rw [hg] at l1
          cases l1
          exact l2 rfl
end Go.Proofs.YtpedmnlpccngiaaDoor.V
