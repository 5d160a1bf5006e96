/-
  From a model of a law's function to what the given row asks: arguments as data, and the answer.
-/
import Derived.Test.YtchhjooifjcnkaaKLift
import Derived.Test.YtchhjooifjcnkaaKLaw
import Derived.Test.YtchhjooifjcnkaaKArg
namespace Go.Proofs.Ytchhjooifjcnkaa.V
open Go K Go.WideShapes

/-- What is there ahead of the call: nobody changes it. -/
def F0 (h : Array Obj) : Frz := ⟨fun b => h[b]?, fun _ => none, fun _ => False, (fun _ _ _ h => by cases h), (fun _ _ h => by cases h)⟩
theorem F0_hp (h : Array Obj) : Hp h (F0 h) [] := ⟨fun _ _ hb => hb, (fun _ hp => by cases hp), (fun _ hp => by cases hp), List.nodup_nil, fun _ hb => False.elim hb⟩
theorem cellF_F0 (h : Array Obj) (a : Addr) : cellF (F0 h) a = K.cell h a := by
  unfold cellF K.cell
  rfl
theorem cellsF_F0 {h : Array Obj} {B : Nat} : ∀ {cs : List Value} {off : Nat}, cellsFrom h B off cs → cellsF (F0 h) B off cs
  | [], _, _ => trivial
  | _ :: _, _, ⟨h1, h2⟩ => ⟨by rw [cellF_F0]; exact h1, cellsF_F0 h2⟩
/-- A law that answers true, and leaves what was there as it is. -/
theorem bridge {P : Program} {f : FuncId} {ent : Ent} {x : Tup ent.pin} {r : Tup ent.pout} {h : Array Obj} {ι : Gh} {vargs : List Value} (hok : FnOK P f ent) (hm : ent.m x = some r) (hlen : vargs.length = (realK ent.pin).length) (hMP : MP (F0 h) ι (fun i => vargs.getD i undef) ent.pin x) (hL : lv ι (mkOw ent.pin x) = [])
    (hr : ∀ F' ι' vs, MP F' ι' (vX vs ι) ent.pout r → vs.length = (realK ent.pout).length → joinV vs = .bool true) : Ret P f vargs h fun v h' => v = .bool true ∧ Ext h h' := by
  refine (hok x r hm (F0 h) ι h [] vargs hlen hMP (by rw [hL]; exact F0_hp h)).mono ?_
  rintro v h' ⟨F', ι', vs, h1, _, h2, h3, rfl, h4, _⟩
  have hold : ∀ b, b < h.size → h'[b]? = h[b]? := fun b hb => by
    have e : h[b]? = some h[b] := Array.getElem?_eq_getElem hb
    rw [e]
    exact h4.frz b _ (h1.1 b _ e)
  refine ⟨hr F' ι' vs h3 h2, ?_, hold⟩
  rcases Nat.eq_zero_or_pos h.size with h0 | h0
  · omega
  · have := hold (h.size - 1) (by omega)
    rw [Array.getElem?_eq_getElem (xs := h) (by omega)] at this
    have := (Array.getElem?_eq_some_iff.1 this).1
    omega
theorem ans_one {F' : Frz} {ι ι' : Gh} {vs : List Value} (hl : vs.length = 1) (h : M1 F' ι' 0 .bool true (vX vs ι 0)) : joinV vs = .bool true := by
  match vs, hl with
  | [v], _ =>
    have := Rd.bool_inv h.1
    simpa [vX, joinV] using this

section
variable {P : Program} {t T : TypeId} {e : E}
/-- What is read at a type is data of a kind. -/
def Reads (P : Program) (t : TypeId) (e : E) : Prop := ∀ {H : Type} (enc : TypeId × Value → H) (w : World) (base : Nat) (spare : Nat → Bool) (held : Bool) (fuel : Nat) (cs : List Value) (y : DataW H × List MemPlace), DataW.trod enc P w base spare held fuel t cs = some y → ∃ x : e.T, Rd (F0 w.heap) (e.enc x) cs
def ReadsL (P : Program) (t : TypeId) (e : E) : Prop := ∀ {H : Type} (enc : TypeId × Value → H) (w : World) (base : Nat) (spare : Nat → Bool) (held : Bool) (fuel : Nat) (cs : List Value) (y : DataW H × List MemPlace), DataW.trod enc P w base spare held fuel t cs = some y → ∃ xs : List e.T, Rd (F0 w.heap) [.lst e xs] cs
theorem reads_int (hu : P.underlying t = some (.int .i64)) : Reads P t .int := fun enc w base spare held fuel cs y h => by
  obtain ⟨n, rfl, _⟩ := K.rd_int hu h
  exact ⟨n, .int .nil⟩
theorem reads_str (hu : P.underlying t = some .string) : Reads P t .str := fun enc w base spare held fuel cs y h => by
  obtain ⟨l, rfl, _⟩ := K.rd_string hu h
  exact ⟨l, .str .nil⟩
theorem reads_bool (hu : P.underlying t = some .bool) : Reads P t .bool := fun enc w base spare held fuel cs y h => by
  obtain ⟨b, rfl, _⟩ := DataW.trod_bool hu h
  exact ⟨b, .bool .nil⟩
theorem fld_get {fs : Array Field} {l : List (TypeId × Nat)} (hfs : fs.toList.map (fun f => (f.type, f.offset)) = l) {p : TypeId × Nat} (hp : p ∈ l) : ∃ f ∈ fs.toList, f.type = p.1 ∧ f.offset = p.2 := by
  rw [← hfs] at hp
  obtain ⟨f, hf, rfl⟩ := List.mem_map.1 hp
  exact ⟨f, hf, rfl, rfl⟩
theorem reads_attr {fs : Array Field} {ts : TypeId} (hu : P.underlying t = some (.struct fs)) (hc : P.cellsOf t = 2) (hfs : fs.toList.map (fun f => (f.type, f.offset)) = [(ts, 0), (ts, 1)]) (us : P.underlying ts = some .string) (cs' : P.cellsOf ts = 1) : Reads P t .attr := fun enc w base spare held fuel cs y h => by
  obtain ⟨fu, h1, h2⟩ := K.rd_struct hu h
  rw [hc] at h1
  match cs, h1 with
  | [a, b], _ =>
    obtain ⟨f, hf, e1, e2⟩ := fld_get hfs (p := (ts, 0)) (by simp)
    obtain ⟨g, hg, e3, e4⟩ := fld_get hfs (p := (ts, 1)) (by simp)
    obtain ⟨y1, hy1⟩ := h2 f hf
    obtain ⟨y2, hy2⟩ := h2 g hg
    rw [e1, e2, cs'] at hy1
    rw [e3, e4, cs'] at hy2
    obtain ⟨k, hk⟩ := reads_str us enc w base spare held fu _ y1 hy1
    obtain ⟨v, hv⟩ := reads_str us enc w base spare held fu _ y2 hy2
    exact ⟨⟨k, v⟩, hk.cons hv⟩
/-- A slice of such. -/
theorem reads_lst {sz : Nat} (hu : P.underlying T = some (.slice t)) (hc : P.cellsOf t = sz) (hs : sz = e.sz) (hr : Reads P t e) : ReadsL P T e := fun enc w base spare held fuel cs y h => by
  obtain ⟨fu, h1⟩ := K.rd_slice hu h
  rcases h1 with rfl | ⟨a, len, cap, rfl, g1, g2, g3⟩
  · exact ⟨[], .lst (fun _ => []) (Nat.le_refl _) (fun i x hx => by simp at hx) (fun i x hx => by simp at hx) .nil⟩
  · subst hs
    rw [hc] at g3
    have hpos := sz_pos e
    obtain ⟨xs, hl, hx⟩ := rows_exist (fun i (x : e.T) => ∃ cs, some a = some ⟨K.blk (some a), K.offs (some a), none⟩ ∧ cellsF (F0 w.heap) (K.blk (some a)) (K.offs (some a) + i * e.sz) cs ∧ Rd (F0 w.heap) (e.enc x) cs) len (fun i hi => by
      obtain ⟨ys, y, hy1, hy2⟩ := g3 i hi
      obtain ⟨zs, z, hz1, hz2⟩ := g3 0 (by omega)
      obtain ⟨q1, q2, q3⟩ := K.slice_at hpos ⟨zs, hz1⟩ hy1
      obtain ⟨x, hx⟩ := hr enc w base spare held fu ys y hy2
      exact ⟨x, ys, q1, cellsF_F0 q3, hx⟩)
    refine ⟨xs, ?_⟩
    rw [← hl]
    exact Rd.of_at (by omega) fun i x hxi => hx i x hxi
theorem reads_node {fs : Array Field} {ti ts tl : TypeId} (hu : P.underlying t = some (.struct fs)) (hc : P.cellsOf t = 5) (hfs : fs.toList.map (fun f => (f.type, f.offset)) = [(ti, 0), (ts, 1), (ts, 2), (tl, 3), (ti, 4)]) (ui : P.underlying ti = some (.int .i64)) (us : P.underlying ts = some .string) (ci : P.cellsOf ti = 1) (cs' : P.cellsOf ts = 1) (cl : P.cellsOf tl = 1) (hl : ReadsL P tl .attr) : Reads P t .node := fun enc w base spare held fuel cs y h => by
  obtain ⟨fu, h1, h2⟩ := K.rd_struct hu h
  rw [hc] at h1
  match cs, h1 with
  | [a, b, c, d, e], _ =>
    obtain ⟨f0, hf0, e0, o0⟩ := fld_get hfs (p := (ti, 0)) (by simp)
    obtain ⟨f1, hf1, e1, o1⟩ := fld_get hfs (p := (ts, 1)) (by simp)
    obtain ⟨f2, hf2, e2, o2⟩ := fld_get hfs (p := (ts, 2)) (by simp)
    obtain ⟨f3, hf3, e3, o3⟩ := fld_get hfs (p := (tl, 3)) (by simp)
    obtain ⟨f4, hf4, e4, o4⟩ := fld_get hfs (p := (ti, 4)) (by simp)
    obtain ⟨y0, hy0⟩ := h2 f0 hf0
    obtain ⟨y1, hy1⟩ := h2 f1 hf1
    obtain ⟨y2, hy2⟩ := h2 f2 hf2
    obtain ⟨y3, hy3⟩ := h2 f3 hf3
    obtain ⟨y4, hy4⟩ := h2 f4 hf4
    rw [e0, o0, ci] at hy0
    rw [e1, o1, cs'] at hy1
    rw [e2, o2, cs'] at hy2
    rw [e3, o3, cl] at hy3
    rw [e4, o4, ci] at hy4
    obtain ⟨x0, hx0⟩ := reads_int ui enc w base spare held fu _ y0 hy0
    obtain ⟨x1, hx1⟩ := reads_str us enc w base spare held fu _ y1 hy1
    obtain ⟨x2, hx2⟩ := reads_str us enc w base spare held fu _ y2 hy2
    obtain ⟨x3, hx3⟩ := hl enc w base spare held fu _ y3 hy3
    obtain ⟨x4, hx4⟩ := reads_int ui enc w base spare held fu _ y4 hy4
    exact ⟨⟨x0, x1, x2, x3, x4⟩, hx0.cons (hx1.cons (hx2.cons (hx3.cons hx4)))⟩
variable {H : Type} {enc : TypeId × Value → H} {w : World} {base b0 : Nat} {spare : Nat → Bool} {held : Bool} {v : Value} {d : DataW H} {ps : List MemPlace}
/-! arguments -/
theorem arg_lst (hu : P.underlying T = some (.slice t)) (hr : ReadsL P T e) (hval : Value.okWide P w .any b0 T v) (hd : DataW.Trod enc P w base spare held T v d ps) : ∃ xs : List e.T, Rd (F0 w.heap) [.lst e xs] [v] := by
  obtain ⟨q0, len0, cap0, rfl⟩ := okWide_slice hu hval
  obtain ⟨fuel, hf⟩ := hd
  have := hr enc w base spare held fuel _ _ hf
  simpa [Value.cells] using this
theorem arg_int {k : IntKind} (hu : P.underlying t = some (.int k)) (hval : Value.okWide P w .any b0 t v) (hd : DataW.Trod enc P w base spare held t v d ps) : ∃ n : Int, v = .int k n ∧ (Lit.int k n).wf = true := by
  obtain ⟨n, rfl⟩ := okWide_int hu hval
  obtain ⟨fuel, hf⟩ := hd
  obtain ⟨m, h1, h2⟩ := K.rd_int hu hf
  simp [Value.cells] at h1
  exact ⟨n, rfl, by rw [h1]; exact h2⟩
theorem arg_str (hu : P.underlying t = some .string) (hval : Value.okWide P w .any b0 t v) (hd : DataW.Trod enc P w base spare held t v d ps) : ∃ l : List UInt8, v = bs l ∧ l.length ≤ maxLen := by
  obtain ⟨s, rfl⟩ := okWide_string hu hval
  obtain ⟨fuel, hf⟩ := hd
  obtain ⟨l, h1, h2⟩ := K.rd_string hu hf
  simp [Value.cells] at h1
  exact ⟨l, by rw [h1], h2⟩
theorem arg_bool (hu : P.underlying t = some .bool) (hval : Value.okWide P w .any b0 t v) : ∃ b : Bool, v = .bool b := okWide_bool hu hval
end
/-- No nodes yet. -/
def ι0 : Gh := fun i => if i = NT then (.tuple #[], []) else (undef, [])
theorem own0 {F : Frz} {T A : TypeId} (hF : ∀ j, F.nid j = none) : OwnR F ι0 NT (.nodes T A [] none) := by
  refine ⟨rfl, [], ?_, ?_, fun j _ => hF j⟩
  · simp [ι0]
  · have : (ι0 NT).2 = [] := by simp [ι0]
    rw [this]
    exact .nil
theorem m1_ns {F : Frz} {T A : TypeId} {v : Value} (hF : ∀ j, F.nid j = none) : M1 F ι0 NT (.ns T A) [] v := ⟨trivial, fun q hq => by
  simp [mk1] at hq
  subst hq
  exact own0 hF⟩
theorem lv0 {b : OB} : lv ι0 [(NT, b)] = [] := by simp [lv, ι0]
theorem m1_lst {F : Frz} {i : Nat} {e : E} {xs : List e.T} {v : Value} {ι : Gh} (h : Rd F [.lst e xs] [v]) : M1 F ι i (.lst e) xs v := ⟨.of_rd h, fun q hq => by simp [mk1] at hq⟩
theorem m1_int {F : Frz} {i : Nat} {k : IntKind} {n : Int} {ι : Gh} : M1 F ι i (.int k) n (.int k n) := ⟨.of_rd (.int .nil), fun q hq => by simp [mk1] at hq⟩
theorem m1_str {F : Frz} {i : Nat} {l : List UInt8} {ι : Gh} : M1 F ι i .str l (bs l) := ⟨.of_rd (.str .nil), fun q hq => by simp [mk1] at hq⟩
theorem m1_bool {F : Frz} {i : Nat} {b : Bool} {ι : Gh} : M1 F ι i .bool b (.bool b) := ⟨.of_rd (.bool .nil), fun q hq => by simp [mk1] at hq⟩
end Go.Proofs.Ytchhjooifjcnkaa.V
