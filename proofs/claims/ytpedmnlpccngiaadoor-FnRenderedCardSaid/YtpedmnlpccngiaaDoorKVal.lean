/-
  utf8.ValidString as a known function: the library's contract, laid at this program.
-/
import Derived.Test.YtpedmnlpccngiaaDoorKTab
import Derived.Ground.NamesProg
import Derived.Shelf.Unicode.ValidAny
import Derived.Lib.LaidU8T
namespace Go.Proofs.YtpedmnlpccngiaaDoor.V
open Go Go.Proofs Go.Shelf K

def lays196_ren : Go.Shelf.Ren := ⟨fun | 196 => 35 | 259 => 47 | n => n, fun | 9 => 9 | 4 => 4 | 3 => 3 | 5 => 5 | 12 => 12 | 119 => 80 | 0 => 0 | 46 => 84 | 139 => 83 | 138 => 82 | 53 => 99 | n => n, fun | 3 => 0 | 4 => 1 | n => n⟩
theorem lays196 : Go.Proofs.Lays.n196 Tryd.prog lays196_ren := {
  mixed := by kernel_rfl
  f196 := Tryd.func35.trans (congrArg some (by kernel_rfl))
  f259 := Tryd.func47.trans (congrArg some (by kernel_rfl))
  t0 := Tryd.underlying0
  a0 := Tryd.isAgg0
  z0 := Tryd.sizeOf0
  v0 := Tryd.zeroValue0
  t3 := Tryd.underlying3
  a3 := Tryd.isAgg3
  z3 := Tryd.sizeOf3
  v3 := Tryd.zeroValue3
  t4 := Tryd.underlying4
  a4 := Tryd.isAgg4
  z4 := Tryd.sizeOf4
  v4 := Tryd.zeroValue4
  t5 := Tryd.underlying5
  a5 := Tryd.isAgg5
  z5 := Tryd.sizeOf5
  v5 := Tryd.zeroValue5
  t9 := Tryd.underlying9
  a9 := Tryd.isAgg9
  z9 := Tryd.sizeOf9
  v9 := Tryd.zeroValue9
  t12 := Tryd.underlying12
  a12 := Tryd.isAgg12
  z12 := Tryd.sizeOf12
  v12 := Tryd.zeroValue12
  t46 := Tryd.underlying84
  a46 := Tryd.isAgg84
  z46 := Tryd.sizeOf84
  v46 := Tryd.zeroValue84
  t53 := Tryd.underlying99
  a53 := Tryd.isAgg99
  z53 := Tryd.sizeOf99
  v53 := Tryd.zeroValue99
  t119 := Tryd.underlying80
  a119 := Tryd.isAgg80
  z119 := Tryd.sizeOf80
  t138 := Tryd.underlying82
  a138 := Tryd.isAgg82
  z138 := Tryd.sizeOf82
  v138 := Tryd.zeroValue82
  t139 := Tryd.underlying83
  a139 := Tryd.isAgg83
  z139 := Tryd.sizeOf83
  v139 := Tryd.zeroValue83
  g3 := by kernel_rfl
  g4 := by kernel_rfl }
theorem extra196 : U8Extra Tryd.prog lays196_ren := {
  n3 := by kernel_rfl
  n4 := by kernel_rfl
  y3 := by kernel_rfl
  y4 := by kernel_rfl
  c5 := by kernel_rfl
  c119 := by kernel_rfl
  c138 := by kernel_rfl }

theorem cell_mono {w : World} {h : Array Obj} {W : World} {a : Addr} {v : Value} (hm : ∀ (b : Nat) (o : Obj), w.heap[b]? = some o → h[b]? = some o) (hW : W.heap = h) (hc : w.cell? a = some v) : W.cell? a = some v := by
  cases hb : w.heap[a.block]? with
  | none => simp [World.cell?, hb] at hc
  | some o =>
    have := hm _ _ hb
    simp only [World.cell?, hb] at hc
    simp only [World.cell?, hW, this]
    exact hc
theorem gl_tabs {m : Nat → Option Obj} {W : World} (hg : Gl m) (hm : ∀ b o, m b = some o → W.heap[b]? = some o) : Go.Lib.Utf8Tabs (lays196_ren.g 3) (lays196_ren.g 4) W := by
  obtain ⟨w, hw, hl⟩ := hg
  have hf : (Rows.fnRenderedRow.laid.filter fun x => x.2.handleName?.isSome) = [] := by kernel_rfl
  unfold laidMetH at hl
  rw [hf] at hl
  obtain ⟨ps, hv, _⟩ := hl
  have h3 : Go.Lib.VarReads Tryd.prog w "unicode/utf8.first" Go.Lib.firstData := Go.Lib.LaidVars_reads hv _ _ (List.mem_of_getElem? (i := 3) (by kernel_rfl))
  have h4 : Go.Lib.VarReads Tryd.prog w "unicode/utf8.acceptRanges" Go.Lib.acceptData := Go.Lib.LaidVars_reads hv _ _ (List.mem_of_getElem? (i := 0) (by kernel_rfl))
  have hT := utf8Tabs_of_readsT (U8Types.of196 lays196) extra196 h3 h4
  have hq : ∀ b o, w.heap[b]? = some o → W.heap[b]? = some o := fun b o hb => hm b o (hw b o hb)
  exact ⟨fun c hc => cell_mono hq rfl (hT.1 c hc), fun i hi => ⟨cell_mono hq rfl (hT.2 i hi).1, cell_mono hq rfl (hT.2 i hi).2⟩⟩
abbrev p_utf8_ValidString : Pt := [(0, .str)]
abbrev q_utf8_ValidString : Pt := [(0, .bool)]
noncomputable def m_utf8_ValidString : Tup p_utf8_ValidString → Option (Tup q_utf8_ValidString) := fun (x : List UInt8) => bif decide (x.length ≤ 9223372036854775807) then some (Go.Lib.validD x) else none
noncomputable def e_utf8_ValidString : Ent := ⟨0, p_utf8_ValidString, q_utf8_ValidString, m_utf8_ValidString⟩
theorem hp_below {h h' : Array Obj} {F : Frz} {L : List Blk} (hm : Hp h F L) (hs : ∀ b, b < h.size → h'[b]? = h[b]?) : Hp h' F L := by
  refine ⟨fun b o hb => ?_, fun p hp => ?_, hm.sep, hm.nodup, fun b hb => ?_, hm.gl⟩
  · rw [hs b (hm.flt hb)]
    exact hm.frz b o hb
  · rw [hs p.1 (hm.lt hp)]
    exact hm.own p hp
  · obtain ⟨cs, T, h1, h2⟩ := hm.live b hb
    exact ⟨cs, T, by rw [hs b (Array.getElem?_eq_some_iff.1 h1).1]; exact h1, h2⟩
theorem ok_utf8_ValidString : FnOK Tryd.prog 35 e_utf8_ValidString := by
  intro x r hr F ι h L0 vargs hlen hM hH
  have hr : (bif decide (List.length (α := UInt8) x ≤ 9223372036854775807) then some (Go.Lib.validD x) else none : Option Bool) = some r := hr
  cases hd : decide (List.length (α := UInt8) x ≤ 9223372036854775807) with
  | false => rw [hd] at hr; cases hr
  | true =>
  rw [hd] at hr
  obtain rfl := Option.some.inj hr
  have hd := of_decide_eq_true hd
  obtain ⟨h1, h2⟩ := hM
  have hv : vargs = [bs x] := by
    match vargs, hlen, h1 with
    | [v], _, h1 => rw [Rd.str_inv (show Rd F [D.str x] [v] from h1)]
  subst hv
  have hH : Hp h F L0 := by simpa [lv, e_utf8_ValidString, mkOw, mk1] using hH
  refine ⟨fun E w hw => ?_⟩
  have hsz : (⟨x.toArray⟩ : ByteArray).size = List.length (α := UInt8) x := by show x.toArray.size = _; exact List.size_toArray
  refine (Any.utf8_ValidString lays196 ⟨x.toArray⟩ w (by rw [hsz]; exact hd) (gl_tabs hH.gl fun b o hb => by rw [hw.1]; exact hH.frz b o hb)).mono ?_
  rintro e w' ⟨rfl, hB⟩
  refine ⟨_, rfl, w'.heap, ⟨rfl, hB.os.trans hw.2.1, hB.output.trans hw.2.2.1, hB.tape.trans hw.2.2.2⟩, ?_⟩
  have hh : Hp w'.heap F L0 := hp_below hH fun b hb => by rw [← hw.1] at hb ⊢; exact hB.block b hb
  refine ⟨F, ι, [.bool (Go.Lib.validD x)], .refl F, fun _ => rfl, rfl, ⟨.bool .nil, fun q hq => by simp [mk1] at hq⟩, rfl, by simpa [lv, e_utf8_ValidString, mkOw, mk1] using hh, fun k hk h5 _ _ => ?_⟩
  have hk : k = 0 := by simpa [e_utf8_ValidString] using hk
  omega
end Go.Proofs.YtpedmnlpccngiaaDoor.V
