/-
  FnRendered holds: for all arguments the call returns true, and they read as they did.
  No condition.
-/
import Derived.Test.YtpedmnlpccngiaaDoorRows
import Derived.Test.YtpedmnlpccngiaaDoorKArg
import Derived.Test.YtpedmnlpccngiaaDoorKFresh
import Derived.Test.YtpedmnlpccngiaaDoorPHe7
import Derived.Test.YtpedmnlpccngiaaDoorCards
import Derived.Test.YtpedmnlpccngiaaDoorTie
import Derived.SevenTiedAt
import Derived.LaidLaws
import Derived.LaidHandle
import Derived.LaidMore
import Derived.OpenVars
import Derived.Lay
import Derived.MakeChecks
set_option linter.unusedVariables false
set_option linter.unusedSimpArgs false
namespace Go.Proofs.YtpedmnlpccngiaaDoor.LawRendered
open Go Go.ChangeShapes Go.WideShapes Go.ChangeAt Go.RowKit

theorem vars_two {H : Type} {enc : TypeId × Value → H} {P : Program} {W : World} {sp : Nat → Bool} {n0 n1 : String} : ∀ {gs : List (DataW H)} {ps : List MemPlace}, DataW.TrodVars enc P W sp [n0, n1] gs ps → ∃ a b, gs = [a, b]
  | [], _, h => h.elim
  | [_], _, ⟨_, _, _, _, _, _, _, _, _, _, h, _⟩ => h.elim
  | [a, b], _, _ => ⟨a, b, rfl⟩
  | _ :: _ :: _ :: _, _, ⟨_, _, _, _, _, _, _, _, _, _, ⟨_, _, _, _, _, _, _, _, _, _, h, _⟩, _⟩ => h.elim
theorem law_postV {H : Type} {enc : TypeId × Value → H} {P : Program} {k : FuncId} {f : Func} {s : ChangeSpec} {tb : TypeId} {W : World} {args : Array Value} {ds gs : List (DataW H)} {before : List MemPlace}
    (hl : laidOutB P = true) (hread : f.params.toList.all (fun t => P.readableRec t && decide (t < P.types.size)) = true) (hvr : varsRowed P s.vars = true) (hrt : f.resultTypes = #[tb]) (hub : P.underlying tb = some .bool) (hW : DataW.Whole enc P f.params.toList s.vars false W args.toList ds gs before)
    (hfn : (s.fn H (ds ++ gs)).results = [.lit (.bool true)] ∧ (s.fn H (ds ++ gs)).args = ds ∧ (s.fn H (ds ++ gs)).vars = gs)
    (hret : K.Ret P k args.toList W.heap fun v h => v = .bool true ∧ K.Ext W.heap h) :
    Calls P k args W fun e W' => ∃ v, e = .returned v ∧ s.post enc P f false true false false W args v W' := by
  have h1 := hret.out ⟨W.os, W.output, W.tape⟩ W ⟨rfl, rfl, rfl, rfl⟩
  simp only [Array.toArray_toList] at h1
  refine h1.mono fun e W' ⟨v, he, h', hA, hv, hx⟩ => ?_
  subst hv
  refine ⟨_, he, ?_⟩
  have hb := K.below_of rfl hA hx
  have hW' := hW
  obtain ⟨p, q, hA0, hV, rfl, hfz, hnd⟩ := hW
  have hlt : ∀ x ∈ p, x.block < W.heap.size := fun x hx => hW'.lt x (by simp [hx])
  refine ⟨ds, gs, p ++ q, [], p, q, hW', ?_, ?_, ?_, World.keptBut_mono (fun _ h => h.elim) (hb.frame (fun _ => False)), fun h => by cases h⟩
  · rw [hrt, hfn.1]
    exact trodAll_mk1 (shut_bool hub true)
  · rw [hfn.2.1]
    exact K.trodAll_stays hl _ _ _ _ hread hA0 (fun x hx => hb.same (hlt x hx)) (fun x hx => by simpa using hlt x hx)
  · rw [hfn.2.2]
    exact Below.trodVars hl hb hvr hV
theorem own : ownKnob Tryd.prog.godebug = none := by kernel_rfl
theorem laidOut : laidOutB Tryd.prog = true := by kernel_rfl
set_option maxRecDepth 100000 in
theorem rdAttrs : V.ReadsL Tryd.prog 31 .attr :=
  V.reads_lst (t := 48) (sz := 2) Tryd.underlying31 (by kernel_rfl) rfl (V.reads_attr (ts := 9) Tryd.underlying48 (by kernel_rfl) rfl Tryd.underlying9 (by kernel_rfl))
set_option maxRecDepth 100000 in
theorem rdNodes : V.ReadsL Tryd.prog 22 .node :=
  V.reads_lst (t := 33) (sz := 5) Tryd.underlying22 (by kernel_rfl) rfl (V.reads_node (ti := 3) (ts := 9) (tl := 31) Tryd.underlying33 (by kernel_rfl) rfl Tryd.underlying3 Tryd.underlying9 (by kernel_rfl) (by kernel_rfl) (by kernel_rfl) rdAttrs)
def great : List String := ["unicode/utf8.first"]
/-- The world of the witness: the door's, and the table that Go itself lays. -/
noncomputable def w0 (os : Os) : World := (World.doorLaid Tryd.prog 118 os).layVars Tryd.prog (Rows.fnRenderedRow.laid.filter fun x => great.contains x.1)
noncomputable def blocks (os : Os) : List Nat := (List.range (World.doorLaid Tryd.prog 118 os).heap.size).drop 1
theorem all_met (os : Os) (args : Array Value) : laidMetH Tryd.prog Rows.fnRenderedRow.laid ((w0 os).forCall (fun _ _ => 0) ⟨#[], args, []⟩).memory := by
  rw [MakeChecks.laidMetH_plain _ _ _ (by kernel_rfl)]
  have h : laidMet Tryd.prog Rows.fnRenderedRow.laid (w0 os) := laidMet_layVars (w0 := World.doorLaid Tryd.prog 118 os) great (blocks os) rfl (by kernel_rfl) (by kernel_rfl)
    (LaidIn.of_run (blocks os) 8 (by kernel_rfl) (by kernel_rfl) (by kernel_rfl) (by kernel_rfl))
  exact h.of_heap (by simp [World.memory, World.forCall, Input.heap])
set_option maxRecDepth 100000 in
theorem lifted (os : Os) (started : os.Started) (H : Type) (enc : TypeId × Value → H) :
    ReturnsInHanded {} Tryd.checked os 4 .any (fun w args => (Rows.fnRenderedSpec.pre enc Tryd.prog Tryd.f4 Rows.fnRenderedRow.domain false w args ∧ laidMetH Tryd.prog Rows.fnRenderedRow.laid w) ∧ sizedMet enc Tryd.prog Tryd.f4 (OpenSpec.ofChange Rows.fnRenderedSpec) false w args) (Rows.fnRenderedSpec.post enc Tryd.prog Tryd.f4 false true false false) := by
  refine returnsInHanded_of_change_and (C := Tryd.checked) (X := fun w _ => laidMetH Tryd.prog Rows.fnRenderedRow.laid w) (fun _ _ _ hh h => h.of_heap hh) own started (by kernel_rfl) Tryd.func4
    (ChangeSpec.witness_shaped (enc := enc) (C := Tryd.checked) (os := os) (X := fun w _ => laidMetH Tryd.prog Rows.fnRenderedRow.laid w) false (w0 os) #[.slice none 0 0, .int .i64 0] 8 (World.layVars_os _ _ _) (World.shaped_of_ZipB (by kernel_rfl) (by kernel_rfl)) (by kernel_rfl) (by kernel_rfl) (by kernel_rfl) (all_met os _)) ?_
  intro W base args ds gs before hval0 hW hcnd hl1 hl2 hl3
  have hval : ∀ (j : Nat) t v, Tryd.f4.params[j]? = some t → args[j]? = some v → Value.okWide Tryd.prog W .any base t v := hval0
  have hW' := hW
  obtain ⟨p, q, hA0, hV, rfl, hfz, hnd⟩ := hW
  have hA : DataW.TrodAll enc Tryd.prog W 0 (fun _ => true) true Tryd.f4.params.toList args.toList ds p := hA0
  rw [Tryd.params4] at hA hval
  obtain ⟨v0, vs0, d0, ds0, p0, q0, hargs, rfl, rfl, h0, r0⟩ := trodAll_cons hA
  obtain ⟨v1, vs1, d1, ds1, p1, q1, rfl, rfl, rfl, h1, r1⟩ := trodAll_cons r0
  obtain ⟨rfl, rfl, rfl⟩ := trodAll_nil r1
  obtain rfl : args = #[v0, v1] := by cases args; simp_all
  obtain ⟨g1, g2, rfl⟩ := vars_two (show DataW.TrodVars enc Tryd.prog W (fun _ => true) [_, _] gs q from hV)
  obtain ⟨x0, g0⟩ := V.arg_lst Tryd.underlying22 rdNodes (hval 0 22 v0 rfl rfl) h0
  obtain ⟨x1, rfl, w1⟩ := V.arg_int Tryd.underlying3 (hval 1 3 v1 rfl rfl) h1
  refine law_postV laidOut (by kernel_rfl) (by kernel_rfl) rfl Tryd.underlying4 hW' ⟨rfl, rfl, rfl⟩ ?_
  exact V.bridge (ent := V.e_laws_FnRendered) (x := ((x0, x1) : List V.Node × Int)) (r := (true : Bool)) (ι := V.ι0) (h := W.heap) V.ok_laws_FnRendered (V.fn_rendered x0 x1 ) rfl ⟨V.m1_lst g0, V.m1_int⟩ rfl ⟨W, fun _ _ h => h, hl2⟩ (fun F' ι' vs h hl => V.ans_one hl h)

theorem holds : Rows.FnRenderedSaid :=
  OpenClaim.holds_of_wide 4 Tryd.f4 rfl rfl rfl rfl rfl rfl rfl ⟨rfl, rfl, rfl, rfl, rfl⟩ rfl rfl rfl rfl rfl (by kernel_rfl) Tryd.func4 (by kernel_rfl)
    (of_decide_eq_true (by kernel_rfl)) (by unfold Func.isWrapper; first | (rw [if_pos (by decide +kernel)]; kernel_rfl) | (rw [if_neg (by decide +kernel)]; exact ⟨rfl, rfl⟩))
    (fun os started H enc _ => lifted os started H enc)

theorem card : Rows.FnRenderedCardSaid :=
  Claim7.holds_tied_plain_at .later [] [.data, .sentinel, .mapped, .pinned] true Rows.fnRenderedCard.stood.harness Rows.fnRenderedCard.stood.looks
    holds (fun _ h => by cases h) (by kernel_rfl) (fun _ h => by cases h) fnRendered_row_tie rfl ⟨rfl, rfl⟩ (by kernel_rfl) rfl
    (fun f fn hf hfn => by
      obtain rfl : f = 4 := Option.some.inj ((show Tryd.prog.funcNamed Rows.fnRenderedRow.func = some 4 by kernel_rfl).symm.trans hf) |>.symm
      obtain rfl : fn = Tryd.f4 := (Option.some.inj (Tryd.func4.symm.trans hfn)).symm
      exact ⟨by kernel_rfl, fun j t ht => by
        have hm : t ∈ Tryd.f4.params := Array.mem_of_getElem? ht
        have hall : (Tryd.f4.params.toList.all fun u => !Tryd.prog.wantsStandIn u) = true := by kernel_rfl
        exact (show Tryd.prog.wantsStandIn t = false by simpa using List.all_eq_true.1 hall t (by simpa using hm))⟩)
    (by kernel_rfl)
end Go.Proofs.YtpedmnlpccngiaaDoor.LawRendered
