/-
  FnDocumentApart holds where what it reads is of bulk at most 1048576: the call returns true, and the arguments read as they did.
  The condition is the statement's own (UptoSaid).
-/
import Derived.Test.YtngabkipchpmpaaGreatRows
import Derived.JoinedCond
import Derived.Test.YtngabkipchpmpaaGreatQ7
namespace Go.Proofs.YtngabkipchpmpaaGreat.LawDocumentApart
open Go Go.ChangeShapes Go.WideShapes Go.ChangeAt Go.RowKit

theorem own : ownKnob Tryz.prog.godebug = none := by kernel_rfl
theorem laidOut : laidOutB Tryz.prog = true := by kernel_rfl
set_option maxRecDepth 100000 in
theorem Tf : V.B5 Tryz.prog 33 .attr :=
  V.D3 (t := 73) (sz := 2) Tryz.underlying33 (by kernel_rfl) rfl (V.Ju (ts := 9) Tryz.underlying73 (by kernel_rfl) rfl Tryz.underlying9 (by kernel_rfl))
set_option maxRecDepth 100000 in
theorem Tg : V.B5 Tryz.prog 22 .node :=
  V.D3 (t := 35) (sz := 5) Tryz.underlying22 (by kernel_rfl) rfl (V.Jv (ti := 3) (ts := 9) (tl := 33) Tryz.underlying35 (by kernel_rfl) rfl Tryz.underlying3 Tryz.underlying9 (by kernel_rfl) (by kernel_rfl) (by kernel_rfl) Tf)
set_option maxRecDepth 100000 in
theorem LD : V.QB Tryz.prog 23 V.YT λs n => n <= 1048576 -> V.Gf s :=
  V.Gk (t := 39) (sz := 6) Tryz.underlying23 (by kernel_rfl) rfl (V.QC (ti := 3) (ts := 9) (tl := 26) (tw := 37) Tryz.underlying39 (by kernel_rfl) rfl Tryz.underlying3 Tryz.underlying9 (by kernel_rfl) (by kernel_rfl) (by kernel_rfl) (by kernel_rfl)
    (V.Gk (t := 3) (sz := 1) Tryz.underlying26 (by kernel_rfl) rfl (V.LB Tryz.underlying3)) (V.Gk (t := 9) (sz := 1) Tryz.underlying37 (by kernel_rfl) rfl (V.Gj Tryz.underlying9)))
set_option maxRecDepth 100000 in
theorem lifted (os : Os)(started : os.Started)(H : Type)(enc : TypeId × Value -> H)(F0 : Stop.Interp) :
    ReturnsInHanded {} Tryz.checked os 3 .any ((Rows.OpenSpec.upto Rows.fnDocumentApartSpec).pre6 enc Tryz.prog Tryz.f3 Rows.fnDocumentApartUptoRow.domain false) (((Rows.OpenSpec.upto Rows.fnDocumentApartSpec).at F0).post enc Tryz.prog Tryz.f3 false true false false) := by
  refine returnsInHanded_of_cond (C := Tryz.checked) (s := Rows.OpenSpec.upto Rows.fnDocumentApartSpec) (k := Rows.uptoSmall) rfl own started (by kernel_rfl) Tryz.func3
    (OpenSpec.witness (enc := enc) (C := Tryz.checked) (s := Rows.OpenSpec.upto Rows.fnDocumentApartSpec) (k := Rows.uptoSmall) rfl false ⟨#[], #[.slice none 0 0, .slice none 0 0, .slice none 0 0], []⟩ 8 (by kernel_rfl) (by kernel_rfl) (by kernel_rfl) (x := ([.nil, .nil, .nil], [], [])) (by kernel_rfl) (by kernel_rfl) (by kernel_rfl)) ?_
  intro W base args ds gs before YU hW RK hk _;have Az : ∀ (j : Nat) t v, Tryz.f3.params[j]? = some t -> args[j]? = some v -> Value.okWide Tryz.prog W .any base t v := YU;have YV := hW;obtain⟨p, q, ZI, hV, rfl, A7, my⟩ := hW;have hA : DataW.TrodAll enc Tryz.prog W 0 (λ_ => true) true Tryz.f3.params.toList args.toList ds p := ZI;rw [Tryz.params3] at hA Az;obtain⟨v0, vs0, d0, ds0, p0, q0, acU, rfl, rfl, h0, r0⟩ := trodAll_cons hA;obtain⟨v1, YW, d1, WZ, p1, q1, rfl, rfl, rfl, h1, r1⟩ := trodAll_cons r0;obtain⟨v2, vs2, d2, ds2, p2, q2, rfl, rfl, rfl, h2, r2⟩ := trodAll_cons r1;obtain⟨rfl, rfl, rfl⟩ := trodAll_nil r2;obtain rfl : args = #[v0, v1, v2] := by cases args;simp_all
  obtain⟨rfl, rfl⟩ := trodVars_none hV;have hb : Rows.uptoBulkAll [d0, d1, d2] <= 1048576 := of_decide_eq_true hk;have CM := V.CL (show d1 ∈ [d0, d1, d2] by simp);have Bd := V.CL (show d2 ∈ [d0, d1, d2] by simp);obtain⟨x0, g0⟩ := V.RU Tryz.underlying22 Tg (Az 0 22 v0 rfl rfl) h0;obtain⟨x1, g1, a1, b1⟩ := V.Ew Tryz.underlying23 LD (Az 1 23 v1 rfl rfl) h1 (Nat.le_trans CM hb);obtain⟨x2, g2, a2, b2⟩ := V.Ew Tryz.underlying23 LD (Az 2 23 v2 rfl rfl) h2 (Nat.le_trans Bd hb);refine K.NZ (s := (Rows.OpenSpec.upto Rows.fnDocumentApartSpec).at F0) laidOut (by kernel_rfl) rfl Tryz.underlying4 rfl YV ⟨rfl, rfl, rfl⟩ ?_;exact V.Vn (bN := V.td) (x := ((x0, x1, x2) : List V.Node × List V.K9 × List V.K9)) (r := (true : Bool)) (ι := V.KM) (h := W.heap) V.sE (V.zN x0 x1 x2 a1 a2 b1 b2) rfl ⟨V.Jw g0, V.Jw g1, V.Jw g2⟩ rfl trivial (λF' ι' vs h hl => V.RQ hl h)

theorem holds : Rows.FnDocumentApartUptoSaid :=
  OpenClaim.holds_of_cond 3 Tryz.f3 rfl rfl rfl rfl rfl rfl rfl ⟨rfl, rfl, rfl, rfl, rfl⟩ rfl rfl rfl rfl rfl (by kernel_rfl) Tryz.func3 (by kernel_rfl)
    (of_decide_eq_true (by kernel_rfl)) (by unfold Func.isWrapper;first | (rw [if_pos (by decide +kernel)];kernel_rfl) | (rw [if_neg (by decide +kernel)];exact⟨rfl, rfl⟩))
    (λos started H enc _ F0 => lifted os started H enc F0)
end Go.Proofs.YtngabkipchpmpaaGreat.LawDocumentApart
