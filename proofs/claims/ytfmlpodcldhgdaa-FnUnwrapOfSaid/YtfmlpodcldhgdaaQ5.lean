/-
  Plain facts and an evaluator for what a law needs.
-/
import Derived.Test.YtfmlpodcldhgdaaQ4
set_option linter.unusedVariables false
set_option linter.unusedSimpArgs false
namespace Go.Proofs.Ytfmlpodcldhgdaa.V
open Go Go.Proofs
abbrev p_html_Node_InsertBefore : Pt := [(0, .np), (1, .np), (2, .np), (NT, .ns .h 126 168)]
abbrev q_html_Node_InsertBefore : Pt := [(NT, .ns .h 126 168)]
noncomputable def m_html_Node_InsertBefore : Tup p_html_Node_InsertBefore → Option (Tup q_html_Node_InsertBefore) := fun (x : Option Nat × Option Nat × Option Nat × List HN) => Option.bind x.2.1 fun (i : Nat) => Option.bind (some i) fun (i : Nat) => Option.bind x.2.2.2[i]? fun (h : HN) => bif !Option.isNone (HN.par h) then none else Option.bind x.2.1 fun (i : Nat) => Option.bind (some i) fun (i : Nat) => Option.bind x.2.2.2[i]? fun (h : HN) => bif !Option.isNone (HN.prv h) then none else Option.bind x.2.1 fun (i : Nat) => Option.bind (some i) fun (i : Nat) => Option.bind x.2.2.2[i]? fun (h : HN) => bif !Option.isNone (HN.nxt h) then none else bif !Option.isNone x.2.2.1 then Option.bind x.2.2.1 fun (i : Nat) => Option.bind (some i) fun (i : Nat) => Option.bind x.2.2.2[i]? fun (h : HN) => bif !Option.isNone (HN.prv h) then Option.bind (HN.prv h) fun (i : Nat) => Option.bind (some i) fun (i : Nat) => Option.bind x.2.2.2[i]? fun (h_1 : HN) => bif !Option.isNone x.2.2.1 then Option.bind x.2.2.1 fun (i_1 : Nat) => Option.bind (some i_1) fun (i_2 : Nat) => Option.bind (List.set x.2.2.2 i { h_1 with nxt := x.2.1 })[i_2]? fun (h_2 : HN) => Option.bind x.2.1 fun (i_3 : Nat) => Option.bind (some i_3) fun (i_4 : Nat) => Option.bind (List.set (List.set x.2.2.2 i { h_1 with nxt := x.2.1 }) i_2 { h_2 with prv := x.2.1 })[i_4]? fun (h_3 : HN) => Option.bind x.2.1 fun (i_5 : Nat) => Option.bind (some i_5) fun (i_6 : Nat) => Option.bind (List.set (List.set (List.set x.2.2.2 i { h_1 with nxt := x.2.1 }) i_2 { h_2 with prv := x.2.1 }) i_4 { h_3 with par := x.1 })[i_6]? fun (h_4 : HN) => Option.bind x.2.1 fun (i_7 : Nat) => Option.bind (some i_7) fun (i_8 : Nat) => Option.bind (List.set (List.set (List.set (List.set x.2.2.2 i { h_1 with nxt := x.2.1 }) i_2 { h_2 with prv := x.2.1 }) i_4 { h_3 with par := x.1 }) i_6 { h_4 with prv := HN.prv h })[i_8]? fun (h_5 : HN) => some (List.set (List.set (List.set (List.set (List.set x.2.2.2 i { h_1 with nxt := x.2.1 }) i_2 { h_2 with prv := x.2.1 }) i_4 { h_3 with par := x.1 }) i_6 { h_4 with prv := HN.prv h }) i_8 { h_5 with nxt := x.2.2.1 }) else Option.bind x.1 fun (i_1 : Nat) => Option.bind (some i_1) fun (i_2 : Nat) => Option.bind (List.set x.2.2.2 i { h_1 with nxt := x.2.1 })[i_2]? fun (h_2 : HN) => Option.bind x.2.1 fun (i_3 : Nat) => Option.bind (some i_3) fun (i_4 : Nat) => Option.bind (List.set (List.set x.2.2.2 i { h_1 with nxt := x.2.1 }) i_2 { h_2 with lst := x.2.1 })[i_4]? fun (h_3 : HN) => Option.bind x.2.1 fun (i_5 : Nat) => Option.bind (some i_5) fun (i_6 : Nat) => Option.bind (List.set (List.set (List.set x.2.2.2 i { h_1 with nxt := x.2.1 }) i_2 { h_2 with lst := x.2.1 }) i_4 { h_3 with par := x.1 })[i_6]? fun (h_4 : HN) => Option.bind x.2.1 fun (i_7 : Nat) => Option.bind (some i_7) fun (i_8 : Nat) => Option.bind (List.set (List.set (List.set (List.set x.2.2.2 i { h_1 with nxt := x.2.1 }) i_2 { h_2 with lst := x.2.1 }) i_4 { h_3 with par := x.1 }) i_6 { h_4 with prv := HN.prv h })[i_8]? fun (h_5 : HN) => some (List.set (List.set (List.set (List.set (List.set x.2.2.2 i { h_1 with nxt := x.2.1 }) i_2 { h_2 with lst := x.2.1 }) i_4 { h_3 with par := x.1 }) i_6 { h_4 with prv := HN.prv h }) i_8 { h_5 with nxt := x.2.2.1 }) else Option.bind x.1 fun (i : Nat) => Option.bind (some i) fun (i : Nat) => Option.bind x.2.2.2[i]? fun (h_1 : HN) => bif !Option.isNone x.2.2.1 then Option.bind x.2.2.1 fun (i_1 : Nat) => Option.bind (some i_1) fun (i_2 : Nat) => Option.bind (List.set x.2.2.2 i { h_1 with fst := x.2.1 })[i_2]? fun (h_2 : HN) => Option.bind x.2.1 fun (i_3 : Nat) => Option.bind (some i_3) fun (i_4 : Nat) => Option.bind (List.set (List.set x.2.2.2 i { h_1 with fst := x.2.1 }) i_2 { h_2 with prv := x.2.1 })[i_4]? fun (h_3 : HN) => Option.bind x.2.1 fun (i_5 : Nat) => Option.bind (some i_5) fun (i_6 : Nat) => Option.bind (List.set (List.set (List.set x.2.2.2 i { h_1 with fst := x.2.1 }) i_2 { h_2 with prv := x.2.1 }) i_4 { h_3 with par := x.1 })[i_6]? fun (h_4 : HN) => Option.bind x.2.1 fun (i_7 : Nat) => Option.bind (some i_7) fun (i_8 : Nat) => Option.bind (List.set (List.set (List.set (List.set x.2.2.2 i { h_1 with fst := x.2.1 }) i_2 { h_2 with prv := x.2.1 }) i_4 { h_3 with par := x.1 }) i_6 { h_4 with prv := HN.prv h })[i_8]? fun (h_5 : HN) => some (List.set (List.set (List.set (List.set (List.set x.2.2.2 i { h_1 with fst := x.2.1 }) i_2 { h_2 with prv := x.2.1 }) i_4 { h_3 with par := x.1 }) i_6 { h_4 with prv := HN.prv h }) i_8 { h_5 with nxt := x.2.2.1 }) else Option.bind x.1 fun (i_1 : Nat) => Option.bind (some i_1) fun (i_2 : Nat) => Option.bind (List.set x.2.2.2 i { h_1 with fst := x.2.1 })[i_2]? fun (h_2 : HN) => Option.bind x.2.1 fun (i_3 : Nat) => Option.bind (some i_3) fun (i_4 : Nat) => Option.bind (List.set (List.set x.2.2.2 i { h_1 with fst := x.2.1 }) i_2 { h_2 with lst := x.2.1 })[i_4]? fun (h_3 : HN) => Option.bind x.2.1 fun (i_5 : Nat) => Option.bind (some i_5) fun (i_6 : Nat) => Option.bind (List.set (List.set (List.set x.2.2.2 i { h_1 with fst := x.2.1 }) i_2 { h_2 with lst := x.2.1 }) i_4 { h_3 with par := x.1 })[i_6]? fun (h_4 : HN) => Option.bind x.2.1 fun (i_7 : Nat) => Option.bind (some i_7) fun (i_8 : Nat) => Option.bind (List.set (List.set (List.set (List.set x.2.2.2 i { h_1 with fst := x.2.1 }) i_2 { h_2 with lst := x.2.1 }) i_4 { h_3 with par := x.1 }) i_6 { h_4 with prv := HN.prv h })[i_8]? fun (h_5 : HN) => some (List.set (List.set (List.set (List.set (List.set x.2.2.2 i { h_1 with fst := x.2.1 }) i_2 { h_2 with lst := x.2.1 }) i_4 { h_3 with par := x.1 }) i_6 { h_4 with prv := HN.prv h }) i_8 { h_5 with nxt := x.2.2.1 }) else Option.bind x.1 fun (i : Nat) => Option.bind (some i) fun (i : Nat) => Option.bind x.2.2.2[i]? fun (h : HN) => bif !Option.isNone (HN.lst h) then Option.bind (HN.lst h) fun (i : Nat) => Option.bind (some i) fun (i : Nat) => Option.bind x.2.2.2[i]? fun (h_1 : HN) => Option.bind x.1 fun (i_1 : Nat) => Option.bind (some i_1) fun (i_2 : Nat) => Option.bind (List.set x.2.2.2 i { h_1 with nxt := x.2.1 })[i_2]? fun (h_2 : HN) => Option.bind x.2.1 fun (i_3 : Nat) => Option.bind (some i_3) fun (i_4 : Nat) => Option.bind (List.set (List.set x.2.2.2 i { h_1 with nxt := x.2.1 }) i_2 { h_2 with lst := x.2.1 })[i_4]? fun (h_3 : HN) => Option.bind x.2.1 fun (i_5 : Nat) => Option.bind (some i_5) fun (i_6 : Nat) => Option.bind (List.set (List.set (List.set x.2.2.2 i { h_1 with nxt := x.2.1 }) i_2 { h_2 with lst := x.2.1 }) i_4 { h_3 with par := x.1 })[i_6]? fun (h_4 : HN) => Option.bind x.2.1 fun (i_7 : Nat) => Option.bind (some i_7) fun (i_8 : Nat) => Option.bind (List.set (List.set (List.set (List.set x.2.2.2 i { h_1 with nxt := x.2.1 }) i_2 { h_2 with lst := x.2.1 }) i_4 { h_3 with par := x.1 }) i_6 { h_4 with prv := HN.lst h })[i_8]? fun (h_5 : HN) => some (List.set (List.set (List.set (List.set (List.set x.2.2.2 i { h_1 with nxt := x.2.1 }) i_2 { h_2 with lst := x.2.1 }) i_4 { h_3 with par := x.1 }) i_6 { h_4 with prv := HN.lst h }) i_8 { h_5 with nxt := none }) else Option.bind x.1 fun (i : Nat) => Option.bind (some i) fun (i : Nat) => Option.bind x.2.2.2[i]? fun (h_1 : HN) => Option.bind x.1 fun (i_1 : Nat) => Option.bind (some i_1) fun (i_2 : Nat) => Option.bind (List.set x.2.2.2 i { h_1 with fst := x.2.1 })[i_2]? fun (h_2 : HN) => Option.bind x.2.1 fun (i_3 : Nat) => Option.bind (some i_3) fun (i_4 : Nat) => Option.bind (List.set (List.set x.2.2.2 i { h_1 with fst := x.2.1 }) i_2 { h_2 with lst := x.2.1 })[i_4]? fun (h_3 : HN) => Option.bind x.2.1 fun (i_5 : Nat) => Option.bind (some i_5) fun (i_6 : Nat) => Option.bind (List.set (List.set (List.set x.2.2.2 i { h_1 with fst := x.2.1 }) i_2 { h_2 with lst := x.2.1 }) i_4 { h_3 with par := x.1 })[i_6]? fun (h_4 : HN) => Option.bind x.2.1 fun (i_7 : Nat) => Option.bind (some i_7) fun (i_8 : Nat) => Option.bind (List.set (List.set (List.set (List.set x.2.2.2 i { h_1 with fst := x.2.1 }) i_2 { h_2 with lst := x.2.1 }) i_4 { h_3 with par := x.1 }) i_6 { h_4 with prv := HN.lst h })[i_8]? fun (h_5 : HN) => some (List.set (List.set (List.set (List.set (List.set x.2.2.2 i { h_1 with fst := x.2.1 }) i_2 { h_2 with lst := x.2.1 }) i_4 { h_3 with par := x.1 }) i_6 { h_4 with prv := HN.lst h }) i_8 { h_5 with nxt := none })
noncomputable def cx_html_Node_InsertBefore : Cx := ⟨tb, lookE [], lookS []⟩
theorem ck_html_Node_InsertBefore : CxOK Try.prog (cx_html_Node_InsertBefore) := cx_ok tb_ok .nil
noncomputable def e_html_Node_InsertBefore : Ent := ⟨0, p_html_Node_InsertBefore, q_html_Node_InsertBefore, m_html_Node_InsertBefore⟩
theorem ok_html_Node_InsertBefore : FnOK Try.prog 88 e_html_Node_InsertBefore := fn_ok (L := lookL []) ck_html_Node_InsertBefore mixed Try.func88 rfl (by kernel_rfl) (by kernel_rfl) (ls_ok (l := []) (by kernel_rfl) .nil) (by intro x; kernel_rfl)
abbrev p_html_Node_RemoveChild : Pt := [(0, .np), (1, .np), (NT, .ns .h 126 168)]
abbrev q_html_Node_RemoveChild : Pt := [(NT, .ns .h 126 168)]
noncomputable def m_html_Node_RemoveChild : Tup p_html_Node_RemoveChild → Option (Tup q_html_Node_RemoveChild) := fun (x : Option Nat × Option Nat × List HN) => Option.bind x.2.1 fun (i : Nat) => Option.bind (some i) fun (i : Nat) => Option.bind x.2.2[i]? fun (h : HN) => bif !decide (HN.par h = x.1) then none else Option.bind x.1 fun (i : Nat) => Option.bind (some i) fun (i : Nat) => Option.bind x.2.2[i]? fun (h : HN) => bif decide (HN.fst h = x.2.1) then Option.bind x.2.1 fun (i : Nat) => Option.bind (some i) fun (i : Nat) => Option.bind x.2.2[i]? fun (h : HN) => Option.bind x.1 fun (i : Nat) => Option.bind (some i) fun (i : Nat) => Option.bind x.2.2[i]? fun (h_1 : HN) => Option.bind x.2.1 fun (i_1 : Nat) => Option.bind (some i_1) fun (i_2 : Nat) => Option.bind (List.set x.2.2 i { h_1 with fst := HN.nxt h })[i_2]? fun (h_2 : HN) => bif !Option.isNone (HN.nxt h_2) then Option.bind x.2.1 fun (i_3 : Nat) => Option.bind (some i_3) fun (i_4 : Nat) => Option.bind (List.set x.2.2 i { h_1 with fst := HN.nxt h })[i_4]? fun (h_3 : HN) => Option.bind x.2.1 fun (i_5 : Nat) => Option.bind (some i_5) fun (i_6 : Nat) => Option.bind (List.set x.2.2 i { h_1 with fst := HN.nxt h })[i_6]? fun (h_4 : HN) => Option.bind (HN.nxt h_3) fun (i_7 : Nat) => Option.bind (some i_7) fun (i_8 : Nat) => Option.bind (List.set x.2.2 i { h_1 with fst := HN.nxt h })[i_8]? fun (h_5 : HN) => Option.bind x.1 fun (i_9 : Nat) => Option.bind (some i_9) fun (i_10 : Nat) => Option.bind (List.set (List.set x.2.2 i { h_1 with fst := HN.nxt h }) i_8 { h_5 with prv := HN.prv h_4 })[i_10]? fun (h_6 : HN) => bif decide (HN.lst h_6 = x.2.1) then Option.bind x.2.1 fun (i_11 : Nat) => Option.bind (some i_11) fun (i_12 : Nat) => Option.bind (List.set (List.set x.2.2 i { h_1 with fst := HN.nxt h }) i_8 { h_5 with prv := HN.prv h_4 })[i_12]? fun (h_7 : HN) => Option.bind x.1 fun (i_13 : Nat) => Option.bind (some i_13) fun (i_14 : Nat) => Option.bind (List.set (List.set x.2.2 i { h_1 with fst := HN.nxt h }) i_8 { h_5 with prv := HN.prv h_4 })[i_14]? fun (h_8 : HN) => Option.bind x.2.1 fun (i_15 : Nat) => Option.bind (some i_15) fun (i_16 : Nat) => Option.bind (List.set (List.set (List.set x.2.2 i { h_1 with fst := HN.nxt h }) i_8 { h_5 with prv := HN.prv h_4 }) i_14 { h_8 with lst := HN.prv h_7 })[i_16]? fun (h_9 : HN) => bif !Option.isNone (HN.prv h_9) then Option.bind x.2.1 fun (i_17 : Nat) => Option.bind (some i_17) fun (i_18 : Nat) => Option.bind (List.set (List.set (List.set x.2.2 i { h_1 with fst := HN.nxt h }) i_8 { h_5 with prv := HN.prv h_4 }) i_14 { h_8 with lst := HN.prv h_7 })[i_18]? fun (h_10 : HN) => Option.bind x.2.1 fun (i_19 : Nat) => Option.bind (some i_19) fun (i_20 : Nat) => Option.bind (List.set (List.set (List.set x.2.2 i { h_1 with fst := HN.nxt h }) i_8 { h_5 with prv := HN.prv h_4 }) i_14 { h_8 with lst := HN.prv h_7 })[i_20]? fun (h_11 : HN) => Option.bind (HN.prv h_10) fun (i_21 : Nat) => Option.bind (some i_21) fun (i_22 : Nat) => Option.bind (List.set (List.set (List.set x.2.2 i { h_1 with fst := HN.nxt h }) i_8 { h_5 with prv := HN.prv h_4 }) i_14 { h_8 with lst := HN.prv h_7 })[i_22]? fun (h_12 : HN) => Option.bind x.2.1 fun (i_23 : Nat) => Option.bind (some i_23) fun (i_24 : Nat) => Option.bind (List.set (List.set (List.set (List.set x.2.2 i { h_1 with fst := HN.nxt h }) i_8 { h_5 with prv := HN.prv h_4 }) i_14 { h_8 with lst := HN.prv h_7 }) i_22 { h_12 with nxt := HN.nxt h_11 })[i_24]? fun (h_13 : HN) => Option.bind x.2.1 fun (i_25 : Nat) => Option.bind (some i_25) fun (i_26 : Nat) => Option.bind (List.set (List.set (List.set (List.set (List.set x.2.2 i { h_1 with fst := HN.nxt h }) i_8 { h_5 with prv := HN.prv h_4 }) i_14 { h_8 with lst := HN.prv h_7 }) i_22 { h_12 with nxt := HN.nxt h_11 }) i_24 { h_13 with par := none })[i_26]? fun (h_14 : HN) => Option.bind x.2.1 fun (i_27 : Nat) => Option.bind (some i_27) fun (i_28 : Nat) => Option.bind (List.set (List.set (List.set (List.set (List.set (List.set x.2.2 i { h_1 with fst := HN.nxt h }) i_8 { h_5 with prv := HN.prv h_4 }) i_14 { h_8 with lst := HN.prv h_7 }) i_22 { h_12 with nxt := HN.nxt h_11 }) i_24 { h_13 with par := none }) i_26 { h_14 with prv := none })[i_28]? fun (h_15 : HN) => some (List.set (List.set (List.set (List.set (List.set (List.set (List.set x.2.2 i { h_1 with fst := HN.nxt h }) i_8 { h_5 with prv := HN.prv h_4 }) i_14 { h_8 with lst := HN.prv h_7 }) i_22 { h_12 with nxt := HN.nxt h_11 }) i_24 { h_13 with par := none }) i_26 { h_14 with prv := none }) i_28 { h_15 with nxt := none }) else Option.bind x.2.1 fun (i_17 : Nat) => Option.bind (some i_17) fun (i_18 : Nat) => Option.bind (List.set (List.set (List.set x.2.2 i { h_1 with fst := HN.nxt h }) i_8 { h_5 with prv := HN.prv h_4 }) i_14 { h_8 with lst := HN.prv h_7 })[i_18]? fun (h_10 : HN) => Option.bind x.2.1 fun (i_19 : Nat) => Option.bind (some i_19) fun (i_20 : Nat) => Option.bind (List.set (List.set (List.set (List.set x.2.2 i { h_1 with fst := HN.nxt h }) i_8 { h_5 with prv := HN.prv h_4 }) i_14 { h_8 with lst := HN.prv h_7 }) i_18 { h_10 with par := none })[i_20]? fun (h_11 : HN) => Option.bind x.2.1 fun (i_21 : Nat) => Option.bind (some i_21) fun (i_22 : Nat) => Option.bind (List.set (List.set (List.set (List.set (List.set x.2.2 i { h_1 with fst := HN.nxt h }) i_8 { h_5 with prv := HN.prv h_4 }) i_14 { h_8 with lst := HN.prv h_7 }) i_18 { h_10 with par := none }) i_20 { h_11 with prv := none })[i_22]? fun (h_12 : HN) => some (List.set (List.set (List.set (List.set (List.set (List.set x.2.2 i { h_1 with fst := HN.nxt h }) i_8 { h_5 with prv := HN.prv h_4 }) i_14 { h_8 with lst := HN.prv h_7 }) i_18 { h_10 with par := none }) i_20 { h_11 with prv := none }) i_22 { h_12 with nxt := none }) else Option.bind x.2.1 fun (i_11 : Nat) => Option.bind (some i_11) fun (i_12 : Nat) => Option.bind (List.set (List.set x.2.2 i { h_1 with fst := HN.nxt h }) i_8 { h_5 with prv := HN.prv h_4 })[i_12]? fun (h_7 : HN) => bif !Option.isNone (HN.prv h_7) then Option.bind x.2.1 fun (i_13 : Nat) => Option.bind (some i_13) fun (i_14 : Nat) => Option.bind (List.set (List.set x.2.2 i { h_1 with fst := HN.nxt h }) i_8 { h_5 with prv := HN.prv h_4 })[i_14]? fun (h_8 : HN) => Option.bind x.2.1 fun (i_15 : Nat) => Option.bind (some i_15) fun (i_16 : Nat) => Option.bind (List.set (List.set x.2.2 i { h_1 with fst := HN.nxt h }) i_8 { h_5 with prv := HN.prv h_4 })[i_16]? fun (h_9 : HN) => Option.bind (HN.prv h_8) fun (i_17 : Nat) => Option.bind (some i_17) fun (i_18 : Nat) => Option.bind (List.set (List.set x.2.2 i { h_1 with fst := HN.nxt h }) i_8 { h_5 with prv := HN.prv h_4 })[i_18]? fun (h_10 : HN) => Option.bind x.2.1 fun (i_19 : Nat) => Option.bind (some i_19) fun (i_20 : Nat) => Option.bind (List.set (List.set (List.set x.2.2 i { h_1 with fst := HN.nxt h }) i_8 { h_5 with prv := HN.prv h_4 }) i_18 { h_10 with nxt := HN.nxt h_9 })[i_20]? fun (h_11 : HN) => Option.bind x.2.1 fun (i_21 : Nat) => Option.bind (some i_21) fun (i_22 : Nat) => Option.bind (List.set (List.set (List.set (List.set x.2.2 i { h_1 with fst := HN.nxt h }) i_8 { h_5 with prv := HN.prv h_4 }) i_18 { h_10 with nxt := HN.nxt h_9 }) i_20 { h_11 with par := none })[i_22]? fun (h_12 : HN) => Option.bind x.2.1 fun (i_23 : Nat) => Option.bind (some i_23) fun (i_24 : Nat) => Option.bind (List.set (List.set (List.set (List.set (List.set x.2.2 i { h_1 with fst := HN.nxt h }) i_8 { h_5 with prv := HN.prv h_4 }) i_18 { h_10 with nxt := HN.nxt h_9 }) i_20 { h_11 with par := none }) i_22 { h_12 with prv := none })[i_24]? fun (h_13 : HN) => some (List.set (List.set (List.set (List.set (List.set (List.set x.2.2 i { h_1 with fst := HN.nxt h }) i_8 { h_5 with prv := HN.prv h_4 }) i_18 { h_10 with nxt := HN.nxt h_9 }) i_20 { h_11 with par := none }) i_22 { h_12 with prv := none }) i_24 { h_13 with nxt := none }) else Option.bind x.2.1 fun (i_13 : Nat) => Option.bind (some i_13) fun (i_14 : Nat) => Option.bind (List.set (List.set x.2.2 i { h_1 with fst := HN.nxt h }) i_8 { h_5 with prv := HN.prv h_4 })[i_14]? fun (h_8 : HN) => Option.bind x.2.1 fun (i_15 : Nat) => Option.bind (some i_15) fun (i_16 : Nat) => Option.bind (List.set (List.set (List.set x.2.2 i { h_1 with fst := HN.nxt h }) i_8 { h_5 with prv := HN.prv h_4 }) i_14 { h_8 with par := none })[i_16]? fun (h_9 : HN) => Option.bind x.2.1 fun (i_17 : Nat) => Option.bind (some i_17) fun (i_18 : Nat) => Option.bind (List.set (List.set (List.set (List.set x.2.2 i { h_1 with fst := HN.nxt h }) i_8 { h_5 with prv := HN.prv h_4 }) i_14 { h_8 with par := none }) i_16 { h_9 with prv := none })[i_18]? fun (h_10 : HN) => some (List.set (List.set (List.set (List.set (List.set x.2.2 i { h_1 with fst := HN.nxt h }) i_8 { h_5 with prv := HN.prv h_4 }) i_14 { h_8 with par := none }) i_16 { h_9 with prv := none }) i_18 { h_10 with nxt := none }) else Option.bind x.1 fun (i_3 : Nat) => Option.bind (some i_3) fun (i_4 : Nat) => Option.bind (List.set x.2.2 i { h_1 with fst := HN.nxt h })[i_4]? fun (h_3 : HN) => bif decide (HN.lst h_3 = x.2.1) then Option.bind x.2.1 fun (i_5 : Nat) => Option.bind (some i_5) fun (i_6 : Nat) => Option.bind (List.set x.2.2 i { h_1 with fst := HN.nxt h })[i_6]? fun (h_4 : HN) => Option.bind x.1 fun (i_7 : Nat) => Option.bind (some i_7) fun (i_8 : Nat) => Option.bind (List.set x.2.2 i { h_1 with fst := HN.nxt h })[i_8]? fun (h_5 : HN) => Option.bind x.2.1 fun (i_9 : Nat) => Option.bind (some i_9) fun (i_10 : Nat) => Option.bind (List.set (List.set x.2.2 i { h_1 with fst := HN.nxt h }) i_8 { h_5 with lst := HN.prv h_4 })[i_10]? fun (h_6 : HN) => bif !Option.isNone (HN.prv h_6) then Option.bind x.2.1 fun (i_11 : Nat) => Option.bind (some i_11) fun (i_12 : Nat) => Option.bind (List.set (List.set x.2.2 i { h_1 with fst := HN.nxt h }) i_8 { h_5 with lst := HN.prv h_4 })[i_12]? fun (h_7 : HN) => Option.bind x.2.1 fun (i_13 : Nat) => Option.bind (some i_13) fun (i_14 : Nat) => Option.bind (List.set (List.set x.2.2 i { h_1 with fst := HN.nxt h }) i_8 { h_5 with lst := HN.prv h_4 })[i_14]? fun (h_8 : HN) => Option.bind (HN.prv h_7) fun (i_15 : Nat) => Option.bind (some i_15) fun (i_16 : Nat) => Option.bind (List.set (List.set x.2.2 i { h_1 with fst := HN.nxt h }) i_8 { h_5 with lst := HN.prv h_4 })[i_16]? fun (h_9 : HN) => Option.bind x.2.1 fun (i_17 : Nat) => Option.bind (some i_17) fun (i_18 : Nat) => Option.bind (List.set (List.set (List.set x.2.2 i { h_1 with fst := HN.nxt h }) i_8 { h_5 with lst := HN.prv h_4 }) i_16 { h_9 with nxt := HN.nxt h_8 })[i_18]? fun (h_10 : HN) => Option.bind x.2.1 fun (i_19 : Nat) => Option.bind (some i_19) fun (i_20 : Nat) => Option.bind (List.set (List.set (List.set (List.set x.2.2 i { h_1 with fst := HN.nxt h }) i_8 { h_5 with lst := HN.prv h_4 }) i_16 { h_9 with nxt := HN.nxt h_8 }) i_18 { h_10 with par := none })[i_20]? fun (h_11 : HN) => Option.bind x.2.1 fun (i_21 : Nat) => Option.bind (some i_21) fun (i_22 : Nat) => Option.bind (List.set (List.set (List.set (List.set (List.set x.2.2 i { h_1 with fst := HN.nxt h }) i_8 { h_5 with lst := HN.prv h_4 }) i_16 { h_9 with nxt := HN.nxt h_8 }) i_18 { h_10 with par := none }) i_20 { h_11 with prv := none })[i_22]? fun (h_12 : HN) => some (List.set (List.set (List.set (List.set (List.set (List.set x.2.2 i { h_1 with fst := HN.nxt h }) i_8 { h_5 with lst := HN.prv h_4 }) i_16 { h_9 with nxt := HN.nxt h_8 }) i_18 { h_10 with par := none }) i_20 { h_11 with prv := none }) i_22 { h_12 with nxt := none }) else Option.bind x.2.1 fun (i_11 : Nat) => Option.bind (some i_11) fun (i_12 : Nat) => Option.bind (List.set (List.set x.2.2 i { h_1 with fst := HN.nxt h }) i_8 { h_5 with lst := HN.prv h_4 })[i_12]? fun (h_7 : HN) => Option.bind x.2.1 fun (i_13 : Nat) => Option.bind (some i_13) fun (i_14 : Nat) => Option.bind (List.set (List.set (List.set x.2.2 i { h_1 with fst := HN.nxt h }) i_8 { h_5 with lst := HN.prv h_4 }) i_12 { h_7 with par := none })[i_14]? fun (h_8 : HN) => Option.bind x.2.1 fun (i_15 : Nat) => Option.bind (some i_15) fun (i_16 : Nat) => Option.bind (List.set (List.set (List.set (List.set x.2.2 i { h_1 with fst := HN.nxt h }) i_8 { h_5 with lst := HN.prv h_4 }) i_12 { h_7 with par := none }) i_14 { h_8 with prv := none })[i_16]? fun (h_9 : HN) => some (List.set (List.set (List.set (List.set (List.set x.2.2 i { h_1 with fst := HN.nxt h }) i_8 { h_5 with lst := HN.prv h_4 }) i_12 { h_7 with par := none }) i_14 { h_8 with prv := none }) i_16 { h_9 with nxt := none }) else Option.bind x.2.1 fun (i_5 : Nat) => Option.bind (some i_5) fun (i_6 : Nat) => Option.bind (List.set x.2.2 i { h_1 with fst := HN.nxt h })[i_6]? fun (h_4 : HN) => bif !Option.isNone (HN.prv h_4) then Option.bind x.2.1 fun (i_7 : Nat) => Option.bind (some i_7) fun (i_8 : Nat) => Option.bind (List.set x.2.2 i { h_1 with fst := HN.nxt h })[i_8]? fun (h_5 : HN) => Option.bind x.2.1 fun (i_9 : Nat) => Option.bind (some i_9) fun (i_10 : Nat) => Option.bind (List.set x.2.2 i { h_1 with fst := HN.nxt h })[i_10]? fun (h_6 : HN) => Option.bind (HN.prv h_5) fun (i_11 : Nat) => Option.bind (some i_11) fun (i_12 : Nat) => Option.bind (List.set x.2.2 i { h_1 with fst := HN.nxt h })[i_12]? fun (h_7 : HN) => Option.bind x.2.1 fun (i_13 : Nat) => Option.bind (some i_13) fun (i_14 : Nat) => Option.bind (List.set (List.set x.2.2 i { h_1 with fst := HN.nxt h }) i_12 { h_7 with nxt := HN.nxt h_6 })[i_14]? fun (h_8 : HN) => Option.bind x.2.1 fun (i_15 : Nat) => Option.bind (some i_15) fun (i_16 : Nat) => Option.bind (List.set (List.set (List.set x.2.2 i { h_1 with fst := HN.nxt h }) i_12 { h_7 with nxt := HN.nxt h_6 }) i_14 { h_8 with par := none })[i_16]? fun (h_9 : HN) => Option.bind x.2.1 fun (i_17 : Nat) => Option.bind (some i_17) fun (i_18 : Nat) => Option.bind (List.set (List.set (List.set (List.set x.2.2 i { h_1 with fst := HN.nxt h }) i_12 { h_7 with nxt := HN.nxt h_6 }) i_14 { h_8 with par := none }) i_16 { h_9 with prv := none })[i_18]? fun (h_10 : HN) => some (List.set (List.set (List.set (List.set (List.set x.2.2 i { h_1 with fst := HN.nxt h }) i_12 { h_7 with nxt := HN.nxt h_6 }) i_14 { h_8 with par := none }) i_16 { h_9 with prv := none }) i_18 { h_10 with nxt := none }) else Option.bind x.2.1 fun (i_7 : Nat) => Option.bind (some i_7) fun (i_8 : Nat) => Option.bind (List.set x.2.2 i { h_1 with fst := HN.nxt h })[i_8]? fun (h_5 : HN) => Option.bind x.2.1 fun (i_9 : Nat) => Option.bind (some i_9) fun (i_10 : Nat) => Option.bind (List.set (List.set x.2.2 i { h_1 with fst := HN.nxt h }) i_8 { h_5 with par := none })[i_10]? fun (h_6 : HN) => Option.bind x.2.1 fun (i_11 : Nat) => Option.bind (some i_11) fun (i_12 : Nat) => Option.bind (List.set (List.set (List.set x.2.2 i { h_1 with fst := HN.nxt h }) i_8 { h_5 with par := none }) i_10 { h_6 with prv := none })[i_12]? fun (h_7 : HN) => some (List.set (List.set (List.set (List.set x.2.2 i { h_1 with fst := HN.nxt h }) i_8 { h_5 with par := none }) i_10 { h_6 with prv := none }) i_12 { h_7 with nxt := none }) else Option.bind x.2.1 fun (i : Nat) => Option.bind (some i) fun (i : Nat) => Option.bind x.2.2[i]? fun (h : HN) => bif !Option.isNone (HN.nxt h) then Option.bind x.2.1 fun (i : Nat) => Option.bind (some i) fun (i : Nat) => Option.bind x.2.2[i]? fun (h : HN) => Option.bind x.2.1 fun (i : Nat) => Option.bind (some i) fun (i : Nat) => Option.bind x.2.2[i]? fun (h_1 : HN) => Option.bind (HN.nxt h) fun (i : Nat) => Option.bind (some i) fun (i : Nat) => Option.bind x.2.2[i]? fun (h : HN) => Option.bind x.1 fun (i_1 : Nat) => Option.bind (some i_1) fun (i_2 : Nat) => Option.bind (List.set x.2.2 i { h with prv := HN.prv h_1 })[i_2]? fun (h_2 : HN) => bif decide (HN.lst h_2 = x.2.1) then Option.bind x.2.1 fun (i_3 : Nat) => Option.bind (some i_3) fun (i_4 : Nat) => Option.bind (List.set x.2.2 i { h with prv := HN.prv h_1 })[i_4]? fun (h_3 : HN) => Option.bind x.1 fun (i_5 : Nat) => Option.bind (some i_5) fun (i_6 : Nat) => Option.bind (List.set x.2.2 i { h with prv := HN.prv h_1 })[i_6]? fun (h_4 : HN) => Option.bind x.2.1 fun (i_7 : Nat) => Option.bind (some i_7) fun (i_8 : Nat) => Option.bind (List.set (List.set x.2.2 i { h with prv := HN.prv h_1 }) i_6 { h_4 with lst := HN.prv h_3 })[i_8]? fun (h_5 : HN) => bif !Option.isNone (HN.prv h_5) then Option.bind x.2.1 fun (i_9 : Nat) => Option.bind (some i_9) fun (i_10 : Nat) => Option.bind (List.set (List.set x.2.2 i { h with prv := HN.prv h_1 }) i_6 { h_4 with lst := HN.prv h_3 })[i_10]? fun (h_6 : HN) => Option.bind x.2.1 fun (i_11 : Nat) => Option.bind (some i_11) fun (i_12 : Nat) => Option.bind (List.set (List.set x.2.2 i { h with prv := HN.prv h_1 }) i_6 { h_4 with lst := HN.prv h_3 })[i_12]? fun (h_7 : HN) => Option.bind (HN.prv h_6) fun (i_13 : Nat) => Option.bind (some i_13) fun (i_14 : Nat) => Option.bind (List.set (List.set x.2.2 i { h with prv := HN.prv h_1 }) i_6 { h_4 with lst := HN.prv h_3 })[i_14]? fun (h_8 : HN) => Option.bind x.2.1 fun (i_15 : Nat) => Option.bind (some i_15) fun (i_16 : Nat) => Option.bind (List.set (List.set (List.set x.2.2 i { h with prv := HN.prv h_1 }) i_6 { h_4 with lst := HN.prv h_3 }) i_14 { h_8 with nxt := HN.nxt h_7 })[i_16]? fun (h_9 : HN) => Option.bind x.2.1 fun (i_17 : Nat) => Option.bind (some i_17) fun (i_18 : Nat) => Option.bind (List.set (List.set (List.set (List.set x.2.2 i { h with prv := HN.prv h_1 }) i_6 { h_4 with lst := HN.prv h_3 }) i_14 { h_8 with nxt := HN.nxt h_7 }) i_16 { h_9 with par := none })[i_18]? fun (h_10 : HN) => Option.bind x.2.1 fun (i_19 : Nat) => Option.bind (some i_19) fun (i_20 : Nat) => Option.bind (List.set (List.set (List.set (List.set (List.set x.2.2 i { h with prv := HN.prv h_1 }) i_6 { h_4 with lst := HN.prv h_3 }) i_14 { h_8 with nxt := HN.nxt h_7 }) i_16 { h_9 with par := none }) i_18 { h_10 with prv := none })[i_20]? fun (h_11 : HN) => some (List.set (List.set (List.set (List.set (List.set (List.set x.2.2 i { h with prv := HN.prv h_1 }) i_6 { h_4 with lst := HN.prv h_3 }) i_14 { h_8 with nxt := HN.nxt h_7 }) i_16 { h_9 with par := none }) i_18 { h_10 with prv := none }) i_20 { h_11 with nxt := none }) else Option.bind x.2.1 fun (i_9 : Nat) => Option.bind (some i_9) fun (i_10 : Nat) => Option.bind (List.set (List.set x.2.2 i { h with prv := HN.prv h_1 }) i_6 { h_4 with lst := HN.prv h_3 })[i_10]? fun (h_6 : HN) => Option.bind x.2.1 fun (i_11 : Nat) => Option.bind (some i_11) fun (i_12 : Nat) => Option.bind (List.set (List.set (List.set x.2.2 i { h with prv := HN.prv h_1 }) i_6 { h_4 with lst := HN.prv h_3 }) i_10 { h_6 with par := none })[i_12]? fun (h_7 : HN) => Option.bind x.2.1 fun (i_13 : Nat) => Option.bind (some i_13) fun (i_14 : Nat) => Option.bind (List.set (List.set (List.set (List.set x.2.2 i { h with prv := HN.prv h_1 }) i_6 { h_4 with lst := HN.prv h_3 }) i_10 { h_6 with par := none }) i_12 { h_7 with prv := none })[i_14]? fun (h_8 : HN) => some (List.set (List.set (List.set (List.set (List.set x.2.2 i { h with prv := HN.prv h_1 }) i_6 { h_4 with lst := HN.prv h_3 }) i_10 { h_6 with par := none }) i_12 { h_7 with prv := none }) i_14 { h_8 with nxt := none }) else Option.bind x.2.1 fun (i_3 : Nat) => Option.bind (some i_3) fun (i_4 : Nat) => Option.bind (List.set x.2.2 i { h with prv := HN.prv h_1 })[i_4]? fun (h_3 : HN) => bif !Option.isNone (HN.prv h_3) then Option.bind x.2.1 fun (i_5 : Nat) => Option.bind (some i_5) fun (i_6 : Nat) => Option.bind (List.set x.2.2 i { h with prv := HN.prv h_1 })[i_6]? fun (h_4 : HN) => Option.bind x.2.1 fun (i_7 : Nat) => Option.bind (some i_7) fun (i_8 : Nat) => Option.bind (List.set x.2.2 i { h with prv := HN.prv h_1 })[i_8]? fun (h_5 : HN) => Option.bind (HN.prv h_4) fun (i_9 : Nat) => Option.bind (some i_9) fun (i_10 : Nat) => Option.bind (List.set x.2.2 i { h with prv := HN.prv h_1 })[i_10]? fun (h_6 : HN) => Option.bind x.2.1 fun (i_11 : Nat) => Option.bind (some i_11) fun (i_12 : Nat) => Option.bind (List.set (List.set x.2.2 i { h with prv := HN.prv h_1 }) i_10 { h_6 with nxt := HN.nxt h_5 })[i_12]? fun (h_7 : HN) => Option.bind x.2.1 fun (i_13 : Nat) => Option.bind (some i_13) fun (i_14 : Nat) => Option.bind (List.set (List.set (List.set x.2.2 i { h with prv := HN.prv h_1 }) i_10 { h_6 with nxt := HN.nxt h_5 }) i_12 { h_7 with par := none })[i_14]? fun (h_8 : HN) => Option.bind x.2.1 fun (i_15 : Nat) => Option.bind (some i_15) fun (i_16 : Nat) => Option.bind (List.set (List.set (List.set (List.set x.2.2 i { h with prv := HN.prv h_1 }) i_10 { h_6 with nxt := HN.nxt h_5 }) i_12 { h_7 with par := none }) i_14 { h_8 with prv := none })[i_16]? fun (h_9 : HN) => some (List.set (List.set (List.set (List.set (List.set x.2.2 i { h with prv := HN.prv h_1 }) i_10 { h_6 with nxt := HN.nxt h_5 }) i_12 { h_7 with par := none }) i_14 { h_8 with prv := none }) i_16 { h_9 with nxt := none }) else Option.bind x.2.1 fun (i_5 : Nat) => Option.bind (some i_5) fun (i_6 : Nat) => Option.bind (List.set x.2.2 i { h with prv := HN.prv h_1 })[i_6]? fun (h_4 : HN) => Option.bind x.2.1 fun (i_7 : Nat) => Option.bind (some i_7) fun (i_8 : Nat) => Option.bind (List.set (List.set x.2.2 i { h with prv := HN.prv h_1 }) i_6 { h_4 with par := none })[i_8]? fun (h_5 : HN) => Option.bind x.2.1 fun (i_9 : Nat) => Option.bind (some i_9) fun (i_10 : Nat) => Option.bind (List.set (List.set (List.set x.2.2 i { h with prv := HN.prv h_1 }) i_6 { h_4 with par := none }) i_8 { h_5 with prv := none })[i_10]? fun (h_6 : HN) => some (List.set (List.set (List.set (List.set x.2.2 i { h with prv := HN.prv h_1 }) i_6 { h_4 with par := none }) i_8 { h_5 with prv := none }) i_10 { h_6 with nxt := none }) else Option.bind x.1 fun (i : Nat) => Option.bind (some i) fun (i : Nat) => Option.bind x.2.2[i]? fun (h : HN) => bif decide (HN.lst h = x.2.1) then Option.bind x.2.1 fun (i : Nat) => Option.bind (some i) fun (i : Nat) => Option.bind x.2.2[i]? fun (h : HN) => Option.bind x.1 fun (i : Nat) => Option.bind (some i) fun (i : Nat) => Option.bind x.2.2[i]? fun (h_1 : HN) => Option.bind x.2.1 fun (i_1 : Nat) => Option.bind (some i_1) fun (i_2 : Nat) => Option.bind (List.set x.2.2 i { h_1 with lst := HN.prv h })[i_2]? fun (h_2 : HN) => bif !Option.isNone (HN.prv h_2) then Option.bind x.2.1 fun (i_3 : Nat) => Option.bind (some i_3) fun (i_4 : Nat) => Option.bind (List.set x.2.2 i { h_1 with lst := HN.prv h })[i_4]? fun (h_3 : HN) => Option.bind x.2.1 fun (i_5 : Nat) => Option.bind (some i_5) fun (i_6 : Nat) => Option.bind (List.set x.2.2 i { h_1 with lst := HN.prv h })[i_6]? fun (h_4 : HN) => Option.bind (HN.prv h_3) fun (i_7 : Nat) => Option.bind (some i_7) fun (i_8 : Nat) => Option.bind (List.set x.2.2 i { h_1 with lst := HN.prv h })[i_8]? fun (h_5 : HN) => Option.bind x.2.1 fun (i_9 : Nat) => Option.bind (some i_9) fun (i_10 : Nat) => Option.bind (List.set (List.set x.2.2 i { h_1 with lst := HN.prv h }) i_8 { h_5 with nxt := HN.nxt h_4 })[i_10]? fun (h_6 : HN) => Option.bind x.2.1 fun (i_11 : Nat) => Option.bind (some i_11) fun (i_12 : Nat) => Option.bind (List.set (List.set (List.set x.2.2 i { h_1 with lst := HN.prv h }) i_8 { h_5 with nxt := HN.nxt h_4 }) i_10 { h_6 with par := none })[i_12]? fun (h_7 : HN) => Option.bind x.2.1 fun (i_13 : Nat) => Option.bind (some i_13) fun (i_14 : Nat) => Option.bind (List.set (List.set (List.set (List.set x.2.2 i { h_1 with lst := HN.prv h }) i_8 { h_5 with nxt := HN.nxt h_4 }) i_10 { h_6 with par := none }) i_12 { h_7 with prv := none })[i_14]? fun (h_8 : HN) => some (List.set (List.set (List.set (List.set (List.set x.2.2 i { h_1 with lst := HN.prv h }) i_8 { h_5 with nxt := HN.nxt h_4 }) i_10 { h_6 with par := none }) i_12 { h_7 with prv := none }) i_14 { h_8 with nxt := none }) else Option.bind x.2.1 fun (i_3 : Nat) => Option.bind (some i_3) fun (i_4 : Nat) => Option.bind (List.set x.2.2 i { h_1 with lst := HN.prv h })[i_4]? fun (h_3 : HN) => Option.bind x.2.1 fun (i_5 : Nat) => Option.bind (some i_5) fun (i_6 : Nat) => Option.bind (List.set (List.set x.2.2 i { h_1 with lst := HN.prv h }) i_4 { h_3 with par := none })[i_6]? fun (h_4 : HN) => Option.bind x.2.1 fun (i_7 : Nat) => Option.bind (some i_7) fun (i_8 : Nat) => Option.bind (List.set (List.set (List.set x.2.2 i { h_1 with lst := HN.prv h }) i_4 { h_3 with par := none }) i_6 { h_4 with prv := none })[i_8]? fun (h_5 : HN) => some (List.set (List.set (List.set (List.set x.2.2 i { h_1 with lst := HN.prv h }) i_4 { h_3 with par := none }) i_6 { h_4 with prv := none }) i_8 { h_5 with nxt := none }) else Option.bind x.2.1 fun (i : Nat) => Option.bind (some i) fun (i : Nat) => Option.bind x.2.2[i]? fun (h : HN) => bif !Option.isNone (HN.prv h) then Option.bind x.2.1 fun (i : Nat) => Option.bind (some i) fun (i : Nat) => Option.bind x.2.2[i]? fun (h : HN) => Option.bind x.2.1 fun (i : Nat) => Option.bind (some i) fun (i : Nat) => Option.bind x.2.2[i]? fun (h_1 : HN) => Option.bind (HN.prv h) fun (i : Nat) => Option.bind (some i) fun (i : Nat) => Option.bind x.2.2[i]? fun (h : HN) => Option.bind x.2.1 fun (i_1 : Nat) => Option.bind (some i_1) fun (i_2 : Nat) => Option.bind (List.set x.2.2 i { h with nxt := HN.nxt h_1 })[i_2]? fun (h_2 : HN) => Option.bind x.2.1 fun (i_3 : Nat) => Option.bind (some i_3) fun (i_4 : Nat) => Option.bind (List.set (List.set x.2.2 i { h with nxt := HN.nxt h_1 }) i_2 { h_2 with par := none })[i_4]? fun (h_3 : HN) => Option.bind x.2.1 fun (i_5 : Nat) => Option.bind (some i_5) fun (i_6 : Nat) => Option.bind (List.set (List.set (List.set x.2.2 i { h with nxt := HN.nxt h_1 }) i_2 { h_2 with par := none }) i_4 { h_3 with prv := none })[i_6]? fun (h_4 : HN) => some (List.set (List.set (List.set (List.set x.2.2 i { h with nxt := HN.nxt h_1 }) i_2 { h_2 with par := none }) i_4 { h_3 with prv := none }) i_6 { h_4 with nxt := none }) else Option.bind x.2.1 fun (i : Nat) => Option.bind (some i) fun (i : Nat) => Option.bind x.2.2[i]? fun (h : HN) => Option.bind x.2.1 fun (i_1 : Nat) => Option.bind (some i_1) fun (i_2 : Nat) => Option.bind (List.set x.2.2 i { h with par := none })[i_2]? fun (h_1 : HN) => Option.bind x.2.1 fun (i_3 : Nat) => Option.bind (some i_3) fun (i_4 : Nat) => Option.bind (List.set (List.set x.2.2 i { h with par := none }) i_2 { h_1 with prv := none })[i_4]? fun (h_2 : HN) => some (List.set (List.set (List.set x.2.2 i { h with par := none }) i_2 { h_1 with prv := none }) i_4 { h_2 with nxt := none })
noncomputable def cx_html_Node_RemoveChild : Cx := ⟨tb, lookE [], lookS [(5, [(true, 0), (true, 1), (true, 2), (true, 3), (true, 4), (true, 5), (true, 6), (true, 7), (true, 8), (true, 9), (false, 10)]), (9, [(true, 0), (true, 1), (true, 2), (true, 3), (true, 4), (true, 5), (true, 6), (true, 7), (true, 8), (true, 9), (false, 10)])]⟩
theorem ck_html_Node_RemoveChild : CxOK Try.prog (cx_html_Node_RemoveChild) := cx_ok tb_ok .nil
noncomputable def e_html_Node_RemoveChild : Ent := ⟨0, p_html_Node_RemoveChild, q_html_Node_RemoveChild, m_html_Node_RemoveChild⟩
theorem ok_html_Node_RemoveChild : FnOK Try.prog 91 e_html_Node_RemoveChild := fn_ok (L := lookL []) ck_html_Node_RemoveChild mixed Try.func91 rfl (by kernel_rfl) (by kernel_rfl) (ls_ok (l := []) (by kernel_rfl) .nil) (by intro x; kernel_rfl)
abbrev p_goquery_cloneNode : Pt := [(0, .np), (NT, .ns .h 126 168)]
abbrev q_goquery_cloneNode : Pt := [(0, .np), (NT, .ns .h 126 168)]
abbrev p_goquery_cloneNode_0 : Pt := [(3, .np), (4, .np), (NT, .ns .h 126 168)]
abbrev x_goquery_cloneNode_0 : List (Xt × Pt) := [(.ex 0, [(3, .np), (NT, .ns .h 126 168)])]
noncomputable def m_goquery_cloneNode_0 (m_goquery_cloneNode : Tup p_goquery_cloneNode → Option (Tup q_goquery_cloneNode)) : Tup p_goquery_cloneNode_0 → Option (Stp (Tup p_goquery_cloneNode_0) (SumT (x_goquery_cloneNode_0.map (·.2)))) := fun (x : Option Nat × Option Nat × List HN) => bif !Option.isNone x.2.1 then Option.bind (m_goquery_cloneNode (x.2.1, x.2.2)) fun (r : Option Nat × List HN) => Option.bind (m_html_Node_AppendChild (x.1, r.1, r.2)) fun (r : List HN) => Option.bind x.2.1 fun (i : Nat) => Option.bind (some i) fun (i : Nat) => Option.bind r[i]? fun (h : HN) => some (Stp.nx (x.1, HN.nxt h, r)) else some (Stp.out (x.1, x.2.2))
noncomputable def b_goquery_cloneNode (m_goquery_cloneNode : Tup p_goquery_cloneNode → Option (Tup q_goquery_cloneNode)) : Tup p_goquery_cloneNode → Option (Tup q_goquery_cloneNode) := fun (x : Option Nat × List HN) => Option.bind x.1 fun (i : Nat) => Option.bind (some i) fun (i : Nat) => Option.bind x.2[i]? fun (h : HN) => Option.bind x.1 fun (i : Nat) => Option.bind (some i) fun (i : Nat) => Option.bind x.2[i]? fun (h_1 : HN) => Option.bind x.1 fun (i : Nat) => Option.bind (some i) fun (i : Nat) => Option.bind x.2[i]? fun (h_2 : HN) => Option.bind x.1 fun (i : Nat) => Option.bind (some i) fun (i : Nat) => Option.bind x.2[i]? fun (h_3 : HN) => Option.bind x.2[i]? fun (h_4 : HN) => bif decide ((↑(List.length (HN.attrs h_4)) : Int) ≤ (↑(List.length (HN.attrs h_4)) : Int) ∧ (0 : Int) ≤ (↑(List.length (HN.attrs h_4)) : Int) ∧ (↑(List.length (HN.attrs h_4)) : Int) ≤ (1048576 : Int)) then Option.bind (some (List.length x.2)) fun (i : Nat) => Option.bind (some i) fun (i : Nat) => Option.bind (x.2 ++ [{ par := none, fst := none, lst := none, prv := none, nxt := none, ty := HN.ty h, atom := HN.atom h_1, data := HN.data h_2, ns := [], attrs := List.replicate (Int.toNat (↑(List.length (HN.attrs h_4)) : Int)) { ns := [], key := [], val := [] } }])[i]? fun (h_5 : HN) => Option.bind x.1 fun (i_1 : Nat) => Option.bind (some i_1) fun (i_2 : Nat) => Option.bind (x.2 ++ [{ par := none, fst := none, lst := none, prv := none, nxt := none, ty := HN.ty h, atom := HN.atom h_1, data := HN.data h_2, ns := [], attrs := List.replicate (Int.toNat (↑(List.length (HN.attrs h_4)) : Int)) { ns := [], key := [], val := [] } }])[i_2]? fun (h_6 : HN) => Option.bind (x.2 ++ [{ par := none, fst := none, lst := none, prv := none, nxt := none, ty := HN.ty h, atom := HN.atom h_1, data := HN.data h_2, ns := [], attrs := List.replicate (Int.toNat (↑(List.length (HN.attrs h_4)) : Int)) { ns := [], key := [], val := [] } }])[i]? fun (h_7 : HN) => Option.bind (x.2 ++ [{ par := none, fst := none, lst := none, prv := none, nxt := none, ty := HN.ty h, atom := HN.atom h_1, data := HN.data h_2, ns := [], attrs := List.replicate (Int.toNat (↑(List.length (HN.attrs h_4)) : Int)) { ns := [], key := [], val := [] } }])[i_2]? fun (h_8 : HN) => Option.bind x.1 fun (i_3 : Nat) => Option.bind (some i_3) fun (i_4 : Nat) => Option.bind (List.set (x.2 ++ [{ par := none, fst := none, lst := none, prv := none, nxt := none, ty := HN.ty h, atom := HN.atom h_1, data := HN.data h_2, ns := [], attrs := List.replicate (Int.toNat (↑(List.length (HN.attrs h_4)) : Int)) { ns := [], key := [], val := [] } }]) i (HN.wa h_7 (List.take (Min.min (List.length (HN.attrs h_8)) (List.length (HN.attrs h_7))) (HN.attrs h_8) ++ List.drop (Min.min (List.length (HN.attrs h_8)) (List.length (HN.attrs h_7))) (HN.attrs h_7))))[i_4]? fun (h_9 : HN) => Option.bind (loopO (m_goquery_cloneNode_0 m_goquery_cloneNode) (some (List.length x.2), HN.fst h_9, List.set (x.2 ++ [{ par := none, fst := none, lst := none, prv := none, nxt := none, ty := HN.ty h, atom := HN.atom h_1, data := HN.data h_2, ns := [], attrs := List.replicate (Int.toNat (↑(List.length (HN.attrs h_4)) : Int)) { ns := [], key := [], val := [] } }]) i (HN.wa h_7 (List.take (Min.min (List.length (HN.attrs h_8)) (List.length (HN.attrs h_7))) (HN.attrs h_8) ++ List.drop (Min.min (List.length (HN.attrs h_8)) (List.length (HN.attrs h_7))) (HN.attrs h_7))))) fun (y : Option Nat × List HN) => some (y.1, y.2) else none
noncomputable def m_goquery_cloneNode : Nat → Tup p_goquery_cloneNode → Option (Tup q_goquery_cloneNode)
  | 0 => fun _ => none
  | n + 1 => b_goquery_cloneNode (m_goquery_cloneNode n)
noncomputable def cx_goquery_cloneNode (n : Nat) : Cx := ⟨tb, lookE [(105, ⟨0, p_goquery_cloneNode, q_goquery_cloneNode, m_goquery_cloneNode n⟩), (85, e_html_Node_AppendChild)], lookS [(1, [(true, 0), (true, 1), (true, 2), (true, 3), (true, 4), (true, 5), (true, 6), (true, 7), (true, 8), (true, 9), (true, 10), (true, 11), (true, 12), (true, 13), (true, 14), (true, 15), (true, 16), (false, 17), (true, 18), (false, 19), (true, 20)]), (2, [(true, 0), (true, 1), (true, 2), (true, 3), (true, 4), (true, 5), (true, 6), (true, 7), (false, 8)])]⟩
theorem ck_goquery_cloneNode (n : Nat) (ih0 : FnOK Try.prog 105 ⟨0, p_goquery_cloneNode, q_goquery_cloneNode, m_goquery_cloneNode n⟩) : CxOK Try.prog (cx_goquery_cloneNode n) := cx_ok tb_ok (.cons ih0 Try.call105 (.cons ok_html_Node_AppendChild Try.call85 .nil))
noncomputable def c_goquery_cloneNode_0 : Code := loopAt (Go.Proofs.Try.f105.body.getD .skip) 0
noncomputable def l_goquery_cloneNode_0 (n : Nat) : LEnt := ⟨p_goquery_cloneNode_0, x_goquery_cloneNode_0, loopO (m_goquery_cloneNode_0 (m_goquery_cloneNode n))⟩
theorem lo_goquery_cloneNode_0 (n : Nat) (ih0 : FnOK Try.prog 105 ⟨0, p_goquery_cloneNode, q_goquery_cloneNode, m_goquery_cloneNode n⟩) : LOK Try.prog 49 0 true (l_goquery_cloneNode_0 n) c_goquery_cloneNode_0 := loop_ok (body := m_goquery_cloneNode_0 (m_goquery_cloneNode n)) (L := lookL []) (ck_goquery_cloneNode n ih0) mixed (ls_ok (l := []) (by kernel_rfl) .nil) (by intro x; kernel_rfl) (fun x y h => loopO_iff.1 h)
theorem st_goquery_cloneNode (n : Nat) (ih0 : FnOK Try.prog 105 ⟨0, p_goquery_cloneNode, q_goquery_cloneNode, m_goquery_cloneNode n⟩) : FnOK Try.prog 105 ⟨0, p_goquery_cloneNode, q_goquery_cloneNode, m_goquery_cloneNode (n + 1)⟩ := fn_ok (ent := ⟨0, p_goquery_cloneNode, q_goquery_cloneNode, m_goquery_cloneNode (n + 1)⟩) (L := lookL [(0, l_goquery_cloneNode_0 n)]) (ck_goquery_cloneNode n ih0) mixed Try.func105 rfl (by kernel_rfl) (by kernel_rfl) (ls_ok (l := [(0, c_goquery_cloneNode_0)]) (by kernel_rfl) (.cons rfl (lo_goquery_cloneNode_0 n ih0) .nil)) (by intro x; kernel_rfl)
theorem ok0_goquery_cloneNode : ∀ n, FnOK Try.prog 105 ⟨0, p_goquery_cloneNode, q_goquery_cloneNode, m_goquery_cloneNode n⟩
  | 0 => fun x r h => by cases h
  | n + 1 => (fun ih => st_goquery_cloneNode n ih) (ok0_goquery_cloneNode n)
noncomputable def e_goquery_cloneNode : Ent := ⟨0, p_goquery_cloneNode, q_goquery_cloneNode, m_goquery_cloneNode big⟩
theorem ok_goquery_cloneNode : FnOK Try.prog 105 e_goquery_cloneNode := (ok0_goquery_cloneNode big)
abbrev p_impl_kindOf : Pt := [(0, .np), (NT, .ns .h 126 168)]
abbrev q_impl_kindOf : Pt := [(0, .el .node), (NT, .ns .h 126 168)]
abbrev p_impl_kindOf_0 : Pt := [(2, .blk .node 44), (3, .blkx 44 [.fl (.int .i64), .fl .str, .fl .str, .own, .fl (.int .i64)]), (44, .nal), (45, .int .i64), (46, .int .i64), (NT, .ns .h 126 168), (2000000195, .hown 3 3 .attr 61)]
abbrev x_impl_kindOf_0 : List (Xt × Pt) := [(.ex 1, [(2, .blk .node 44), (3, .blkx 44 [.fl (.int .i64), .fl .str, .fl .str, .own, .fl (.int .i64)]), (NT, .ns .h 126 168), (2000000195, .hown 3 3 .attr 61)])]
noncomputable def m_impl_kindOf_0 : Tup p_impl_kindOf_0 → Option (Stp (Tup p_impl_kindOf_0) (SumT (x_impl_kindOf_0.map (·.2)))) := fun (x : Node × (Int × List UInt8 × List UInt8 × PUnit × Int) × Nat × Int × Int × List HN × List Attr) => bif decide (x.2.2.2.2.1 < x.2.2.2.1) then Option.bind x.2.2.2.2.2.1[x.2.2.1]? fun (h : HN) => Option.bind (atI (HN.attrs h) x.2.2.2.2.1) fun (x_1 : HAttr) => Option.bind x.2.2.2.2.2.1[x.2.2.1]? fun (h : HN) => Option.bind (HN.attrs h)[Int.toNat x.2.2.2.2.1]? fun (a : HAttr) => Option.bind (appL x.2.2.2.2.2.2 [{ key := HAttr.key a, val := HAttr.val a }]) fun (r : List Attr) => some (Stp.nx ({ kind := Node.kind x.1, tag := Node.tag x.1, text := Node.text x.1, attrs := Node.attrs x.1, size := Node.size x.1 }, (x.2.1.1, x.2.1.2.1, x.2.1.2.2.1, (), x.2.1.2.2.2.2), x.2.2.1, x.2.2.2.1, IntKind.wrap .i64 (x.2.2.2.2.1 + (1 : Int)), x.2.2.2.2.2.1, r)) else some (Stp.out ({ kind := Node.kind x.1, tag := Node.tag x.1, text := Node.text x.1, attrs := Node.attrs x.1, size := Node.size x.1 }, (x.2.1.1, x.2.1.2.1, x.2.1.2.2.1, (), x.2.1.2.2.2.2), x.2.2.2.2.2.1, x.2.2.2.2.2.2))
noncomputable def m_impl_kindOf : Tup p_impl_kindOf → Option (Tup q_impl_kindOf) := fun (x : Option Nat × List HN) => Option.bind x.1 fun (i : Nat) => Option.bind (some i) fun (i : Nat) => Option.bind x.2[i]? fun (h : HN) => bif decide (HN.ty h = (2 : Int)) then some ({ kind := (1 : Int), tag := [], text := [], attrs := [], size := (0 : Int) }, x.2) else bif decide (HN.ty h = (5 : Int)) then Option.bind x.1 fun (i : Nat) => Option.bind (some i) fun (i : Nat) => Option.bind x.2[i]? fun (h : HN) => some ({ kind := (2 : Int), tag := [], text := HN.data h, attrs := [], size := (0 : Int) }, x.2) else bif decide (HN.ty h = (1 : Int)) then Option.bind x.1 fun (i : Nat) => Option.bind (some i) fun (i : Nat) => Option.bind x.2[i]? fun (h : HN) => some ({ kind := (4 : Int), tag := [], text := HN.data h, attrs := [], size := (0 : Int) }, x.2) else bif decide (HN.ty h = (4 : Int)) then Option.bind x.1 fun (i : Nat) => Option.bind (some i) fun (i : Nat) => Option.bind x.2[i]? fun (h : HN) => some ({ kind := (5 : Int), tag := [], text := HN.data h, attrs := [], size := (0 : Int) }, x.2) else bif decide (HN.ty h = (3 : Int)) then Option.bind x.1 fun (i : Nat) => Option.bind (some i) fun (i : Nat) => Option.bind x.2[i]? fun (h : HN) => Option.bind x.1 fun (i : Nat) => Option.bind (some i) fun (i : Nat) => Option.bind x.2[i]? fun (h_1 : HN) => Option.bind x.2[i]? fun (h_2 : HN) => Option.bind (loopO m_impl_kindOf_0 ({ kind := (0 : Int), tag := [], text := [], attrs := [], size := (0 : Int) }, ((3 : Int), HN.data h, [], (), (0 : Int)), i, (↑(List.length (HN.attrs h_2)) : Int), (0 : Int), x.2, [])) fun (y : Node × (Int × List UInt8 × List UInt8 × PUnit × Int) × List HN × List Attr) => some ({ kind := y.2.1.1, tag := y.2.1.2.1, text := y.2.1.2.2.1, attrs := y.2.2.2, size := y.2.1.2.2.2.2 }, y.2.2.1) else some ({ kind := (0 : Int), tag := [], text := [], attrs := [], size := (0 : Int) }, x.2)
noncomputable def cx_impl_kindOf : Cx := ⟨tb, lookE [], lookS []⟩
theorem ck_impl_kindOf : CxOK Try.prog (cx_impl_kindOf) := cx_ok tb_ok .nil
noncomputable def c_impl_kindOf_0 : Code := loopAt (Go.Proofs.Try.f106.body.getD .skip) 0
noncomputable def l_impl_kindOf_0 : LEnt := ⟨p_impl_kindOf_0, x_impl_kindOf_0, loopO (m_impl_kindOf_0)⟩
theorem lo_impl_kindOf_0 : LOK Try.prog 63 0 true (l_impl_kindOf_0) c_impl_kindOf_0 := loop_ok (body := m_impl_kindOf_0) (L := lookL []) (ck_impl_kindOf) mixed (ls_ok (l := []) (by kernel_rfl) .nil) (by intro x; kernel_rfl) (fun x y h => loopO_iff.1 h)
noncomputable def e_impl_kindOf : Ent := ⟨0, p_impl_kindOf, q_impl_kindOf, m_impl_kindOf⟩
theorem ok_impl_kindOf : FnOK Try.prog 106 e_impl_kindOf := fn_ok (L := lookL [(1, l_impl_kindOf_0)]) ck_impl_kindOf mixed Try.func106 rfl (by kernel_rfl) (by kernel_rfl) (ls_ok (l := [(1, c_impl_kindOf_0)]) (by kernel_rfl) (.cons rfl (lo_impl_kindOf_0) .nil)) (by intro x; kernel_rfl)
abbrev p_impl_taken : Pt := [(0, .np), (1, .own .node 44), (2, .own .np 76), (NT, .ns .h 126 168)]
abbrev q_impl_taken : Pt := [(0, .own .node 44), (1, .own .np 76), (NT, .ns .h 126 168)]
abbrev p_impl_taken_0 : Pt := [(1, .own .node 44), (2, .own .np 76), (8, .int .i64), (9, .np), (NT, .ns .h 126 168)]
abbrev x_impl_taken_0 : List (Xt × Pt) := [(.ex 0, [(1, .own .node 44), (2, .own .np 76), (8, .int .i64), (NT, .ns .h 126 168)])]
noncomputable def m_impl_taken_0 (m_impl_taken : Tup p_impl_taken → Option (Tup q_impl_taken)) : Tup p_impl_taken_0 → Option (Stp (Tup p_impl_taken_0) (SumT (x_impl_taken_0.map (·.2)))) := fun (x : List Node × List (Option Nat) × Int × Option Nat × List HN) => bif !Option.isNone x.2.2.2.1 then Option.bind (m_impl_taken (x.2.2.2.1, x.1, x.2.1, x.2.2.2.2)) fun (r : List Node × List (Option Nat) × List HN) => Option.bind x.2.2.2.1 fun (i : Nat) => Option.bind (some i) fun (i : Nat) => Option.bind r.2.2[i]? fun (h : HN) => some (Stp.nx (r.1, r.2.1, x.2.2.1, HN.nxt h, r.2.2)) else some (Stp.out (x.1, x.2.1, x.2.2.1, x.2.2.2.2))
noncomputable def b_impl_taken (m_impl_taken : Tup p_impl_taken → Option (Tup q_impl_taken)) : Tup p_impl_taken → Option (Tup q_impl_taken) := fun (x : Option Nat × List Node × List (Option Nat) × List HN) => Option.bind (m_impl_kindOf (x.1, x.2.2.2)) fun (r : Node × List HN) => Option.bind (appL x.2.1 [{ kind := Node.kind r.1, tag := Node.tag r.1, text := Node.text r.1, attrs := Node.attrs r.1, size := Node.size r.1 }]) fun (r_1 : List Node) => Option.bind (appL x.2.2.1 [x.1]) fun (r_2 : List (Option Nat)) => Option.bind x.1 fun (i : Nat) => Option.bind (some i) fun (i : Nat) => Option.bind r.2[i]? fun (h : HN) => Option.bind (loopO (m_impl_taken_0 m_impl_taken) (r_1, r_2, (↑(List.length x.2.1) : Int), HN.fst h, r.2)) fun (y : List Node × List (Option Nat) × Int × List HN) => Option.bind (atI y.1 y.2.2.1) fun (x : Node) => Option.bind y.1[Int.toNat y.2.2.1]? fun (v : Node) => some (List.set y.1 (Int.toNat y.2.2.1) { v with size := IntKind.wrap .i64 ((↑(List.length y.1) : Int) - y.2.2.1) }, y.2.1, y.2.2.2)
noncomputable def m_impl_taken : Nat → Tup p_impl_taken → Option (Tup q_impl_taken)
  | 0 => fun _ => none
  | n + 1 => b_impl_taken (m_impl_taken n)
noncomputable def cx_impl_taken (n : Nat) : Cx := ⟨tb, lookE [(106, e_impl_kindOf), (77, ⟨0, p_impl_taken, q_impl_taken, m_impl_taken n⟩)], lookS []⟩
theorem ck_impl_taken (n : Nat) (ih0 : FnOK Try.prog 77 ⟨0, p_impl_taken, q_impl_taken, m_impl_taken n⟩) : CxOK Try.prog (cx_impl_taken n) := cx_ok tb_ok (.cons ok_impl_kindOf Try.call106 (.cons ih0 Try.call77 .nil))
noncomputable def c_impl_taken_0 : Code := loopAt (Go.Proofs.Try.f77.body.getD .skip) 0
noncomputable def l_impl_taken_0 (n : Nat) : LEnt := ⟨p_impl_taken_0, x_impl_taken_0, loopO (m_impl_taken_0 (m_impl_taken n))⟩
theorem lo_impl_taken_0 (n : Nat) (ih0 : FnOK Try.prog 77 ⟨0, p_impl_taken, q_impl_taken, m_impl_taken n⟩) : LOK Try.prog 48 0 true (l_impl_taken_0 n) c_impl_taken_0 := loop_ok (body := m_impl_taken_0 (m_impl_taken n)) (L := lookL []) (ck_impl_taken n ih0) mixed (ls_ok (l := []) (by kernel_rfl) .nil) (by intro x; kernel_rfl) (fun x y h => loopO_iff.1 h)
theorem st_impl_taken (n : Nat) (ih0 : FnOK Try.prog 77 ⟨0, p_impl_taken, q_impl_taken, m_impl_taken n⟩) : FnOK Try.prog 77 ⟨0, p_impl_taken, q_impl_taken, m_impl_taken (n + 1)⟩ := fn_ok (ent := ⟨0, p_impl_taken, q_impl_taken, m_impl_taken (n + 1)⟩) (L := lookL [(0, l_impl_taken_0 n)]) (ck_impl_taken n ih0) mixed Try.func77 rfl (by kernel_rfl) (by kernel_rfl) (ls_ok (l := [(0, c_impl_taken_0)]) (by kernel_rfl) (.cons rfl (lo_impl_taken_0 n ih0) .nil)) (by intro x; kernel_rfl)
theorem ok0_impl_taken : ∀ n, FnOK Try.prog 77 ⟨0, p_impl_taken, q_impl_taken, m_impl_taken n⟩
  | 0 => fun x r h => by cases h
  | n + 1 => (fun ih => st_impl_taken n ih) (ok0_impl_taken n)
noncomputable def e_impl_taken : Ent := ⟨0, p_impl_taken, q_impl_taken, m_impl_taken big⟩
theorem ok_impl_taken : FnOK Try.prog 77 e_impl_taken := (ok0_impl_taken big)
abbrev p_impl_world_ends : Pt := [(0, .fp (.rc .nps [.fnil] 0)), (NT, .ns .h 126 168)]
abbrev q_impl_world_ends : Pt := [(0, .own .node 44), (1, .own .int 3), (NT, .ns .h 126 168)]
noncomputable def m_impl_world_ends : Tup p_impl_world_ends → Option (Tup q_impl_world_ends) := fun (x : (List (Option Nat) × PUnit) × List HN) => Option.bind (atI x.1.1 (0 : Int)) fun (v : Option Nat) => Option.bind (m_impl_taken big (v, [], [], x.2)) fun (r : List Node × List (Option Nat) × List HN) => Option.bind (m_impl_placesOf (r.2.1, x.1.1)) fun (r_1 : List Int) => some (r.1, r_1, r.2.2)
noncomputable def cx_impl_world_ends : Cx := ⟨tb, lookE [(77, e_impl_taken), (86, e_impl_placesOf)], lookS []⟩
theorem ck_impl_world_ends : CxOK Try.prog (cx_impl_world_ends) := cx_ok tb_ok (.cons ok_impl_taken Try.call77 (.cons ok_impl_placesOf Try.call86 .nil))
noncomputable def e_impl_world_ends : Ent := ⟨0, p_impl_world_ends, q_impl_world_ends, m_impl_world_ends⟩
theorem ok_impl_world_ends : FnOK Try.prog 54 e_impl_world_ends := fn_ok (L := lookL []) ck_impl_world_ends mixed Try.func54 rfl (by kernel_rfl) (by kernel_rfl) (ls_ok (l := []) (by kernel_rfl) .nil) (by intro x; kernel_rfl)
abbrev p_impl_begun : Pt := [(0, .lst .node), (NT, .ns .h 126 168)]
abbrev q_impl_begun : Pt := [(0, .fp (.rc .nps [.fnil] 0)), (1, .bool), (NT, .ns .h 126 168)]
noncomputable def m_impl_begun : Tup p_impl_begun → Option (Tup q_impl_begun) := fun (x : List Node × List HN) => Option.bind (m_impl_grown (x.1, x.2)) fun (r : List (Option Nat) × Bool × List HN) => bif !r.2.1 then none else Option.bind (atI r.1 (0 : Int)) fun (x : Option Nat) => Option.bind r.1[Int.toNat (0 : Int)]? fun (v : Option Nat) => Option.bind (m_goquery_NewDocumentFromNode v) fun (r_1 : List (Option Nat) × Option Nat) => Option.bind (m_goquery_Selection_Eq_nil (r_1.1, (1 : Int))) fun (r_2 : PUnit) => some ((r.1, ()), true, r.2.2)
noncomputable def cx_impl_begun : Cx := ⟨tb, lookE [(71, e_impl_grown), (102, e_goquery_NewDocumentFromNode), (103, e_goquery_Selection_Eq_nil)], lookS []⟩
theorem ck_impl_begun : CxOK Try.prog (cx_impl_begun) := cx_ok tb_ok (.cons ok_impl_grown Try.call71 (.cons ok_goquery_NewDocumentFromNode Try.call102 (.cons ok_goquery_Selection_Eq_nil Try.call103 .nil)))
noncomputable def e_impl_begun : Ent := ⟨0, p_impl_begun, q_impl_begun, m_impl_begun⟩
theorem ok_impl_begun : FnOK Try.prog 81 e_impl_begun := fn_ok (L := lookL []) ck_impl_begun mixed Try.func81 rfl (by kernel_rfl) (by kernel_rfl) (ls_ok (l := []) (by kernel_rfl) .nil) (by intro x; kernel_rfl)
abbrev p_impl_selected : Pt := [(0, .lst .node), (1, .lst .int), (NT, .ns .h 126 168)]
abbrev q_impl_selected : Pt := [(0, .fp (.rc .nps [.fnil] 0)), (1, .fp (.rc .nps [] 2)), (2, .bool), (NT, .ns .h 126 168)]
noncomputable def m_impl_selected : Tup p_impl_selected → Option (Tup q_impl_selected) := fun (x : List Node × List Int × List HN) => Option.bind (m_impl_begun (x.1, x.2.2)) fun (r : (List (Option Nat) × PUnit) × Bool × List HN) => bif !r.2.1 then none else Option.bind (m_impl_these (r.1.1, x.2.1)) fun (r_1 : List (Option Nat) × Bool) => bif !r_1.2 then none else Option.bind (m_goquery_Selection_AddNodes_nil ((), r_1.1)) fun (r_2 : List (Option Nat)) => some ((r.1.1, ()), r_2, true, r.2.2)
noncomputable def cx_impl_selected : Cx := ⟨tb, lookE [(81, e_impl_begun), (52, e_impl_these), (82, e_goquery_Selection_AddNodes_nil)], lookS []⟩
theorem ck_impl_selected : CxOK Try.prog (cx_impl_selected) := cx_ok tb_ok (.cons ok_impl_begun Try.call81 (.cons ok_impl_these Try.call52 (.cons ok_goquery_Selection_AddNodes_nil Try.call82 .nil)))
noncomputable def e_impl_selected : Ent := ⟨0, p_impl_selected, q_impl_selected, m_impl_selected⟩
theorem ok_impl_selected : FnOK Try.prog 51 e_impl_selected := fn_ok (L := lookL []) ck_impl_selected mixed Try.func51 rfl (by kernel_rfl) (by kernel_rfl) (ls_ok (l := []) (by kernel_rfl) .nil) (by intro x; kernel_rfl)
end Go.Proofs.Ytfmlpodcldhgdaa.V
set_option linter.unusedVariables false
set_option linter.unusedSimpArgs false
namespace Go.Proofs.Ytfmlpodcldhgdaa.V
open Go
section
variable {F G : Fo} {L : Nat → HN} {p c : Nat} {A B : List Nat}
theorem remove_eq (h : Sp F G p c A B) : m_html_Node_RemoveChild (some p, some c, (F.st L)) = some (G.st L) := by
  have hG : (G.st L) = tab F.m (G.mk1 L) := by rw [h.g]; rfl
  have hpc := h.pc
  have hcp := Ne.symm hpc
  have fc := h.f_c (L := L)
  have fp := h.f_p (L := L)
  rw [hG]
  rcases List.eq_nil_or_concat A with rfl | ⟨A', a, rfl⟩
  · cases B with
    | nil =>
      have e1 : (F.mk1 L p).fst = some c := fp.1
      have e2 : (F.mk1 L p).lst = some c := fp.2
      simp only [m_html_Node_RemoveChild, bind_some, Fo.st, tab_get h.hp, tab_get h.hc, tab_set h.hp, tab_set h.hc, fc, upd, e1, e2, hpc, hcp, if_true, if_false, decide_true, cond_true, cond_false, Option.isNone_none, Option.isNone_some, Bool.not_true, Bool.not_false, List.head?_nil, List.getLast?_nil]
      refine congrArg some (tab_ext fun j hj => ?_)
      by_cases g1 : j = c
      · subst g1; simp only [upd, h.at_c, if_true, if_false, hpc, hcp]
      by_cases g2 : j = p
      · subst g2; simp only [upd, h.at_p, if_true, if_false, hpc, hcp]; rfl
      simp only [upd, if_neg g1, if_neg g2]
      exact (h.other g1 g2 (by simp) (by simp)).symm
    | cons b B =>
      obtain ⟨_, hbm, hbp, hbc⟩ := h.kid (j := b) (.inr (by simp))
      have hpb := Ne.symm hbp
      have hcb := Ne.symm hbc
      have e1 : (F.mk1 L p).fst = some c := fp.1
      have e2 : (F.mk1 L p).lst ≠ some c := by
        rw [fp.2, List.getLast?_cons_cons]
        intro e
        exact h.cB (List.mem_of_getLast? e)
      have fb := h.f_b (L := L)
      simp only [m_html_Node_RemoveChild, bind_some, Fo.st, tab_get h.hp, tab_get h.hc, tab_get hbm, tab_set h.hp, tab_set h.hc, tab_set hbm, fc, upd, e1, e2, hpc, hcp, hbp, hbc, hpb, hcb, if_true, if_false, decide_true, decide_false, cond_true, cond_false, Option.isNone_none, Option.isNone_some, Bool.not_true, Bool.not_false, List.head?_nil, List.getLast?_nil, List.head?_cons]
      refine congrArg some (tab_ext fun j hj => ?_)
      by_cases g1 : j = c
      · subst g1; simp only [upd, h.at_c, if_true, if_false, hpc, hcp, hbc, hcb]
      by_cases g2 : j = p
      · subst g2; simp only [upd, h.at_p, if_true, if_false, hpc, hcp, hbp, hpb, fp.2]; rfl
      by_cases g3 : j = b
      · subst g3; simp only [upd, h.at_b, if_true, if_false, hbp, hbc, List.getLast?_nil]
      simp only [upd, if_neg g1, if_neg g2, if_neg g3]
      exact (h.other g1 g2 (by simp) (by simpa using Ne.symm g3)).symm
  · have hA := h.kid (j := a) (.inl (by simp))
    simp only [List.concat_eq_append] at h fc fp hA
    obtain ⟨_, ham, hap, hac⟩ := hA
    have hpa := Ne.symm hap
    have hca := Ne.symm hac
    have e1 : (F.mk1 L p).fst ≠ some c := by
      rw [fp.1]
      intro e
      refine h.cA ?_
      cases A' with
      | nil => simp at e; simp [e]
      | cons x A' => simp at e; simp [e]
    have e3 : (A' ++ [a]).getLast? = some a := by simp
    have fa := h.f_a (L := L)
    cases B with
    | nil =>
      have e2 : (F.mk1 L p).lst = some c := fp.2
      rw [e3] at fc
      simp only [m_html_Node_RemoveChild, bind_some, Fo.st, tab_get h.hp, tab_get h.hc, tab_get ham, tab_set h.hp, tab_set h.hc, tab_set ham, fc, upd, e1, e2, e3, hpc, hcp, hap, hac, hpa, hca, if_true, if_false, decide_true, decide_false, cond_true, cond_false, Option.isNone_none, Option.isNone_some, Bool.not_true, Bool.not_false, List.head?_nil, List.getLast?_nil, List.head?_cons]
      refine congrArg some (tab_ext fun j hj => ?_)
      by_cases g1 : j = c
      · subst g1; simp only [upd, h.at_c, if_true, if_false, hpc, hcp, hac, hca]
      by_cases g2 : j = p
      · subst g2; simp only [upd, h.at_p, if_true, if_false, hpc, hcp, hap, hpa, fp.1, List.append_nil, e3]
        cases A' <;> rfl
      by_cases g3 : j = a
      · subst g3; simp only [upd, h.at_a, if_true, if_false, hap, hac, List.head?_nil]
      simp only [upd, if_neg g1, if_neg g2, if_neg g3]
      exact (h.other g1 g2 (by simpa using Ne.symm g3) (by simp)).symm
    | cons b B =>
      obtain ⟨_, hbm, hbp, hbc⟩ := h.kid (j := b) (.inr (by simp))
      have hpb := Ne.symm hbp
      have hcb := Ne.symm hbc
      have hab : a ≠ b := fun e => h.AB (j := a) (by simp) (by simp [e])
      have hba := Ne.symm hab
      have e2 : (F.mk1 L p).lst ≠ some c := by
        rw [fp.2, List.getLast?_cons_cons]
        intro e
        exact h.cB (List.mem_of_getLast? e)
      have fb := h.f_b (L := L)
      rw [e3] at fc
      simp only [m_html_Node_RemoveChild, bind_some, Fo.st, tab_get h.hp, tab_get h.hc, tab_get ham, tab_get hbm, tab_set h.hp, tab_set h.hc, tab_set ham, tab_set hbm, fc, upd, e1, e2, e3, hpc, hcp, hap, hac, hpa, hca, hbp, hbc, hpb, hcb, hab, hba, if_true, if_false, decide_true, decide_false, cond_true, cond_false, Option.isNone_none, Option.isNone_some, Bool.not_true, Bool.not_false, List.head?_nil, List.getLast?_nil, List.head?_cons]
      refine congrArg some (tab_ext fun j hj => ?_)
      by_cases g1 : j = c
      · subst g1; simp only [upd, h.at_c, if_true, if_false, hpc, hcp, hac, hca, hbc, hcb]
      by_cases g2 : j = p
      · subst g2
        simp only [upd, h.at_p, if_true, if_false, hpc, hcp, hap, hpa, hbp, hpb]
        have q1 : (A' ++ [a] ++ b :: B).head? = (F.mk1 L j).fst := by rw [fp.1]; cases A' <;> rfl
        have q2 : (A' ++ [a] ++ b :: B).getLast? = (F.mk1 L j).lst := by
          rw [fp.2, List.getLast?_cons_cons, List.getLast?_append]
          cases hB : (b :: B).getLast? with
          | none => simp at hB
          | some x => rfl
        rw [q1, q2]
      by_cases g3 : j = a
      · subst g3; simp only [upd, h.at_a, if_true, if_false, hap, hac, hab, List.head?_cons]
      by_cases g4 : j = b
      · subst g4; simp only [upd, h.at_b, if_true, if_false, hbp, hbc, hba, e3]
      simp only [upd, if_neg g1, if_neg g2, if_neg g3, if_neg g4]
      exact (h.other g1 g2 (by simpa using Ne.symm g3) (by simpa using Ne.symm g4)).symm
theorem insert_eq (h : Sp F G p c A B) : m_html_Node_InsertBefore (some p, some c, B.head?, (G.st L)) = some (F.st L) := by
  have hG : (G.st L) = tab F.m (G.mk1 L) := by rw [h.g]; rfl
  have hpc := h.pc
  have hcp := Ne.symm hpc
  have fc := h.f_c (L := L)
  have fp := h.f_p (L := L)
  have gc := h.at_c (L := L)
  have gp := h.at_p (L := L)
  have hF : (F.st L) = tab F.m (F.mk1 L) := rfl
  rw [hG, hF]
  rcases List.eq_nil_or_concat A with rfl | ⟨A', a, rfl⟩
  · cases B with
    | nil =>
      simp only [List.append_nil, List.nil_append, List.head?_nil, List.getLast?_nil] at gp
      simp only [m_html_Node_InsertBefore, bind_some, tab_get h.hp, tab_get h.hc, tab_set h.hp, tab_set h.hc, gc, gp, upd, hpc, hcp, if_true, if_false, cond_true, cond_false, Option.isNone_none, Option.isNone_some, Bool.not_true, Bool.not_false, List.head?_nil, List.getLast?_nil]
      refine congrArg some (tab_ext fun j hj => ?_)
      by_cases g1 : j = c
      · subst g1; simp only [upd, fc, if_true, if_false, hpc, hcp, List.getLast?_nil, List.head?_nil]
      by_cases g2 : j = p
      · subst g2; simp only [upd, if_true, if_false, hpc, hcp]
        have q1 : some c = (F.mk1 L j).fst := by rw [fp.1]; rfl
        have q2 : some c = (F.mk1 L j).lst := by rw [fp.2]; rfl
        rw (occs := .pos [1]) [q1]
        rw (occs := .pos [1]) [q2]
      simp only [upd, if_neg g1, if_neg g2]
      exact (h.other g1 g2 (by simp) (by simp))
    | cons b B =>
      obtain ⟨_, hbm, hbp, hbc⟩ := h.kid (j := b) (.inr (by simp))
      have hpb := Ne.symm hbp
      have hcb := Ne.symm hbc
      have gb := h.at_b (L := L)
      simp only [List.nil_append, List.head?_cons, List.getLast?_nil] at gp gb
      simp only [m_html_Node_InsertBefore, bind_some, tab_get h.hp, tab_get h.hc, tab_get hbm, tab_set h.hp, tab_set h.hc, tab_set hbm, gc, gp, gb, upd, hpc, hcp, hbp, hbc, hpb, hcb, if_true, if_false, cond_true, cond_false, Option.isNone_none, Option.isNone_some, Bool.not_true, Bool.not_false, List.head?_cons, List.getLast?_nil]
      refine congrArg some (tab_ext fun j hj => ?_)
      by_cases g1 : j = c
      · subst g1; simp only [upd, fc, if_true, if_false, hpc, hcp, hbc, hcb, List.getLast?_nil, List.head?_cons]
      by_cases g2 : j = p
      · subst g2; simp only [upd, if_true, if_false, hpc, hcp, hbp, hpb]
        have q1 : some c = (F.mk1 L j).fst := by rw [fp.1]; rfl
        have q2 : (b :: B).getLast? = (F.mk1 L j).lst := by rw [fp.2, List.getLast?_cons_cons]
        rw [q1, q2]
      by_cases g3 : j = b
      · subst g3; simp only [upd, if_true, if_false, hbp, hbc]
        rw [← h.f_b]
      simp only [upd, if_neg g1, if_neg g2, if_neg g3]
      exact (h.other g1 g2 (by simp) (by simpa using Ne.symm g3))
  · have hA := h.kid (j := a) (.inl (by simp))
    simp only [List.concat_eq_append] at h fc fp hA gc gp
    obtain ⟨_, ham, hap, hac⟩ := hA
    have hpa := Ne.symm hap
    have hca := Ne.symm hac
    have e3 : (A' ++ [a]).getLast? = some a := by simp
    have q1 : ∀ B : List Nat, (A' ++ [a] ++ B).head? = (F.mk1 L p).fst := fun B => by rw [fp.1]; cases A' <;> rfl
    have ga := h.at_a (L := L)
    cases B with
    | nil =>
      simp only [List.append_nil, e3, List.head?_nil] at gp ga
      simp only [m_html_Node_InsertBefore, bind_some, tab_get h.hp, tab_get h.hc, tab_get ham, tab_set h.hp, tab_set h.hc, tab_set ham, gc, gp, ga, upd, e3, hpc, hcp, hap, hac, hpa, hca, if_true, if_false, cond_true, cond_false, Option.isNone_none, Option.isNone_some, Bool.not_true, Bool.not_false, List.head?_nil]
      refine congrArg some (tab_ext fun j hj => ?_)
      by_cases g1 : j = c
      · subst g1; simp only [upd, fc, if_true, if_false, hpc, hcp, hac, hca, e3, List.head?_nil]
      by_cases g2 : j = p
      · subst g2; simp only [upd, if_true, if_false, hpc, hcp, hap, hpa]
        have q2 : some c = (F.mk1 L j).lst := by rw [fp.2]; rfl
        have q3 := q1 []
        rw [List.append_nil] at q3
        rw [q3, q2]
      by_cases g3 : j = a
      · subst g3; simp only [upd, if_true, if_false, hap, hac]
        rw [← h.f_a]
      simp only [upd, if_neg g1, if_neg g2, if_neg g3]
      exact (h.other g1 g2 (by simpa using Ne.symm g3) (by simp))
    | cons b B =>
      obtain ⟨_, hbm, hbp, hbc⟩ := h.kid (j := b) (.inr (by simp))
      have hpb := Ne.symm hbp
      have hcb := Ne.symm hbc
      have hab : a ≠ b := fun e => h.AB (j := a) (by simp) (by simp [e])
      have hba := Ne.symm hab
      have gb := h.at_b (L := L)
      simp only [e3, List.head?_cons] at ga gb
      simp only [m_html_Node_InsertBefore, bind_some, tab_get h.hp, tab_get h.hc, tab_get ham, tab_get hbm, tab_set h.hp, tab_set h.hc, tab_set ham, tab_set hbm, gc, gp, ga, gb, upd, e3, hpc, hcp, hap, hac, hpa, hca, hbp, hbc, hpb, hcb, hab, hba, if_true, if_false, cond_true, cond_false, Option.isNone_none, Option.isNone_some, Bool.not_true, Bool.not_false, List.head?_cons]
      refine congrArg some (tab_ext fun j hj => ?_)
      by_cases g1 : j = c
      · subst g1; simp only [upd, fc, if_true, if_false, hpc, hcp, hac, hca, hbc, hcb, e3, List.head?_cons]
      by_cases g2 : j = p
      · subst g2
        simp only [upd, gp, if_true, if_false, hpc, hcp, hap, hpa, hbp, hpb]
        have q2 : (A' ++ [a] ++ b :: B).getLast? = (F.mk1 L j).lst := by
          rw [fp.2, List.getLast?_cons_cons, List.getLast?_append]
          cases hB : (b :: B).getLast? with
          | none => simp at hB
          | some x => rfl
        rw [q1, q2]
      by_cases g3 : j = a
      · subst g3; simp only [upd, if_true, if_false, hap, hac, hab]
        rw [← h.f_a]
      by_cases g4 : j = b
      · subst g4; simp only [upd, if_true, if_false, hbp, hbc, hba]
        rw [← h.f_b]
      simp only [upd, if_neg g1, if_neg g2, if_neg g3, if_neg g4]
      exact (h.other g1 g2 (by simpa using Ne.symm g3) (by simpa using Ne.symm g4))
end
end Go.Proofs.Ytfmlpodcldhgdaa.V
set_option linter.unusedVariables false
set_option linter.unusedSimpArgs false
namespace Go.Proofs.Ytfmlpodcldhgdaa.V
open Go
theorem Fo.ext' {F G : Fo} (h1 : F.m = G.m) (h2 : ∀ i, F.up i = G.up i) (h3 : ∀ i, F.kids i = G.kids i) : F = G := by
  cases F; cases G
  simp only at h1 h2 h3
  subst h1
  rw [funext h2, funext h3]
section
variable {F G : Fo} {L : Nat → HN} {p c i j : Nat} {A B : List Nat}
theorem Sp.ins (hG : G.ok) (hp : p < G.m) (hc : c < G.m) (hu : G.up c = none) (hpc : p ≠ c) (hk : G.kids p = A ++ B) : Sp (G.setK p (A ++ c :: B) c (some p)) G p c A B := by
  have hn : ∀ q, c ∉ G.kids q := fun q h => by have := (hG.kid h).1; rw [hu] at this; cases this
  refine ⟨⟨fun {q x} hx => ?_, fun {x q} hx => ?_, fun q => ?_, fun x => ?_⟩, hp, hc, by simp [Fo.setK], by simp [Fo.setK], ?_⟩
  · simp only [Fo.setK] at hx ⊢
    by_cases e : q = p
    · rw [if_pos e] at hx
      by_cases e2 : x = c
      · rw [if_pos e2, e, e2]; exact ⟨rfl, hc⟩
      · rw [if_neg e2]
        have : x ∈ G.kids p := by rw [hk]; simpa [e2] using hx
        rw [e]; exact hG.kid this
    · rw [if_neg e] at hx
      have e2 : x ≠ c := fun e2 => hn q (e2 ▸ hx)
      rw [if_neg e2]; exact hG.kid hx
  · simp only [Fo.setK] at hx ⊢
    by_cases e2 : x = c
    · rw [if_pos e2] at hx
      obtain rfl : p = q := Option.some.inj hx
      exact ⟨hp, by rw [if_pos rfl, e2]; simp⟩
    · rw [if_neg e2] at hx
      obtain ⟨h1, h2⟩ := hG.up hx
      refine ⟨h1, ?_⟩
      by_cases e : q = p
      · rw [if_pos e]
        rw [e, hk] at h2
        rcases List.mem_append.1 h2 with h | h <;> simp [h]
      · rw [if_neg e]; exact h2
  · simp only [Fo.setK]
    by_cases e : q = p
    · rw [if_pos e]
      have h1 := hG.nd p
      have h2 := hn p
      rw [hk] at h1 h2
      rw [List.nodup_append] at h1 ⊢
      simp only [List.mem_append, not_or] at h2
      refine ⟨h1.1, List.nodup_cons.2 ⟨h2.2, h1.2.1⟩, fun a ha b hb e3 => ?_⟩
      rcases List.mem_cons.1 hb with hb | hb
      · exact h2.1 (by rw [← hb, ← e3]; exact ha)
      · exact h1.2.2 a ha b hb e3
    · rw [if_neg e]; exact hG.nd q
  · simp only [Fo.setK]
    by_cases e : x = c
    · rw [if_pos e]; intro h; exact hpc (by rw [← e]; exact Option.some.inj h)
    · rw [if_neg e]; exact hG.irr x
  · refine Fo.ext' rfl (fun i => ?_) (fun i => ?_)
    · simp only [Fo.setK]
      by_cases e : i = c
      · rw [if_pos e, e, hu]
      · rw [if_neg e, if_neg e]
    · simp only [Fo.setK]
      by_cases e : i = p
      · rw [if_pos e, e, hk]
      · rw [if_neg e, if_neg e]
def Fo.add (F : Fo) : Fo := ⟨F.m + 1, fun i => if i = F.m then none else F.up i, fun i => if i = F.m then [] else F.kids i⟩
theorem Fo.ok.add (h : F.ok) : F.add.ok := by
  refine ⟨fun {q x} hx => ?_, fun {x q} hx => ?_, fun q => ?_, fun x => ?_⟩
  · simp only [Fo.add] at hx ⊢
    by_cases e : q = F.m
    · rw [if_pos e] at hx; cases hx
    · rw [if_neg e] at hx
      have := h.kid hx
      rw [if_neg (by omega)]
      exact ⟨this.1, by omega⟩
  · simp only [Fo.add] at hx ⊢
    by_cases e : x = F.m
    · rw [if_pos e] at hx; cases hx
    · rw [if_neg e] at hx
      have := h.up hx
      rw [if_neg (by omega)]
      exact ⟨by omega, this.2⟩
  · simp only [Fo.add]
    by_cases e : q = F.m
    · rw [if_pos e]; exact List.nodup_nil
    · rw [if_neg e]; exact h.nd q
  · simp only [Fo.add]
    by_cases e : x = F.m
    · rw [if_pos e]; intro h; cases h
    · rw [if_neg e]; exact h.irr x
end
def Ht (K : Nat → List Nat) : Nat → Nat → Prop
  | 0, _ => False
  | n + 1, x => ∀ y ∈ K x, Ht K n y
theorem F2.imp {α β : Type} {R S : α → β → Prop} : ∀ {l : List α} {m : List β}, (∀ a b, a ∈ l → b ∈ m → R a b → S a b) → F2 R l m → F2 S l m
  | _, _, _, .nil => .nil
  | _, _, hi, .cons h t => .cons (hi _ _ (by simp) (by simp) h) (F2.imp (fun a b ha hb => hi a b (by simp [ha]) (by simp [hb])) t)
section
variable {F G : Fo} {L M : Nat → HN} {K : Nat → List Nat} {B : Nat → HN} {lo hi lo' hi' : Nat}
structure Ext (F : Fo) (L : Nat → HN) (G : Fo) (M : Nat → HN) : Prop where
  ok : G.ok
  m : F.m ≤ G.m
  old : ∀ i, i < F.m → G.up i = F.up i ∧ G.kids i = F.kids i ∧ M i = L i
  lab : ∀ i, F.m ≤ i → i < G.m → (M i).attrs.length ≤ 1000000
  inc : ∀ i, F.m ≤ i → ∀ y ∈ G.kids i, i < y
theorem Ext.trans {H : Fo} {N : Nat → HN} (h : Ext F L G M) (h' : Ext G M H N) : Ext F L H N := ⟨h'.ok, Nat.le_trans h.m h'.m, fun i hi => by
  obtain ⟨a, b, c⟩ := h.old i hi
  obtain ⟨a', b', c'⟩ := h'.old i (Nat.lt_of_lt_of_le hi h.m)
  exact ⟨a'.trans a, b'.trans b, c'.trans c⟩, fun i h1 h2 => by
  by_cases e : i < G.m
  · rw [(h'.old i e).2.2]; exact h.lab i h1 e
  · exact h'.lab i (by omega) h2, fun i h1 y hy => by
  by_cases e : i < G.m
  · rw [(h'.old i e).2.1] at hy; exact h.inc i h1 y hy
  · exact h'.inc i (by omega) y hy⟩
theorem nxtL_get : ∀ {l : List Nat} {j c : Nat}, l.Nodup → l[j]? = some c → nxtL l c = l[j + 1]?
  | [], _, _, _, h => by simp at h
  | a :: l, 0, c, _, h => by
    simp at h
    subst h
    simp [nxtL, List.head?_eq_getElem?]
  | a :: l, j + 1, c, hn, h => by
    have h' : l[j]? = some c := by simpa using h
    have hne : a ≠ c := fun e => (List.nodup_cons.1 hn).1 (by rw [e]; exact List.mem_of_getElem? h')
    simp only [nxtL, if_neg hne, nxtL_get (List.nodup_cons.1 hn).2 h', List.getElem?_cons_succ]
end
end Go.Proofs.Ytfmlpodcldhgdaa.V
set_option linter.unusedVariables false
set_option linter.unusedSimpArgs false
namespace Go.Proofs.Ytfmlpodcldhgdaa.V
open Go
def attrH (a : HAttr) : Attr := ⟨a.key, a.val⟩
def kn (h : HN) : Node :=
  if h.ty = 2 then ⟨1, [], [], [], 0⟩ else if h.ty = 5 then ⟨2, [], h.data, [], 0⟩ else if h.ty = 1 then ⟨4, [], h.data, [], 0⟩ else if h.ty = 4 then ⟨5, [], h.data, [], 0⟩
  else if h.ty = 3 then ⟨3, h.data, [], h.attrs.map attrH, 0⟩ else ⟨0, [], [], [], 0⟩
def idsF (K : Nat → List Nat) : Nat → Nat → List Nat
  | 0, _ => []
  | n + 1, x => x :: (K x).flatMap (idsF K n)
def nodesF (K : Nat → List Nat) (N : Nat → Node) : Nat → Nat → List Node
  | 0, _ => []
  | n + 1, x => ⟨(N x).kind, (N x).tag, (N x).text, (N x).attrs, 1 + (((K x).flatMap (nodesF K N n)).length : Nat)⟩ :: (K x).flatMap (nodesF K N n)
section
variable {F : Fo} {L : Nat → HN}
theorem kindOf_eq {i : Nat} (hi : i < F.m) (ha : (L i).attrs.length ≤ 1000000) : m_impl_kindOf (some i, F.st L) = some (kn (L i), F.st L) := by
  have hg := Fo.get (F := F) (L := L) hi
  have hty : (F.mk1 L i).ty = (L i).ty := rfl
  have hda : (F.mk1 L i).data = (L i).data := rfl
  have hat : (F.mk1 L i).attrs = (L i).attrs := rfl
  simp only [m_impl_kindOf, bind_some, hg, hty, hda, hat, cond_dec, kn]
  split
  · rfl
  split
  · rfl
  split
  · rfl
  split
  · rfl
  split
  · have key : ∀ d j, (L i).attrs.length - j = d → j ≤ (L i).attrs.length → loopO m_impl_kindOf_0 (⟨0, [], [], [], 0⟩, (3, (L i).data, [], (), 0), i, ((L i).attrs.length : Int), (j : Int), F.st L, ((L i).attrs.take j).map attrH) = some (⟨0, [], [], [], 0⟩, (3, (L i).data, [], (), 0), F.st L, (L i).attrs.map attrH) := by
      intro d
      induction d with
      | zero =>
        intro j hd hj
        refine loopO_out ?_
        simp only [m_impl_kindOf_0, cond_dec]
        rw [if_neg (by omega), List.take_of_length_le (by omega)]
      | succ d ih =>
        intro j hd hj
        obtain ⟨a, hA⟩ := get_lt (l := (L i).attrs) (k := j) (by omega)
        have step : m_impl_kindOf_0 (⟨0, [], [], [], 0⟩, (3, (L i).data, [], (), 0), i, ((L i).attrs.length : Int), (j : Int), F.st L, ((L i).attrs.take j).map attrH) = some (.nx (⟨0, [], [], [], 0⟩, (3, (L i).data, [], (), 0), i, ((L i).attrs.length : Int), ((j + 1 : Nat) : Int), F.st L, ((L i).attrs.take (j + 1)).map attrH)) := by
          simp only [m_impl_kindOf_0, cond_dec, hg, bind_some, hat, atI_nat, hA, Int.toNat_natCast]
          rw [if_pos (by omega), appL_some (by simp; omega), bind_some, w64 (by omega) (by omega)]
          have e2 : (L i).attrs.take (j + 1) = (L i).attrs.take j ++ [a] := by rw [List.take_add_one, hA]; rfl
          rw [e2]
          simp [attrH]
        rw [loopO_nx step]
        exact ih (j + 1) (by omega) (by omega)
    have h := key (L i).attrs.length 0 (by omega) (Nat.zero_le _)
    have h' : loopO m_impl_kindOf_0 (⟨0, [], [], [], 0⟩, (3, (L i).data, [], (), 0), i, ((L i).attrs.length : Int), (0 : Int), F.st L, []) = _ := h
    rw [h', bind_some]
  · rfl
theorem nodesF_len {K : Nat → List Nat} {N : Nat → Node} : ∀ (n x : Nat), (nodesF K N n x).length = (idsF K n x).length
  | 0, _ => rfl
  | n + 1, x => by
    simp only [nodesF, idsF, List.length_cons, List.length_flatMap]
    rw [show (nodesF K N n) = fun y => nodesF K N n y from rfl]
    simp only [nodesF_len n]
theorem taken_eq (hF : F.ok) (ha : ∀ i, i < F.m → (L i).attrs.length ≤ 1000000) : ∀ (n x : Nat) (T : List Node) (P : List (Option Nat)), x < F.m → Ht F.kids n x → T.length + (idsF F.kids n x).length ≤ 1000000 → P.length + (idsF F.kids n x).length ≤ 1000000 →
    m_impl_taken n (some x, T, P, F.st L) = some (T ++ nodesF F.kids (fun i => kn (L i)) n x, P ++ (idsF F.kids n x).map some, F.st L)
  | 0, _, _, _, _, h, _, _ => h.elim
  | n + 1, x, T, P, hx, hh, hT, hP => by
    have hg := Fo.get (F := F) (L := L) hx
    have hfst : (F.mk1 L x).fst = (F.kids x)[0]? := by simp only [Fo.mk1, List.head?_eq_getElem?]
    simp only [idsF, List.length_cons, List.length_flatMap] at hT hP
    let nd := kn (L x)
    have key : ∀ d j, (F.kids x).length - j = d → j ≤ (F.kids x).length → loopO (m_impl_taken_0 (m_impl_taken n)) (T ++ [nd] ++ ((F.kids x).take j).flatMap (nodesF F.kids (fun i => kn (L i)) n), P ++ [some x] ++ (((F.kids x).take j).flatMap (idsF F.kids n)).map some, (T.length : Int), (F.kids x)[j]?, F.st L)
        = some (T ++ [nd] ++ (F.kids x).flatMap (nodesF F.kids (fun i => kn (L i)) n), P ++ [some x] ++ ((F.kids x).flatMap (idsF F.kids n)).map some, (T.length : Int), F.st L) := by
      intro d
      induction d with
      | zero =>
        intro j hd hj
        have : j = (F.kids x).length := by omega
        subst this
        refine loopO_out ?_
        simp [m_impl_taken_0]
      | succ d ih =>
        intro j hd hj
        obtain ⟨y, hy⟩ := get_lt (l := F.kids x) (k := j) (by omega)
        have hym := List.mem_of_getElem? hy
        obtain ⟨hu, hym2⟩ := hF.kid hym
        have e1 : (F.kids x).take (j + 1) = (F.kids x).take j ++ [y] := by rw [List.take_add_one, hy]; rfl
        have hnx : (F.mk1 L y).nxt = (F.kids x)[j + 1]? := by
          simp only [Fo.mk1, hu, Option.bind_some]
          exact nxtL_get (hF.nd x) hy
        have hsum : (((F.kids x).take (j + 1)).map fun y => (idsF F.kids n y).length).sum ≤ ((F.kids x).map fun y => (idsF F.kids n y).length).sum := by
          have h1 : F.kids x = (F.kids x).take (j + 1) ++ (F.kids x).drop (j + 1) := (List.take_append_drop _ _).symm
          conv => rhs; rw [h1]
          rw [List.map_append, List.sum_append]
          omega
        rw [e1, List.map_append, List.sum_append] at hsum
        simp only [List.map_cons, List.map_nil, List.sum_cons, List.sum_nil] at hsum
        have hlN : (((F.kids x).take j).flatMap (nodesF F.kids (fun i => kn (L i)) n)).length = (((F.kids x).take j).map fun y => (idsF F.kids n y).length).sum := by
          rw [List.length_flatMap]
          congr 1
          exact List.map_congr_left fun y _ => nodesF_len n y
        have step : m_impl_taken_0 (m_impl_taken n) (T ++ [nd] ++ ((F.kids x).take j).flatMap (nodesF F.kids (fun i => kn (L i)) n), P ++ [some x] ++ (((F.kids x).take j).flatMap (idsF F.kids n)).map some, (T.length : Int), (F.kids x)[j]?, F.st L)
            = some (.nx (T ++ [nd] ++ ((F.kids x).take (j + 1)).flatMap (nodesF F.kids (fun i => kn (L i)) n), P ++ [some x] ++ (((F.kids x).take (j + 1)).flatMap (idsF F.kids n)).map some, (T.length : Int), (F.kids x)[j + 1]?, F.st L)) := by
          simp only [m_impl_taken_0, hy, Option.isNone_some, Bool.not_false, cond_true]
          rw [taken_eq hF ha n y _ _ hym2 (hh y hym) (by simp only [List.length_append, List.length_cons, List.length_nil, hlN]; omega) (by simp only [List.length_append, List.length_cons, List.length_nil, List.length_map, List.length_flatMap]; omega)]
          simp only [bind_some]
          rw [Fo.get hym2, bind_some, hnx, e1]
          simp only [List.flatMap_append, List.flatMap_cons, List.flatMap_nil, List.append_nil, List.map_append, List.append_assoc]
        rw [loopO_nx step]
        exact ih (j + 1) (by omega) (by omega)
    have h0 := key (F.kids x).length 0 (by omega) (Nat.zero_le _)
    simp only [List.take_zero, List.flatMap_nil, List.map_nil, List.append_nil] at h0
    have hlN : ((F.kids x).flatMap (nodesF F.kids (fun i => kn (L i)) n)).length = ((F.kids x).map fun y => (idsF F.kids n y).length).sum := by
      rw [List.length_flatMap]
      congr 1
      exact List.map_congr_left fun y _ => nodesF_len n y
    show b_impl_taken (m_impl_taken n) (some x, T, P, F.st L) = _
    simp only [b_impl_taken, kindOf_eq hx (ha x hx), bind_some]
    rw [appL_some (by simp; omega), bind_some, appL_some (by simp; omega), bind_some]
    rw [hg, bind_some, hfst, h0, bind_some]
    have hget : (T ++ [nd] ++ (F.kids x).flatMap (nodesF F.kids (fun i => kn (L i)) n))[T.length]? = some nd := by simp
    simp only [atI_nat, Int.toNat_natCast, hget, bind_some]
    have hset : ∀ v : Node, (T ++ [nd] ++ (F.kids x).flatMap (nodesF F.kids (fun i => kn (L i)) n)).set T.length v = T ++ v :: (F.kids x).flatMap (nodesF F.kids (fun i => kn (L i)) n) := fun v => by
      rw [List.append_assoc, List.set_append_right _ _ (Nat.le_refl _)]
      simp
    rw [hset, w64 (by simp only [List.length_append, List.length_cons, List.length_nil, hlN]; omega) (by simp only [List.length_append, List.length_cons, List.length_nil, hlN]; omega)]
    simp only [nodesF, idsF, List.map_cons, List.append_assoc, List.singleton_append]
    have hsz : ((T ++ nd :: (F.kids x).flatMap (nodesF F.kids (fun i => kn (L i)) n)).length : Int) - (T.length : Int) = 1 + (((F.kids x).flatMap (nodesF F.kids (fun i => kn (L i)) n)).length : Nat) := by
      simp only [List.length_append, List.length_cons]
      omega
    rw [hsz]
end
end Go.Proofs.Ytfmlpodcldhgdaa.V
set_option linter.unusedVariables false
set_option linter.unusedSimpArgs false
namespace Go.Proofs.Ytfmlpodcldhgdaa.V
open Go
def FT (t : List Node) : Fo := ⟨t.length, fun i => if i < t.length then par t i else none, fun i => if i < t.length then kidsN t i else []⟩
section
variable {t : List Node}
theorem RT.L (hR : RT t) {p : Nat} (hp : p < t.length) : Lam t p (p + sz t p) := hR.lam.sub (Nat.zero_le _) hp
theorem RT.le (hR : RT t) {p : Nat} (hp : p < t.length) : p + sz t p ≤ t.length := by
  obtain ⟨_, _, _, _, h⟩ := hR.lam.ok p (Nat.zero_le _) hp
  exact h
theorem RT.sz1 (hR : RT t) {p : Nat} (hp : p < t.length) : 1 ≤ sz t p := by
  obtain ⟨_, _, _, h, _⟩ := hR.lam.ok p (Nat.zero_le _) hp
  exact h
theorem FT_ok (hR : RT t) : (FT t).ok := by
  refine ⟨fun {p c} hc => ?_, fun {c p} hu => ?_, fun p => ?_, fun c => ?_⟩
  · simp only [FT] at hc ⊢
    by_cases hp : p < t.length
    · rw [if_pos hp] at hc
      have h1 := kids_mem (hR.L hp) (Nat.le_refl _) (by have := hR.sz1 hp; omega) hc
      have h2 := hR.le hp
      rw [if_pos (by omega)]
      exact ⟨kids_par (hR.L hp) hc, by omega⟩
    · rw [if_neg hp] at hc; cases hc
  · simp only [FT] at hu ⊢
    by_cases hc : c < t.length
    · rw [if_pos hc] at hu
      have h1 := par_some hu
      have hp : p < t.length := by omega
      rw [if_pos hp]
      exact ⟨hp, kids_in (hR.L hp) hu⟩
    · rw [if_neg hc] at hu; cases hu
  · simp only [FT]
    by_cases hp : p < t.length
    · rw [if_pos hp]
      exact (kids_sorted (hR.L hp)).imp fun h => Nat.ne_of_lt h
    · rw [if_neg hp]; exact List.nodup_nil
  · simp only [FT]
    by_cases hc : c < t.length
    · rw [if_pos hc]
      intro h
      have := par_some h
      omega
    · rw [if_neg hc]; intro h; cases h
theorem getLast_get (l : List Nat) : l.getLast? = l[l.length - 1]? := by
  rw [List.getLast?_eq_getElem?]
theorem store_st (hR : RT t) : store t = (FT t).st (bs0 t) := by
  apply List.ext_getElem?
  intro i
  by_cases hi : i < t.length
  · rw [store_get hi, Fo.get (F := FT t) hi]
    congr 1
    have hL := hR.L hi
    have hle := hR.le hi
    have hk : (FT t).kids i = kidsN t i := if_pos hi
    have hu : (FT t).up i = par t i := if_pos hi
    have e1 : (rc t 0 t.length i).par = par t i := rc_par
    have e2 := kid_fst hL hle
    have e3 := kid_lst hL hle
    have e4 : (rc t 0 t.length i).prv = (par t i).bind fun p => prvL ((FT t).kids p) i := by
      cases hp : par t i with
      | none =>
        simp only [rc, prvF, hp, Option.bind_none]
        split <;> rfl
      | some p =>
        have hpl : p < t.length := by have := par_some hp; omega
        have hkp : (FT t).kids p = kidsN t p := if_pos hpl
        have hm := kids_in (hR.L hpl) hp
        obtain ⟨j, hj⟩ := List.mem_iff_getElem?.1 hm
        have hn : (kidsN t p).Nodup := (kids_sorted (hR.L hpl)).imp fun h => Nat.ne_of_lt h
        rw [kid_prv (hR.L hpl) hj]
        simp only [Option.bind_some, hkp]
        have hjl := (List.getElem?_eq_some_iff.1 hj).1
        unfold prvL
        have hrev : (kidsN t p).reverse[(kidsN t p).length - 1 - j]? = some i := by
          rw [List.getElem?_reverse (by omega)]
          rw [show (kidsN t p).length - 1 - ((kidsN t p).length - 1 - j) = j by omega]
          exact hj
        rw [nxtL_get ((List.reverse_perm _).nodup_iff.2 hn) hrev]
        by_cases h0 : j = 0
        · subst h0
          rw [if_pos rfl, List.getElem?_eq_none (by simp; omega)]
        · rw [if_neg h0, List.getElem?_reverse (by omega)]
          congr 1
          omega
    have e5 : (rc t 0 t.length i).nxt = (par t i).bind fun p => nxtL ((FT t).kids p) i := by
      cases hp : par t i with
      | none =>
        simp only [rc, nxtF, hp, Option.bind_none]
        split <;> rfl
      | some p =>
        have hpl : p < t.length := by have := par_some hp; omega
        have hkp : (FT t).kids p = kidsN t p := if_pos hpl
        have hm := kids_in (hR.L hpl) hp
        obtain ⟨j, hj⟩ := List.mem_iff_getElem?.1 hm
        have hn : (kidsN t p).Nodup := (kids_sorted (hR.L hpl)).imp fun h => Nat.ne_of_lt h
        rw [kid_nxt (hR.L hpl) (hR.le hpl) hj]
        simp only [Option.bind_some, hkp]
        rw [nxtL_get hn hj]
    have h6 : rc t 0 t.length i = ⟨(rc t 0 t.length i).par, (rc t 0 t.length i).fst, (rc t 0 t.length i).lst, (rc t 0 t.length i).prv, (rc t 0 t.length i).nxt, (bs0 t i).ty, (bs0 t i).atom, (bs0 t i).data, (bs0 t i).ns, (bs0 t i).attrs⟩ := rfl
    rw [h6, e1, e2, e3, e4, e5]
    simp only [Fo.mk1, hu, hk, List.head?_eq_getElem?, getLast_get]
  · rw [List.getElem?_eq_none (by rw [store, stp_len]; omega), List.getElem?_eq_none (by show (tab _ _).length ≤ i; rw [tab_len]; exact Nat.le_of_not_lt hi)]
theorem attrH_map (l : List Attr) : (l.map hattr).map attrH = l := by
  rw [List.map_map]
  exact (List.map_congr_left fun a _ => rfl).trans (List.map_id l)
theorem kn_base {v : Node} {i : Nat} (h : RN t i v) : kn (base v) = ⟨v.kind, v.tag, v.text, v.attrs, 0⟩ := by
  rcases h.kd with k | k | k | k | k
  · have h4 := h.k4 (by omega)
    have h7 := h.k7 k
    simp [base, kn, k, h4, h7]
  · have h4 := h.k4 (by omega)
    simp [base, kn, k, h4]
  · have h3 := h.k3 k
    have hm := attrH_map v.attrs
    rw [List.map_map] at hm
    simp [base, kn, k, h3.1, hm]
  · have h4 := h.k4 (by omega)
    simp [base, kn, k, h4]
  · have h4 := h.k4 (by omega)
    simp [base, kn, k, h4]
theorem kn_bs0 (hR : RT t) {i : Nat} {v : Node} (hv : t[i]? = some v) : kn (bs0 t i) = ⟨v.kind, v.tag, v.text, v.attrs, 0⟩ := by
  simp only [bs0, hv]
  exact kn_base (hR.node i v hv)
theorem bs0_attrs (hR : RT t) (i : Nat) : (bs0 t i).attrs.length ≤ 20 := by
  simp only [bs0]
  cases hv : t[i]? with
  | none => simp [base]
  | some v =>
    simp only [base]
    split
    · simp
    split
    · simp
    split
    · simp
    split
    · simp
    · have hk := (hR.node i v hv).kd
      have := (hR.node i v hv).k3 (by omega)
      simpa using this.2.1
end
end Go.Proofs.Ytfmlpodcldhgdaa.V
set_option linter.unusedVariables false
set_option linter.unusedSimpArgs false
namespace Go.Proofs.Ytfmlpodcldhgdaa.V
open Go Go.Proofs
abbrev p_spec_grown : Pt := [(0, .lst .node), (NT, .ns .k 146 113)]
abbrev q_spec_grown : Pt := [(0, .blkx 112 [.own, .fl (.int .i64), .fl .bool]), (2000000000, .hown 0 0 .np 113), (NT, .ns .k 146 113)]
abbrev p_spec_grown_0 : Pt := [(0, .lst .node), (3, .blkx 112 [.own, .fl (.int .i64), .fl .bool]), (4, .int .i64), (NT, .ns .k 146 113), (2000000192, .hown 3 0 .np 113)]
abbrev x_spec_grown_0 : List (Xt × Pt) := [(.ex 0, [(0, .lst .node), (3, .blkx 112 [.own, .fl (.int .i64), .fl .bool]), (NT, .ns .k 146 113), (2000000192, .hown 3 0 .np 113)])]
noncomputable def m_spec_grown_0 : Tup p_spec_grown_0 → Option (Stp (Tup p_spec_grown_0) (SumT (x_spec_grown_0.map (·.2)))) := fun (x : List Node × (PUnit × Int × Bool) × Int × List KN × List (Option Nat)) => bif decide (x.2.2.1 < (↑(List.length x.1) : Int)) then Option.bind (atI x.1 x.2.2.1) fun (v : Node) => Option.bind (atI x.1 x.2.2.1) fun (v_1 : Node) => Option.bind (appL [] (Node.attrs v_1)) fun (r : List Attr) => Option.bind (some (List.length x.2.2.2.1)) fun (i : Nat) => Option.bind (some i) fun (i : Nat) => Option.bind (x.2.2.2.1 ++ [{ pl := x.2.2.1, n := { kind := Node.kind v, tag := Node.tag v, text := Node.text v, attrs := Node.attrs v, size := Node.size v }, up := none, kids := [] }])[i]? fun (h : KN) => Option.bind (appL x.2.2.2.2 [some (List.length x.2.2.2.1)]) fun (r_1 : List (Option Nat)) => some (Stp.nx (x.1, ((), x.2.1.2.1, x.2.1.2.2), IntKind.wrap .i64 (x.2.2.1 + (1 : Int)), List.set (x.2.2.2.1 ++ [{ pl := x.2.2.1, n := { kind := Node.kind v, tag := Node.tag v, text := Node.text v, attrs := Node.attrs v, size := Node.size v }, up := none, kids := [] }]) i { h with n := { kind := Node.kind (KN.n h), tag := Node.tag (KN.n h), text := Node.text (KN.n h), attrs := r, size := Node.size (KN.n h) } }, r_1)) else some (Stp.out (x.1, ((), x.2.1.2.1, x.2.1.2.2), x.2.2.2.1, x.2.2.2.2))
abbrev p_spec_grown_1_0 : Pt := [(0, .lst .node), (3, .blkx 112 [.own, .fl (.int .i64), .fl .bool]), (6, .int .i64), (7, .int .i64), (NT, .ns .k 146 113), (2000000192, .hown 3 0 .np 113)]
abbrev x_spec_grown_1_0 : List (Xt × Pt) := [(.ex 4, [(0, .lst .node), (3, .blkx 112 [.own, .fl (.int .i64), .fl .bool]), (6, .int .i64), (NT, .ns .k 146 113), (2000000192, .hown 3 0 .np 113)])]
noncomputable def m_spec_grown_1_0 : Tup p_spec_grown_1_0 → Option (Stp (Tup p_spec_grown_1_0) (SumT (x_spec_grown_1_0.map (·.2)))) := fun (x : List Node × (PUnit × Int × Bool) × Int × Int × List KN × List (Option Nat)) => Option.bind (atI x.1 x.2.2.1) fun (v : Node) => bif decide (x.2.2.2.1 < IntKind.wrap .i64 (x.2.2.1 + Node.size v)) then Option.bind (atI x.2.2.2.2.2 x.2.2.2.1) fun (x_1 : Option Nat) => Option.bind x.2.2.2.2.2[Int.toNat x.2.2.2.1]? fun (v : Option Nat) => Option.bind (atI x.2.2.2.2.2 x.2.2.1) fun (x_2 : Option Nat) => Option.bind x.2.2.2.2.2[Int.toNat x.2.2.1]? fun (v_1 : Option Nat) => Option.bind v fun (i : Nat) => Option.bind (some i) fun (i : Nat) => Option.bind x.2.2.2.2.1[i]? fun (h : KN) => Option.bind (atI x.2.2.2.2.2 x.2.2.1) fun (x_3 : Option Nat) => Option.bind x.2.2.2.2.2[Int.toNat x.2.2.1]? fun (v : Option Nat) => Option.bind (atI x.2.2.2.2.2 x.2.2.1) fun (x_4 : Option Nat) => Option.bind x.2.2.2.2.2[Int.toNat x.2.2.1]? fun (v_2 : Option Nat) => Option.bind v_2 fun (i_1 : Nat) => Option.bind (some i_1) fun (i_2 : Nat) => Option.bind (List.set x.2.2.2.2.1 i { h with n := (KN.n h), up := v_1 })[i_2]? fun (h_1 : KN) => Option.bind (atI x.2.2.2.2.2 x.2.2.2.1) fun (x_5 : Option Nat) => Option.bind x.2.2.2.2.2[Int.toNat x.2.2.2.1]? fun (v_3 : Option Nat) => Option.bind (List.set x.2.2.2.2.1 i { h with n := (KN.n h), up := v_1 })[i_2]? fun (h_2 : KN) => Option.bind (appL (KN.kids h_2) [v_3]) fun (r : List (Option Nat)) => Option.bind v fun (i_3 : Nat) => Option.bind (some i_3) fun (i_4 : Nat) => Option.bind (List.set x.2.2.2.2.1 i { h with n := (KN.n h), up := v_1 })[i_4]? fun (h_3 : KN) => bif decide (i_2 = i_4) then Option.bind (atI x.1 x.2.2.2.1) fun (v : Node) => some (Stp.nx (x.1, ((), x.2.1.2.1, x.2.1.2.2), x.2.2.1, IntKind.wrap .i64 (x.2.2.2.1 + Node.size v), List.set (List.set x.2.2.2.2.1 i { h with n := (KN.n h), up := v_1 }) i_4 (KN.wk h_3 r), x.2.2.2.2.2)) else none else some (Stp.out (x.1, ((), x.2.1.2.1, x.2.1.2.2), x.2.2.1, x.2.2.2.2.1, x.2.2.2.2.2))
abbrev p_spec_grown_1 : Pt := [(0, .lst .node), (3, .blkx 112 [.own, .fl (.int .i64), .fl .bool]), (6, .int .i64), (NT, .ns .k 146 113), (2000000192, .hown 3 0 .np 113)]
abbrev x_spec_grown_1 : List (Xt × Pt) := [(.ex 2, [(3, .blkx 112 [.own, .fl (.int .i64), .fl .bool]), (NT, .ns .k 146 113), (2000000192, .hown 3 0 .np 113)])]
noncomputable def m_spec_grown_1 : Tup p_spec_grown_1 → Option (Stp (Tup p_spec_grown_1) (SumT (x_spec_grown_1.map (·.2)))) := fun (x : List Node × (PUnit × Int × Bool) × Int × List KN × List (Option Nat)) => bif decide (x.2.2.1 < (↑(List.length x.1) : Int)) then Option.bind (loopO m_spec_grown_1_0 (x.1, ((), x.2.1.2.1, x.2.1.2.2), x.2.2.1, IntKind.wrap .i64 (x.2.2.1 + (1 : Int)), x.2.2.2.1, x.2.2.2.2)) fun (y : List Node × (PUnit × Int × Bool) × Int × List KN × List (Option Nat)) => some (Stp.nx (y.1, ((), y.2.1.2.1, y.2.1.2.2), IntKind.wrap .i64 (y.2.2.1 + (1 : Int)), y.2.2.2.1, y.2.2.2.2)) else some (Stp.out (((), x.2.1.2.1, x.2.1.2.2), x.2.2.2.1, x.2.2.2.2))
noncomputable def m_spec_grown : Tup p_spec_grown → Option (Tup q_spec_grown) := fun (x : List Node × List KN) => Option.bind (loopO m_spec_grown_0 (x.1, ((), (↑(List.length x.1) : Int), false), (0 : Int), x.2, [])) fun (y : List Node × (PUnit × Int × Bool) × List KN × List (Option Nat)) => Option.bind (loopO m_spec_grown_1 (y.1, ((), y.2.1.2.1, y.2.1.2.2), (0 : Int), y.2.2.1, y.2.2.2)) fun (y : (PUnit × Int × Bool) × List KN × List (Option Nat)) => some (((), y.1.2.1, y.1.2.2), y.2.2, y.2.1)
noncomputable def cx_spec_grown : Cx := ⟨tb, lookE [], lookS [(14, [(true, 0), (true, 1), (true, 2), (true, 3), (true, 4), (true, 5), (true, 6), (true, 7), (true, 8), (true, 9), (true, 10), (true, 11), (true, 12), (true, 13), (true, 14), (true, 15), (false, 16)]), (15, [(true, 0), (true, 1), (true, 2), (true, 3), (true, 4), (true, 5), (true, 6), (true, 7), (true, 8), (true, 9), (true, 10), (true, 11), (true, 12), (true, 13), (true, 14), (true, 15), (true, 16), (true, 17), (true, 18), (true, 19), (true, 20), (true, 21), (true, 22), (true, 23), (false, 24), (false, 25), (true, 26), (true, 27), (false, 28)])]⟩
theorem ck_spec_grown : CxOK Try.prog (cx_spec_grown) := cx_ok tb_ok .nil
noncomputable def c_spec_grown_0 : Code := loopAt (Go.Proofs.Try.f78.body.getD .skip) 0
noncomputable def l_spec_grown_0 : LEnt := ⟨p_spec_grown_0, x_spec_grown_0, loopO (m_spec_grown_0)⟩
theorem lo_spec_grown_0 : LOK Try.prog 115 0 true (l_spec_grown_0) c_spec_grown_0 := loop_ok (body := m_spec_grown_0) (L := lookL []) (ck_spec_grown) mixed (ls_ok (l := []) (by kernel_rfl) .nil) (by intro x; kernel_rfl) (fun x y h => loopO_iff.1 h)
noncomputable def c_spec_grown_1_0 : Code := loopAt (loopAt (Go.Proofs.Try.f78.body.getD .skip) 1) 0
noncomputable def l_spec_grown_1_0 : LEnt := ⟨p_spec_grown_1_0, x_spec_grown_1_0, loopO (m_spec_grown_1_0)⟩
theorem lo_spec_grown_1_0 : LOK Try.prog 115 0 true (l_spec_grown_1_0) c_spec_grown_1_0 := loop_ok (body := m_spec_grown_1_0) (L := lookL []) (ck_spec_grown) mixed (ls_ok (l := []) (by kernel_rfl) .nil) (by intro x; kernel_rfl) (fun x y h => loopO_iff.1 h)
noncomputable def c_spec_grown_1 : Code := loopAt (Go.Proofs.Try.f78.body.getD .skip) 1
noncomputable def l_spec_grown_1 : LEnt := ⟨p_spec_grown_1, x_spec_grown_1, loopO (m_spec_grown_1)⟩
theorem lo_spec_grown_1 : LOK Try.prog 115 0 true (l_spec_grown_1) c_spec_grown_1 := loop_ok (body := m_spec_grown_1) (L := lookL [(4, l_spec_grown_1_0)]) (ck_spec_grown) mixed (ls_ok (l := [(4, c_spec_grown_1_0)]) (by kernel_rfl) (.cons rfl (lo_spec_grown_1_0) .nil)) (by intro x; kernel_rfl) (fun x y h => loopO_iff.1 h)
noncomputable def e_spec_grown : Ent := ⟨0, p_spec_grown, q_spec_grown, m_spec_grown⟩
theorem ok_spec_grown : FnOK Try.prog 78 e_spec_grown := fn_ok (L := lookL [(0, l_spec_grown_0), (2, l_spec_grown_1)]) ck_spec_grown mixed Try.func78 rfl (by kernel_rfl) (by kernel_rfl) (ls_ok (l := [(0, c_spec_grown_0), (2, c_spec_grown_1)]) (by kernel_rfl) (.cons rfl (lo_spec_grown_0) (.cons rfl (lo_spec_grown_1) .nil))) (by intro x; kernel_rfl)
abbrev p_spec_knot_place : Pt := [(0, .np), (NTR, .nsr .k)]
abbrev q_spec_knot_place : Pt := [(0, .int .i64)]
abbrev p_spec_knot_place_0 : Pt := [(0, .np), (3, .int .i64), (NTR, .nsr .k)]
abbrev x_spec_knot_place_0 : List (Xt × Pt) := [(.ex 0, [(NTR, .nsr .k)]), (.rt, [(2, .int .i64), (NTR, .nsr .k)])]
noncomputable def m_spec_knot_place_0 : Tup p_spec_knot_place_0 → Option (Stp (Tup p_spec_knot_place_0) (SumT (x_spec_knot_place_0.map (·.2)))) := fun (x : Option Nat × Int × List KN) => Option.bind x.1 fun (i : Nat) => Option.bind (some i) fun (i : Nat) => Option.bind x.2.2[i]? fun (h : KN) => Option.bind (KN.up h) fun (i : Nat) => Option.bind (some i) fun (i : Nat) => Option.bind x.2.2[i]? fun (h : KN) => bif decide (x.2.1 < (↑(List.length (KN.kids h)) : Int)) then Option.bind x.1 fun (i : Nat) => Option.bind (some i) fun (i : Nat) => Option.bind x.2.2[i]? fun (h : KN) => Option.bind (KN.up h) fun (i : Nat) => Option.bind (some i) fun (i : Nat) => Option.bind x.2.2[i]? fun (h : KN) => Option.bind (atI (KN.kids h) x.2.1) fun (v : Option Nat) => bif decide (v = x.1) then some (Stp.out (Sum.inr (x.2.1, x.2.2))) else some (Stp.nx (x.1, IntKind.wrap .i64 (x.2.1 + (1 : Int)), x.2.2)) else some (Stp.out (Sum.inl x.2.2))
noncomputable def m_spec_knot_place : Tup p_spec_knot_place → Option (Tup q_spec_knot_place) := fun (x : Option Nat × List KN) => Option.bind x.1 fun (i : Nat) => Option.bind (some i) fun (i : Nat) => Option.bind x.2[i]? fun (h : KN) => bif Option.isNone (KN.up h) then some (-1 : Int) else Option.bind (loopO m_spec_knot_place_0 (x.1, (0 : Int), x.2)) fun (y : List KN ⊕ Int × List KN) => selim (fun (y : List KN) => some (-1 : Int)) (fun (y : Int × List KN) => some y.1) y
noncomputable def cx_spec_knot_place : Cx := ⟨tb, lookE [], lookS []⟩
theorem ck_spec_knot_place : CxOK Try.prog (cx_spec_knot_place) := cx_ok tb_ok .nil
noncomputable def c_spec_knot_place_0 : Code := loopAt (Go.Proofs.Try.f135.body.getD .skip) 0
noncomputable def l_spec_knot_place_0 : LEnt := ⟨p_spec_knot_place_0, x_spec_knot_place_0, loopO (m_spec_knot_place_0)⟩
theorem lo_spec_knot_place_0 : LOK Try.prog 34 0 false (l_spec_knot_place_0) c_spec_knot_place_0 := loop_ok (body := m_spec_knot_place_0) (L := lookL []) (ck_spec_knot_place) mixed (ls_ok (l := []) (by kernel_rfl) .nil) (by intro x; kernel_rfl) (fun x y h => loopO_iff.1 h)
noncomputable def e_spec_knot_place : Ent := ⟨0, p_spec_knot_place, q_spec_knot_place, m_spec_knot_place⟩
theorem ok_spec_knot_place : FnOK Try.prog 135 e_spec_knot_place := fn_ok (L := lookL [(0, l_spec_knot_place_0)]) ck_spec_knot_place mixed Try.func135 rfl (by kernel_rfl) (by kernel_rfl) (ls_ok (l := [(0, c_spec_knot_place_0)]) (by kernel_rfl) (.cons rfl (lo_spec_knot_place_0) .nil)) (by intro x; kernel_rfl)
abbrev p_spec_knot_cut : Pt := [(0, .np), (NT, .ns .k 146 113)]
abbrev q_spec_knot_cut : Pt := [(NT, .ns .k 146 113)]
noncomputable def m_spec_knot_cut : Tup p_spec_knot_cut → Option (Tup q_spec_knot_cut) := fun (x : Option Nat × List KN) => Option.bind (m_spec_knot_place (x.1, x.2)) fun (r : Int) => bif decide (r < (0 : Int)) then some x.2 else Option.bind x.1 fun (i : Nat) => Option.bind (some i) fun (i : Nat) => Option.bind x.2[i]? fun (h : KN) => Option.bind x.1 fun (i : Nat) => Option.bind (some i) fun (i : Nat) => Option.bind x.2[i]? fun (h_1 : KN) => Option.bind (KN.up h_1) fun (i : Nat) => Option.bind (some i) fun (i : Nat) => Option.bind x.2[i]? fun (h_2 : KN) => Option.bind x.2[i]? fun (n : KN) => Option.bind (subL (KN.kids n) (0 : Int) r) fun (x_1 : List (Option Nat)) => Option.bind x.1 fun (i_1 : Nat) => Option.bind (some i_1) fun (i_2 : Nat) => Option.bind x.2[i_2]? fun (h_3 : KN) => Option.bind (KN.up h_3) fun (i_3 : Nat) => Option.bind (some i_3) fun (i_4 : Nat) => Option.bind x.2[i_4]? fun (h_4 : KN) => Option.bind x.2[i_4]? fun (n : KN) => Option.bind (subL (KN.kids n) (IntKind.wrap .i64 (r + (1 : Int))) (↑(List.length (KN.kids n)) : Int)) fun (x_2 : List (Option Nat)) => Option.bind x.2[i]? fun (h_5 : KN) => Option.bind (appL [] (List.drop (Int.toNat (0 : Int)) (List.take (Int.toNat r) (KN.kids h_5)))) fun (r_1 : List (Option Nat)) => Option.bind x.2[i_4]? fun (h_6 : KN) => Option.bind (appL r_1 (List.drop (Int.toNat (IntKind.wrap .i64 (r + (1 : Int)))) (List.take (Int.toNat (↑(List.length (KN.kids n)) : Int)) (KN.kids h_6)))) fun (r : List (Option Nat)) => Option.bind (KN.up h) fun (i : Nat) => Option.bind (some i) fun (i : Nat) => Option.bind x.2[i]? fun (h : KN) => Option.bind x.1 fun (i_5 : Nat) => Option.bind (some i_5) fun (i_6 : Nat) => Option.bind (List.set x.2 i (KN.wk h r))[i_6]? fun (h_7 : KN) => some (List.set (List.set x.2 i (KN.wk h r)) i_6 { h_7 with n := (KN.n h_7), up := none })
noncomputable def cx_spec_knot_cut : Cx := ⟨tb, lookE [(135, e_spec_knot_place)], lookS [(2, [(true, 0), (true, 1), (true, 2), (true, 3), (true, 5), (true, 6), (true, 7), (true, 8), (true, 9), (true, 10), (true, 11), (true, 12), (true, 13), (true, 15), (true, 16), (true, 17), (true, 18), (true, 19), (true, 20), (true, 21), (true, 22), (true, 23), (true, 24), (false, 4), (false, 14), (false, 25), (true, 26), (true, 27), (false, 28)])]⟩
theorem ck_spec_knot_cut : CxOK Try.prog (cx_spec_knot_cut) := cx_ok tb_ok (.cons ok_spec_knot_place Try.call135 .nil)
noncomputable def e_spec_knot_cut : Ent := ⟨0, p_spec_knot_cut, q_spec_knot_cut, m_spec_knot_cut⟩
theorem ok_spec_knot_cut : FnOK Try.prog 109 e_spec_knot_cut := fn_ok (L := lookL []) ck_spec_knot_cut mixed Try.func109 rfl (by kernel_rfl) (by kernel_rfl) (ls_ok (l := []) (by kernel_rfl) .nil) (by intro x; kernel_rfl)
abbrev p_spec_knot_put : Pt := [(0, .np), (1, .int .i64), (2, .np), (NT, .ns .k 146 113)]
abbrev q_spec_knot_put : Pt := [(NT, .ns .k 146 113)]
noncomputable def m_spec_knot_put : Tup p_spec_knot_put → Option (Tup q_spec_knot_put) := fun (x : Option Nat × Int × Option Nat × List KN) => Option.bind (m_spec_knot_cut (x.2.2.1, x.2.2.2)) fun (r : List KN) => Option.bind x.1 fun (i : Nat) => Option.bind (some i) fun (i : Nat) => Option.bind r[i]? fun (h : KN) => Option.bind r[i]? fun (n : KN) => Option.bind (subL (KN.kids n) (0 : Int) x.2.1) fun (x_1 : List (Option Nat)) => Option.bind r[i]? fun (h : KN) => Option.bind (appL [] (List.drop (Int.toNat (0 : Int)) (List.take (Int.toNat x.2.1) (KN.kids h)))) fun (r_1 : List (Option Nat)) => Option.bind (appL r_1 [x.2.2.1]) fun (r_2 : List (Option Nat)) => Option.bind x.1 fun (i : Nat) => Option.bind (some i) fun (i : Nat) => Option.bind r[i]? fun (h : KN) => Option.bind r[i]? fun (n : KN) => Option.bind (subL (KN.kids n) x.2.1 (↑(List.length (KN.kids n)) : Int)) fun (x_2 : List (Option Nat)) => Option.bind r[i]? fun (h : KN) => Option.bind (appL r_2 (List.drop (Int.toNat x.2.1) (List.take (Int.toNat (↑(List.length (KN.kids n)) : Int)) (KN.kids h)))) fun (r_3 : List (Option Nat)) => Option.bind x.1 fun (i : Nat) => Option.bind (some i) fun (i : Nat) => Option.bind r[i]? fun (h : KN) => Option.bind x.2.2.1 fun (i_1 : Nat) => Option.bind (some i_1) fun (i_2 : Nat) => Option.bind (List.set r i (KN.wk h r_3))[i_2]? fun (h_1 : KN) => some (List.set (List.set r i (KN.wk h r_3)) i_2 { h_1 with n := (KN.n h_1), up := x.1 })
noncomputable def cx_spec_knot_put : Cx := ⟨tb, lookE [(109, e_spec_knot_cut)], lookS []⟩
theorem ck_spec_knot_put : CxOK Try.prog (cx_spec_knot_put) := cx_ok tb_ok (.cons ok_spec_knot_cut Try.call109 .nil)
noncomputable def e_spec_knot_put : Ent := ⟨0, p_spec_knot_put, q_spec_knot_put, m_spec_knot_put⟩
theorem ok_spec_knot_put : FnOK Try.prog 136 e_spec_knot_put := fn_ok (L := lookL []) ck_spec_knot_put mixed Try.func136 rfl (by kernel_rfl) (by kernel_rfl) (ls_ok (l := []) (by kernel_rfl) .nil) (by intro x; kernel_rfl)
abbrev p_spec_knot_listed : Pt := [(0, .np), (1, .own .node 44), (2, .own .int 3), (NT, .ns .k 146 113)]
abbrev q_spec_knot_listed : Pt := [(0, .own .node 44), (1002, .own .int 3), (NT, .ns .k 146 113)]
abbrev p_spec_knot_listed_0 : Pt := [(0, .np), (1, .own .node 44), (2, .own .int 3), (8, .int .i64), (9, .int .i64), (NT, .ns .k 146 113)]
abbrev x_spec_knot_listed_0 : List (Xt × Pt) := [(.ex 0, [(1, .own .node 44), (2, .own .int 3), (8, .int .i64), (NT, .ns .k 146 113)])]
noncomputable def m_spec_knot_listed_0 (m_spec_knot_listed : Tup p_spec_knot_listed → Option (Tup q_spec_knot_listed)) : Tup p_spec_knot_listed_0 → Option (Stp (Tup p_spec_knot_listed_0) (SumT (x_spec_knot_listed_0.map (·.2)))) := fun (x : Option Nat × List Node × List Int × Int × Int × List KN) => Option.bind x.1 fun (i : Nat) => Option.bind (some i) fun (i : Nat) => Option.bind x.2.2.2.2.2[i]? fun (h : KN) => Option.bind x.2.2.2.2.2[i]? fun (h : KN) => bif decide (x.2.2.2.2.1 < (↑(List.length (KN.kids h)) : Int)) then Option.bind x.1 fun (i : Nat) => Option.bind (some i) fun (i : Nat) => Option.bind x.2.2.2.2.2[i]? fun (h : KN) => Option.bind x.2.2.2.2.2[i]? fun (h : KN) => Option.bind (atI (KN.kids h) x.2.2.2.2.1) fun (x_1 : Option Nat) => Option.bind x.2.2.2.2.2[i]? fun (h : KN) => Option.bind (KN.kids h)[Int.toNat x.2.2.2.2.1]? fun (a : Option Nat) => Option.bind (m_spec_knot_listed (a, x.2.1, x.2.2.1, x.2.2.2.2.2)) fun (r : List Node × List Int × List KN) => some (Stp.nx (x.1, r.1, r.2.1, x.2.2.2.1, IntKind.wrap .i64 (x.2.2.2.2.1 + (1 : Int)), r.2.2)) else some (Stp.out (x.2.1, x.2.2.1, x.2.2.2.1, x.2.2.2.2.2))
noncomputable def b_spec_knot_listed (m_spec_knot_listed : Tup p_spec_knot_listed → Option (Tup q_spec_knot_listed)) : Tup p_spec_knot_listed → Option (Tup q_spec_knot_listed) := fun (x : Option Nat × List Node × List Int × List KN) => Option.bind x.1 fun (i : Nat) => Option.bind (some i) fun (i : Nat) => Option.bind x.2.2.2[i]? fun (h : KN) => bif decide ((0 : Int) ≤ KN.pl h) then Option.bind x.1 fun (i : Nat) => Option.bind (some i) fun (i : Nat) => Option.bind x.2.2.2[i]? fun (h : KN) => bif decide (KN.pl h < (↑(List.length x.2.2.1) : Int)) then Option.bind x.1 fun (i : Nat) => Option.bind (some i) fun (i : Nat) => Option.bind x.2.2.2[i]? fun (h : KN) => Option.bind (atI x.2.2.1 (KN.pl h)) fun (x_1 : Int) => Option.bind x.2.2.1[Int.toNat (KN.pl h)]? fun (v : Int) => Option.bind x.1 fun (i : Nat) => Option.bind (some i) fun (i : Nat) => Option.bind x.2.2.2[i]? fun (h_1 : KN) => Option.bind (appL x.2.1 [(KN.n h_1)]) fun (r : List Node) => Option.bind (loopO (m_spec_knot_listed_0 m_spec_knot_listed) (x.1, r, List.set x.2.2.1 (Int.toNat (KN.pl h)) (↑(List.length x.2.1) : Int), (↑(List.length x.2.1) : Int), (0 : Int), x.2.2.2)) fun (y : List Node × List Int × Int × List KN) => Option.bind (atI y.1 y.2.2.1) fun (x : Node) => Option.bind y.1[Int.toNat y.2.2.1]? fun (v : Node) => some (List.set y.1 (Int.toNat y.2.2.1) { v with size := IntKind.wrap .i64 ((↑(List.length y.1) : Int) - y.2.2.1) }, y.2.1, y.2.2.2) else Option.bind x.1 fun (i : Nat) => Option.bind (some i) fun (i : Nat) => Option.bind x.2.2.2[i]? fun (h : KN) => Option.bind (appL x.2.1 [(KN.n h)]) fun (r : List Node) => Option.bind (loopO (m_spec_knot_listed_0 m_spec_knot_listed) (x.1, r, x.2.2.1, (↑(List.length x.2.1) : Int), (0 : Int), x.2.2.2)) fun (y : List Node × List Int × Int × List KN) => Option.bind (atI y.1 y.2.2.1) fun (x : Node) => Option.bind y.1[Int.toNat y.2.2.1]? fun (v : Node) => some (List.set y.1 (Int.toNat y.2.2.1) { v with size := IntKind.wrap .i64 ((↑(List.length y.1) : Int) - y.2.2.1) }, y.2.1, y.2.2.2) else Option.bind x.1 fun (i : Nat) => Option.bind (some i) fun (i : Nat) => Option.bind x.2.2.2[i]? fun (h : KN) => Option.bind (appL x.2.1 [(KN.n h)]) fun (r : List Node) => Option.bind (loopO (m_spec_knot_listed_0 m_spec_knot_listed) (x.1, r, x.2.2.1, (↑(List.length x.2.1) : Int), (0 : Int), x.2.2.2)) fun (y : List Node × List Int × Int × List KN) => Option.bind (atI y.1 y.2.2.1) fun (x : Node) => Option.bind y.1[Int.toNat y.2.2.1]? fun (v : Node) => some (List.set y.1 (Int.toNat y.2.2.1) { v with size := IntKind.wrap .i64 ((↑(List.length y.1) : Int) - y.2.2.1) }, y.2.1, y.2.2.2)
noncomputable def m_spec_knot_listed : Nat → Tup p_spec_knot_listed → Option (Tup q_spec_knot_listed)
  | 0 => fun _ => none
  | n + 1 => b_spec_knot_listed (m_spec_knot_listed n)
noncomputable def cx_spec_knot_listed (n : Nat) : Cx := ⟨tb, lookE [(80, ⟨2003, p_spec_knot_listed, q_spec_knot_listed, m_spec_knot_listed n⟩)], lookS []⟩
theorem ck_spec_knot_listed (n : Nat) (ih0 : FnOK Try.prog 80 ⟨2003, p_spec_knot_listed, q_spec_knot_listed, m_spec_knot_listed n⟩) : CxOK Try.prog (cx_spec_knot_listed n) := cx_ok tb_ok (.cons ih0 Try.call80 .nil)
noncomputable def c_spec_knot_listed_0 : Code := loopAt (Go.Proofs.Try.f80.body.getD .skip) 0
noncomputable def l_spec_knot_listed_0 (n : Nat) : LEnt := ⟨p_spec_knot_listed_0, x_spec_knot_listed_0, loopO (m_spec_knot_listed_0 (m_spec_knot_listed n))⟩
theorem lo_spec_knot_listed_0 (n : Nat) (ih0 : FnOK Try.prog 80 ⟨2003, p_spec_knot_listed, q_spec_knot_listed, m_spec_knot_listed n⟩) : LOK Try.prog 70 2003 true (l_spec_knot_listed_0 n) c_spec_knot_listed_0 := loop_ok (body := m_spec_knot_listed_0 (m_spec_knot_listed n)) (L := lookL []) (ck_spec_knot_listed n ih0) mixed (ls_ok (l := []) (by kernel_rfl) .nil) (by intro x; kernel_rfl) (fun x y h => loopO_iff.1 h)
theorem st_spec_knot_listed (n : Nat) (ih0 : FnOK Try.prog 80 ⟨2003, p_spec_knot_listed, q_spec_knot_listed, m_spec_knot_listed n⟩) : FnOK Try.prog 80 ⟨2003, p_spec_knot_listed, q_spec_knot_listed, m_spec_knot_listed (n + 1)⟩ := fn_ok (ent := ⟨2003, p_spec_knot_listed, q_spec_knot_listed, m_spec_knot_listed (n + 1)⟩) (L := lookL [(0, l_spec_knot_listed_0 n)]) (ck_spec_knot_listed n ih0) mixed Try.func80 rfl (by kernel_rfl) (by kernel_rfl) (ls_ok (l := [(0, c_spec_knot_listed_0)]) (by kernel_rfl) (.cons rfl (lo_spec_knot_listed_0 n ih0) .nil)) (by intro x; kernel_rfl)
theorem ok0_spec_knot_listed : ∀ n, FnOK Try.prog 80 ⟨2003, p_spec_knot_listed, q_spec_knot_listed, m_spec_knot_listed n⟩
  | 0 => fun x r h => by cases h
  | n + 1 => (fun ih => st_spec_knot_listed n ih) (ok0_spec_knot_listed n)
noncomputable def e_spec_knot_listed : Ent := ⟨2003, p_spec_knot_listed, q_spec_knot_listed, m_spec_knot_listed big⟩
theorem ok_spec_knot_listed : FnOK Try.prog 80 e_spec_knot_listed := (ok0_spec_knot_listed big)
abbrev p_spec_forest_chosen : Pt := [(0, .blkx 112 [.own, .fl (.int .i64), .fl .bool]), (1, .lst .int), (2000000000, .hown 0 0 .np 113)]
abbrev q_spec_forest_chosen : Pt := [(0, .own .np 113), (1, .bool), (1000, .blkx 112 [.own, .fl (.int .i64), .fl .bool]), (2000064000, .hown 1000 0 .np 113)]
abbrev p_spec_forest_chosen_0_0 : Pt := [(0, .blkx 112 [.own, .fl (.int .i64), .fl .bool]), (1, .lst .int), (6, .own .np 113), (7, .int .i64), (8, .int .i64), (2000000000, .hown 0 0 .np 113)]
abbrev x_spec_forest_chosen_0_0 : List (Xt × Pt) := [(.ex 2, [(0, .blkx 112 [.own, .fl (.int .i64), .fl .bool]), (1, .lst .int), (6, .own .np 113), (7, .int .i64), (2000000000, .hown 0 0 .np 113)]), (.rt, [(0, .blkx 112 [.own, .fl (.int .i64), .fl .bool]), (4, .own .np 113), (5, .bool), (2000000000, .hown 0 0 .np 113)])]
noncomputable def m_spec_forest_chosen_0_0 : Tup p_spec_forest_chosen_0_0 → Option (Stp (Tup p_spec_forest_chosen_0_0) (SumT (x_spec_forest_chosen_0_0.map (·.2)))) := fun (x : (PUnit × Int × Bool) × List Int × List (Option Nat) × Int × Int × List (Option Nat)) => bif decide (x.2.2.2.2.1 < x.2.2.2.1) then Option.bind (atI x.2.1 x.2.2.2.2.1) fun (v : Int) => Option.bind (atI x.2.1 x.2.2.2.1) fun (v_1 : Int) => bif decide (v = v_1) then some (Stp.out (Sum.inr (((), x.1.2.1, x.1.2.2), [], false, x.2.2.2.2.2))) else some (Stp.nx (((), x.1.2.1, x.1.2.2), x.2.1, x.2.2.1, x.2.2.2.1, IntKind.wrap .i64 (x.2.2.2.2.1 + (1 : Int)), x.2.2.2.2.2)) else some (Stp.out (Sum.inl (((), x.1.2.1, x.1.2.2), x.2.1, x.2.2.1, x.2.2.2.1, x.2.2.2.2.2)))
abbrev p_spec_forest_chosen_0 : Pt := [(0, .blkx 112 [.own, .fl (.int .i64), .fl .bool]), (1, .lst .int), (6, .own .np 113), (7, .int .i64), (2000000000, .hown 0 0 .np 113)]
abbrev x_spec_forest_chosen_0 : List (Xt × Pt) := [(.ex 0, [(0, .blkx 112 [.own, .fl (.int .i64), .fl .bool]), (6, .own .np 113), (2000000000, .hown 0 0 .np 113)]), (.rt, [(0, .blkx 112 [.own, .fl (.int .i64), .fl .bool]), (4, .own .np 113), (5, .bool), (2000000000, .hown 0 0 .np 113)])]
noncomputable def m_spec_forest_chosen_0 : Tup p_spec_forest_chosen_0 → Option (Stp (Tup p_spec_forest_chosen_0) (SumT (x_spec_forest_chosen_0.map (·.2)))) := fun (x : (PUnit × Int × Bool) × List Int × List (Option Nat) × Int × List (Option Nat)) => bif decide (x.2.2.2.1 < (↑(List.length x.2.1) : Int)) then Option.bind (atI x.2.1 x.2.2.2.1) fun (v : Int) => bif decide (v < (1 : Int)) then some (Stp.out (Sum.inr (((), x.1.2.1, x.1.2.2), [], false, x.2.2.2.2))) else Option.bind (atI x.2.1 x.2.2.2.1) fun (v : Int) => bif decide ((↑(List.length x.2.2.2.2) : Int) ≤ v) then some (Stp.out (Sum.inr (((), x.1.2.1, x.1.2.2), [], false, x.2.2.2.2))) else Option.bind (loopO m_spec_forest_chosen_0_0 (((), x.1.2.1, x.1.2.2), x.2.1, x.2.2.1, x.2.2.2.1, (0 : Int), x.2.2.2.2)) fun (y : (PUnit × Int × Bool) × List Int × List (Option Nat) × Int × List (Option Nat) ⊕ (PUnit × Int × Bool) × List (Option Nat) × Bool × List (Option Nat)) => selim (fun (y : (PUnit × Int × Bool) × List Int × List (Option Nat) × Int × List (Option Nat)) => Option.bind (atI y.2.1 y.2.2.2.1) fun (v : Int) => Option.bind (atI y.2.2.2.2 v) fun (x : Option Nat) => Option.bind y.2.2.2.2[Int.toNat v]? fun (v : Option Nat) => Option.bind (appL y.2.2.1 [v]) fun (r : List (Option Nat)) => some (Stp.nx (((), y.1.2.1, y.1.2.2), y.2.1, r, IntKind.wrap .i64 (y.2.2.2.1 + (1 : Int)), y.2.2.2.2))) (fun (y : (PUnit × Int × Bool) × List (Option Nat) × Bool × List (Option Nat)) => some (Stp.out (Sum.inr (((), y.1.2.1, y.1.2.2), y.2.1, y.2.2.1, y.2.2.2)))) y else some (Stp.out (Sum.inl (((), x.1.2.1, x.1.2.2), x.2.2.1, x.2.2.2.2)))
noncomputable def m_spec_forest_chosen : Tup p_spec_forest_chosen → Option (Tup q_spec_forest_chosen) := fun (x : (PUnit × Int × Bool) × List Int × List (Option Nat)) => Option.bind (loopO m_spec_forest_chosen_0 (((), x.1.2.1, x.1.2.2), x.2.1, [], (0 : Int), x.2.2)) fun (y : (PUnit × Int × Bool) × List (Option Nat) × List (Option Nat) ⊕ (PUnit × Int × Bool) × List (Option Nat) × Bool × List (Option Nat)) => selim (fun (y : (PUnit × Int × Bool) × List (Option Nat) × List (Option Nat)) => some (y.2.1, true, ((), y.1.2.1, y.1.2.2), y.2.2)) (fun (y : (PUnit × Int × Bool) × List (Option Nat) × Bool × List (Option Nat)) => some (y.2.1, y.2.2.1, ((), y.1.2.1, y.1.2.2), y.2.2.2)) y
noncomputable def cx_spec_forest_chosen : Cx := ⟨tb, lookE [], lookS [(5, [(true, 0), (true, 1), (true, 2), (true, 3), (true, 4), (true, 5), (true, 6), (true, 7), (true, 8), (true, 9), (true, 10), (true, 11), (true, 12), (true, 13), (true, 14), (true, 15), (true, 16)]), (10, [(true, 0), (true, 1), (true, 2), (true, 3), (true, 4), (true, 5), (true, 6), (true, 7), (true, 8)]), (12, [(true, 0), (true, 1), (true, 2), (true, 3), (true, 4), (true, 5), (true, 6), (true, 7), (true, 8), (true, 9), (true, 10), (false, 11), (false, 12), (true, 13)])]⟩
theorem ck_spec_forest_chosen : CxOK Try.prog (cx_spec_forest_chosen) := cx_ok tb_ok .nil
noncomputable def c_spec_forest_chosen_0_0 : Code := loopAt (loopAt (Go.Proofs.Try.f107.body.getD .skip) 0) 0
noncomputable def l_spec_forest_chosen_0_0 : LEnt := ⟨p_spec_forest_chosen_0_0, x_spec_forest_chosen_0_0, loopO (m_spec_forest_chosen_0_0)⟩
theorem lo_spec_forest_chosen_0_0 : LOK Try.prog 60 1 false (l_spec_forest_chosen_0_0) c_spec_forest_chosen_0_0 := loop_ok (body := m_spec_forest_chosen_0_0) (L := lookL []) (ck_spec_forest_chosen) mixed (ls_ok (l := []) (by kernel_rfl) .nil) (by intro x; kernel_rfl) (fun x y h => loopO_iff.1 h)
noncomputable def c_spec_forest_chosen_0 : Code := loopAt (Go.Proofs.Try.f107.body.getD .skip) 0
noncomputable def l_spec_forest_chosen_0 : LEnt := ⟨p_spec_forest_chosen_0, x_spec_forest_chosen_0, loopO (m_spec_forest_chosen_0)⟩
theorem lo_spec_forest_chosen_0 : LOK Try.prog 60 1 false (l_spec_forest_chosen_0) c_spec_forest_chosen_0 := loop_ok (body := m_spec_forest_chosen_0) (L := lookL [(2, l_spec_forest_chosen_0_0)]) (ck_spec_forest_chosen) mixed (ls_ok (l := [(2, c_spec_forest_chosen_0_0)]) (by kernel_rfl) (.cons rfl (lo_spec_forest_chosen_0_0) .nil)) (by intro x; kernel_rfl) (fun x y h => loopO_iff.1 h)
noncomputable def e_spec_forest_chosen : Ent := ⟨1, p_spec_forest_chosen, q_spec_forest_chosen, m_spec_forest_chosen⟩
theorem ok_spec_forest_chosen : FnOK Try.prog 107 e_spec_forest_chosen := fn_ok (L := lookL [(0, l_spec_forest_chosen_0)]) ck_spec_forest_chosen mixed Try.func107 rfl (by kernel_rfl) (by kernel_rfl) (ls_ok (l := [(0, c_spec_forest_chosen_0)]) (by kernel_rfl) (.cons rfl (lo_spec_forest_chosen_0) .nil)) (by intro x; kernel_rfl)
abbrev p_spec_are : Pt := [(0, .lst .np), (NTR, .nsr .k)]
abbrev q_spec_are : Pt := [(0, .bool)]
abbrev p_spec_are_0 : Pt := [(0, .lst .np), (3, .int .i64), (NTR, .nsr .k)]
abbrev x_spec_are_0 : List (Xt × Pt) := [(.ex 0, [(NTR, .nsr .k)]), (.rt, [(2, .bool), (NTR, .nsr .k)])]
noncomputable def m_spec_are_0 : Tup p_spec_are_0 → Option (Stp (Tup p_spec_are_0) (SumT (x_spec_are_0.map (·.2)))) := fun (x : List (Option Nat) × Int × List KN) => bif decide (x.2.1 < (↑(List.length x.1) : Int)) then Option.bind (atI x.1 x.2.1) fun (v : Option Nat) => Option.bind v fun (i : Nat) => Option.bind (some i) fun (i : Nat) => Option.bind x.2.2[i]? fun (h : KN) => bif decide (Node.kind (KN.n h) ≠ (3 : Int)) then some (Stp.out (Sum.inr (false, x.2.2))) else some (Stp.nx (x.1, IntKind.wrap .i64 (x.2.1 + (1 : Int)), x.2.2)) else some (Stp.out (Sum.inl x.2.2))
noncomputable def m_spec_are : Tup p_spec_are → Option (Tup q_spec_are) := fun (x : List (Option Nat) × List KN) => Option.bind (loopO m_spec_are_0 (x.1, (0 : Int), x.2)) fun (y : List KN ⊕ Bool × List KN) => selim (fun (y : List KN) => some true) (fun (y : Bool × List KN) => some y.1) y
noncomputable def cx_spec_are : Cx := ⟨tb, lookE [], lookS []⟩
theorem ck_spec_are : CxOK Try.prog (cx_spec_are) := cx_ok tb_ok .nil
noncomputable def c_spec_are_0 : Code := loopAt (Go.Proofs.Try.f110.body.getD .skip) 0
noncomputable def l_spec_are_0 : LEnt := ⟨p_spec_are_0, x_spec_are_0, loopO (m_spec_are_0)⟩
theorem lo_spec_are_0 : LOK Try.prog 19 0 false (l_spec_are_0) c_spec_are_0 := loop_ok (body := m_spec_are_0) (L := lookL []) (ck_spec_are) mixed (ls_ok (l := []) (by kernel_rfl) .nil) (by intro x; kernel_rfl) (fun x y h => loopO_iff.1 h)
noncomputable def e_spec_are : Ent := ⟨0, p_spec_are, q_spec_are, m_spec_are⟩
theorem ok_spec_are : FnOK Try.prog 110 e_spec_are := fn_ok (L := lookL [(0, l_spec_are_0)]) ck_spec_are mixed Try.func110 rfl (by kernel_rfl) (by kernel_rfl) (ls_ok (l := [(0, c_spec_are_0)]) (by kernel_rfl) (.cons rfl (lo_spec_are_0) .nil)) (by intro x; kernel_rfl)
end Go.Proofs.Ytfmlpodcldhgdaa.V
set_option linter.unusedVariables false
set_option linter.unusedSimpArgs false
namespace Go.Proofs.Ytfmlpodcldhgdaa.V
open Go
def Fo.kn1 (F : Fo) (P : Nat → Int × Node) (i : Nat) : KN := ⟨(P i).1, (P i).2, F.up i, (F.kids i).map some⟩
def Fo.kst (F : Fo) (P : Nat → Int × Node) : List KN := tab F.m (F.kn1 P)
def nd0 (t : List Node) (i : Nat) : Node := (t[i]?).getD ⟨0, [], [], [], 0⟩
def P0 (t : List Node) (i : Nat) : Int × Node := ((i : Int), nd0 t i)
def Fo.addK (F : Fo) (p : Nat) (l : List Nat) : Fo := ⟨F.m, fun i => if i ∈ l then some p else F.up i, fun i => if i = p then F.kids p ++ l else F.kids i⟩
def FZ (k : Nat) : Fo := ⟨k, fun _ => none, fun _ => []⟩
def GF (t : List Node) (k : Nat) : Fo := ⟨t.length, fun i => (par t i).bind fun p => if p < k then some p else none, fun i => if i < k then kidsN t i else []⟩
section
variable {F G : Fo} {P : Nat → Int × Node} {t : List Node} {i p c : Nat} {l : List Nat}
theorem Fo.kget (h : i < F.m) : (F.kst P)[i]? = some (F.kn1 P i) := tab_get h
theorem Fo.klen : (F.kst P).length = F.m := tab_len
theorem addK_nil : F.addK p [] = F := by
  cases F
  simp only [Fo.addK, List.not_mem_nil, if_false, List.append_nil]
  congr 1
  funext i
  split <;> simp [*]
theorem addK_cons : (F.addK p [c]).addK p l = F.addK p (c :: l) := by
  simp only [Fo.addK, if_true]
  congr 1
  · funext i
    by_cases h : i ∈ l
    · simp [h]
    · simp [h]
  · funext i
    split
    · simp
    · rfl
theorem kst_ext (h : F.m = G.m) (h1 : ∀ i, i < F.m → F.up i = G.up i) (h2 : ∀ i, i < F.m → F.kids i = G.kids i) : F.kst P = G.kst P := by
  unfold Fo.kst
  rw [← h]
  exact tab_ext fun i hi => by simp only [Fo.kn1, h1 i hi, h2 i hi]
end
theorem grown0 {t : List Node} (hR : RT t) (a : Int) (b : Bool) : ∀ d k : Nat, t.length - k = d → k ≤ t.length →
    loopO m_spec_grown_0 (t, ((), a, b), (k : Int), (FZ k).kst (P0 t), (List.range k).map some) = some (t, ((), a, b), (FZ t.length).kst (P0 t), (List.range t.length).map some) := by
  have hlen := hR.len
  intro d
  induction d with
  | zero =>
    intro k hd hk
    obtain rfl : k = t.length := by omega
    refine loopO_out ?_
    simp only [m_spec_grown_0, cond_dec]
    rw [if_neg (by omega)]
  | succ d ih =>
    intro k hd hk
    obtain ⟨v, hv⟩ := get_lt (l := t) (k := k) (by omega)
    have hat : v.attrs.length ≤ 20 := by
      have hN := hR.node k v hv
      rcases hN.kd with h | h | h | h | h
      · have := hN.k4 (by omega); rw [this.2]; simp
      · have := hN.k4 (by omega); rw [this.2]; simp
      · exact (hN.k3 h).2.1
      · have := hN.k4 (by omega); rw [this.2]; simp
      · have := hN.k4 (by omega); rw [this.2]; simp
    have step : m_spec_grown_0 (t, ((), a, b), (k : Int), (FZ k).kst (P0 t), (List.range k).map some) = some (.nx (t, ((), a, b), ((k + 1 : Nat) : Int), (FZ (k + 1)).kst (P0 t), (List.range (k + 1)).map some)) := by
      have hl : ((FZ k).kst (P0 t)).length = k := Fo.klen
      have hg : ∀ e : KN, ((FZ k).kst (P0 t) ++ [e])[k]? = some e := fun e => by
        rw [List.getElem?_append_right (by omega), hl]; simp
      simp only [m_spec_grown_0, cond_dec, atI_nat, hv, bind_some, hl]
      rw [if_pos (by omega), appL_some (by simp; omega)]
      simp only [bind_some, hg]
      rw [appL_some (by simp; omega)]
      simp only [bind_some]
      rw [w64 (by omega) (by omega), List.set_append_right _ _ (by omega), hl]
      simp only [Nat.sub_self, List.set_cons_zero, List.nil_append]
      have e1 : (FZ k).kst (P0 t) ++ [⟨(k : Int), v, none, []⟩] = (FZ (k + 1)).kst (P0 t) := by
        unfold Fo.kst
        rw [show (FZ k).m = k from rfl, tab_snoc]
        refine tab_ext fun i hi => ?_
        by_cases e : i = k
        · subst e
          simp only [upd, if_true, Fo.kn1, FZ, P0, nd0, hv]
          rfl
        · simp only [upd, if_neg e]
          rfl
      have e2 : (List.range k).map some ++ [some k] = (List.range (k + 1)).map some := by rw [List.range_succ]; simp
      rw [e2]
      have e3 := e1
      cases v
      simp only at e3 ⊢
      rw [e3]
      rfl
    rw [loopO_nx step]
    exact ih (k + 1) (by omega) (by omega)
theorem grown1i {t : List Node} (hR : RT t) (a : Int) (b : Bool) {k : Nat} (hk : k < t.length) : ∀ (f c : Nat) (F : Fo), F.m = t.length → k < c → c ≤ k + sz t k → k + sz t k ≤ c + f → (F.kids k).length + f ≤ 1000 →
    loopO m_spec_grown_1_0 (t, ((), a, b), (k : Int), (c : Int), F.kst (P0 t), (List.range t.length).map some) = some (t, ((), a, b), (k : Int), (F.addK k (kidsF t f c (k + sz t k))).kst (P0 t), (List.range t.length).map some) := by
  have hlen := hR.len
  have hle := hR.le hk
  obtain ⟨v, hv, hvs, _, _⟩ := hR.lam.ok k (Nat.zero_le _) hk
  intro f
  induction f with
  | zero =>
    intro c F hm h1 h2 h3 h4
    refine loopO_out ?_
    simp only [m_spec_grown_1_0, cond_dec, atI_nat, hv, bind_some]
    rw [w64 (by omega) (by omega), if_neg (by omega), kidsF, addK_nil]
  | succ f ih =>
    intro c F hm h1 h2 h3 h4
    by_cases hc : c < k + sz t k
    · obtain ⟨w, hw, hws, hw1, hw2⟩ := (hR.L hk).ok c (by omega) hc
      have hr : ∀ i, i < t.length → ((List.range t.length).map some)[i]? = some (some i) := fun i hi => by simp [hi]
      have hgc : (F.kst (P0 t))[c]? = some (F.kn1 (P0 t) c) := Fo.kget (by omega)
      have hgk : ∀ e : KN, ((F.kst (P0 t)).set c e)[k]? = some (F.kn1 (P0 t) k) := fun e => by
        rw [List.getElem?_set_ne (by omega)]; exact Fo.kget (by omega)
      have step : m_spec_grown_1_0 (t, ((), a, b), (k : Int), (c : Int), F.kst (P0 t), (List.range t.length).map some) = some (.nx (t, ((), a, b), (k : Int), ((c + sz t c : Nat) : Int), (F.addK k [c]).kst (P0 t), (List.range t.length).map some)) := by
        simp only [m_spec_grown_1_0, cond_dec, atI_nat, hv, hw, bind_some, Int.toNat_natCast, hr c (by omega), hr k (by omega), hgc, hgk]
        rw [w64 (by omega) (by omega), if_pos (by omega), appL_some (by simp [Fo.kn1]; omega)]
        simp only [bind_some]
        rw [if_pos trivial, hws, w64 (by omega) (by omega)]
        have e : ((F.kst (P0 t)).set c ⟨(F.kn1 (P0 t) c).pl, (F.kn1 (P0 t) c).n, some k, (F.kn1 (P0 t) c).kids⟩).set k ((F.kn1 (P0 t) k).wk ((F.kn1 (P0 t) k).kids ++ [some c])) = (F.addK k [c]).kst (P0 t) := by
          unfold Fo.kst
          rw [tab_set (by omega), tab_set (by omega)]
          refine tab_ext fun i hi => ?_
          by_cases e1 : i = k
          · subst e1
            have : i ≠ c := by omega
            simp [upd, Fo.kn1, Fo.addK, KN.wk, this]
          · by_cases e2 : i = c
            · subst e2
              simp [upd, e1, Fo.kn1, Fo.addK]
            · simp [upd, e1, e2, Fo.kn1, Fo.addK]
        rw [e]
        rfl
      have h' := ih (c + sz t c) (F.addK k [c]) hm (by omega) (by omega) (by omega) (by simp [Fo.addK]; omega)
      rw [loopO_nx step, h', addK_cons, kidsF, if_pos hc]
    · refine loopO_out ?_
      simp only [m_spec_grown_1_0, cond_dec, atI_nat, hv, bind_some]
      rw [w64 (by omega) (by omega), if_neg (by omega), kidsF, if_neg hc, addK_nil]
theorem grown1 {t : List Node} (hR : RT t) (a : Int) (b : Bool) : ∀ d k : Nat, t.length - k = d → k ≤ t.length →
    loopO m_spec_grown_1 (t, ((), a, b), (k : Int), (GF t k).kst (P0 t), (List.range t.length).map some) = some (((), a, b), (FT t).kst (P0 t), (List.range t.length).map some) := by
  have hlen := hR.len
  intro d
  induction d with
  | zero =>
    intro k hd hk
    obtain rfl : k = t.length := by omega
    refine loopO_out ?_
    simp only [m_spec_grown_1, cond_dec]
    rw [if_neg (by omega)]
    have e : (GF t t.length).kst (P0 t) = (FT t).kst (P0 t) := kst_ext rfl (fun i hi => by
      have hi' : i < t.length := hi
      simp only [GF, FT, if_pos hi']
      cases h : par t i with
      | none => rfl
      | some p => have := par_some h; simp only [Option.bind_some]; rw [if_pos (by omega)]) (fun i hi => rfl)
    rw [e]
  | succ d ih =>
    intro k hd hk
    have hk' : k < t.length := by omega
    have hle := hR.le hk'
    have h1 := hR.sz1 hk'
    have step : m_spec_grown_1 (t, ((), a, b), (k : Int), (GF t k).kst (P0 t), (List.range t.length).map some) = some (.nx (t, ((), a, b), ((k + 1 : Nat) : Int), (GF t (k + 1)).kst (P0 t), (List.range t.length).map some)) := by
      have h := grown1i hR a b hk' (sz t k) (k + 1) (GF t k) rfl (by omega) (by omega) (by omega) (by simp [GF]; omega)
      have e : ((GF t k).addK k (kidsF t (sz t k) (k + 1) (k + sz t k))).kst (P0 t) = (GF t (k + 1)).kst (P0 t) := kst_ext rfl (fun i hi => by
        show (if i ∈ kidsN t k then some k else ((par t i).bind fun p => if p < k then some p else none)) = ((par t i).bind fun p => if p < k + 1 then some p else none)
        by_cases hm : i ∈ kidsN t k
        · rw [if_pos hm, kids_par (hR.L hk') hm]; simp
        · rw [if_neg hm]
          cases hp : par t i with
          | none => rfl
          | some p =>
            have : p ≠ k := fun e => hm (kids_in (hR.L hk') (e ▸ hp))
            simp only [Option.bind_some]
            by_cases hl : p < k
            · rw [if_pos hl, if_pos (by omega)]
            · rw [if_neg hl, if_neg (by omega)]) (fun i hi => by
        show (if i = k then (if k < k then kidsN t k else []) ++ kidsN t k else if i < k then kidsN t i else []) = if i < k + 1 then kidsN t i else []
        by_cases e1 : i = k
        · subst e1; simp
        · rw [if_neg e1]
          by_cases hl : i < k
          · rw [if_pos hl, if_pos (by omega)]
          · rw [if_neg hl, if_neg (by omega)])
      simp only [m_spec_grown_1, cond_dec]
      rw [if_pos (by omega), w64 (by omega) (by omega)]
      rw [show ((k : Int) + 1) = ((k + 1 : Nat) : Int) by omega, h, e]
      simp only [bind_some]
      rw [w64 (by omega) (by omega)]
      rfl
    rw [loopO_nx step]
    exact ih (k + 1) (by omega) (by omega)
theorem knots_eq {t : List Node} (hR : RT t) : m_spec_grown (t, []) = some (((), (t.length : Int), false), (List.range t.length).map some, (FT t).kst (P0 t)) := by
  simp only [m_spec_grown]
  have h0 := grown0 hR (t.length : Int) false t.length 0 (by omega) (Nat.zero_le _)
  have e0 : (FZ 0).kst (P0 t) = [] := rfl
  rw [e0] at h0
  have h0' : loopO m_spec_grown_0 (t, ((), (t.length : Int), false), (0 : Int), [], []) = _ := h0
  rw [h0', bind_some]
  have h1 := grown1 hR (t.length : Int) false t.length 0 (by omega) (Nat.zero_le _)
  have e1 : (GF t 0).kst (P0 t) = (FZ t.length).kst (P0 t) := kst_ext rfl (fun i hi => by
    simp only [GF, FZ]
    cases par t i <;> rfl) (fun i hi => rfl)
  rw [e1] at h1
  have h1' : loopO m_spec_grown_1 (t, ((), (t.length : Int), false), (0 : Int), (FZ t.length).kst (P0 t), (List.range t.length).map some) = _ := h1
  rw [h1', bind_some]
end Go.Proofs.Ytfmlpodcldhgdaa.V
set_option linter.unusedVariables false
set_option linter.unusedSimpArgs false
namespace Go.Proofs.Ytfmlpodcldhgdaa.V
open Go
section
variable {F G : Fo} {P : Nat → Int × Node} {p c : Nat} {A B : List Nat}
theorem subL_nat2 {α : Type} (l : List α) {lo hi : Nat} (h1 : lo ≤ hi) (h2 : hi ≤ l.length) : subL l (lo : Int) (hi : Int) = some ((l.take hi).drop lo) := by
  unfold subL
  rw [if_pos (by omega)]
  rfl
theorem subL_front {α : Type} {l : List α} {n : Nat} (hn : n ≤ l.length) : subL l 0 (n : Int) = some (l.take n) := by
  have h := subL_nat2 l (lo := 0) (hi := n) (Nat.zero_le _) hn
  simpa using h
theorem place_eq (h : Sp F G p c A B) (hl : (F.kids p).length ≤ 1000000) : m_spec_knot_place (some c, F.kst P) = some (A.length : Int) := by
  have gc : (F.kst P)[c]? = some (F.kn1 P c) := Fo.kget h.hc
  have gp : (F.kst P)[p]? = some (F.kn1 P p) := Fo.kget h.hp
  have uc : (F.kn1 P c).up = some p := h.u
  have kp : (F.kn1 P p).kids = (A ++ c :: B).map some := by show (F.kids p).map some = _; rw [h.k]
  rw [h.k] at hl
  simp only [List.length_append, List.length_cons] at hl
  have key : ∀ d k : Nat, A.length - k = d → k ≤ A.length → loopO m_spec_knot_place_0 (some c, (k : Int), F.kst P) = some (.inr ((A.length : Int), F.kst P)) := by
    intro d
    induction d with
    | zero =>
      intro k hd hk
      obtain rfl : k = A.length := by omega
      refine loopO_out ?_
      simp only [m_spec_knot_place_0, cond_dec, bind_some, gc, uc, gp, kp, atI_nat]
      rw [if_pos (by simp; omega)]
      simp
    | succ d ih =>
      intro k hd hk
      obtain ⟨a, ha⟩ := get_lt (l := A) (k := k) (by omega)
      have hg : ((A ++ c :: B).map some)[k]? = some (some a) := by
        rw [List.getElem?_map, List.getElem?_append_left (by omega), ha]; rfl
      have hne : ¬ some a = some c := fun e => h.cA (by
        have := List.mem_of_getElem? ha
        rwa [Option.some.inj e] at this)
      have step : m_spec_knot_place_0 (some c, (k : Int), F.kst P) = some (.nx (some c, ((k + 1 : Nat) : Int), F.kst P)) := by
        simp only [m_spec_knot_place_0, cond_dec, bind_some, gc, uc, gp, kp, atI_nat, hg]
        rw [if_pos (by simp; omega), if_neg hne, w64 (by omega) (by omega)]
        rfl
      rw [loopO_nx step]
      exact ih (k + 1) (by omega) (by omega)
  have h0 : loopO m_spec_knot_place_0 (some c, (0 : Int), F.kst P) = _ := key A.length 0 (by omega) (Nat.zero_le _)
  simp only [m_spec_knot_place, bind_some, gc, uc, Option.isNone_some, cond_false, h0]
  rfl
theorem place_none (hc : c < F.m) (hu : F.up c = none) : m_spec_knot_place (some c, F.kst P) = some (-1 : Int) := by
  have gc : (F.kst P)[c]? = some (F.kn1 P c) := Fo.kget hc
  have uc : (F.kn1 P c).up = none := hu
  simp only [m_spec_knot_place, bind_some, gc, uc, Option.isNone_none, cond_true]
theorem cut_none (hc : c < F.m) (hu : F.up c = none) : m_spec_knot_cut (some c, F.kst P) = some (F.kst P) := by
  simp only [m_spec_knot_cut, place_none hc hu, bind_some, cond_dec]
  rw [if_pos (by omega)]
theorem cut_eq (h : Sp F G p c A B) (hl : (F.kids p).length ≤ 1000000) : m_spec_knot_cut (some c, F.kst P) = some (G.kst P) := by
  have gc : (F.kst P)[c]? = some (F.kn1 P c) := Fo.kget h.hc
  have gp : (F.kst P)[p]? = some (F.kn1 P p) := Fo.kget h.hp
  have uc : (F.kn1 P c).up = some p := h.u
  have kp : (F.kn1 P p).kids = (A ++ c :: B).map some := by show (F.kids p).map some = _; rw [h.k]
  have hl' := hl
  rw [h.k] at hl'
  simp only [List.length_append, List.length_cons] at hl'
  have gs : ∀ e : KN, ((F.kst P).set p e)[c]? = some (F.kn1 P c) := fun e => by rw [List.getElem?_set_ne h.pc]; exact gc
  have hlen : (((A ++ c :: B).map some).length : Int) = ((A.length + 1 + B.length : Nat) : Int) := by simp; omega
  have s1 : subL ((A ++ c :: B).map some) 0 (A.length : Int) = some (A.map some) := by
    rw [subL_front (by simp)]; simp
  have s2 : subL ((A ++ c :: B).map some) ((A.length + 1 : Nat) : Int) ((A.length + 1 + B.length : Nat) : Int) = some (B.map some) := by
    rw [subL_nat2 _ (by omega) (by simp; omega)]
    congr 1
    rw [List.take_of_length_le (by simp; omega), ← List.map_drop]
    congr 1
    rw [show A ++ c :: B = (A ++ [c]) ++ B by simp, List.drop_left' (by simp)]
  have d1 : List.drop (Int.toNat 0) (List.take (Int.toNat (A.length : Int)) ((A ++ c :: B).map some)) = A.map some := by simp
  have d2 : List.drop (Int.toNat ((A.length + 1 : Nat) : Int)) (List.take (Int.toNat ((A.length + 1 + B.length : Nat) : Int)) ((A ++ c :: B).map some)) = B.map some := by
    rw [Int.toNat_natCast, Int.toNat_natCast, List.take_of_length_le (by simp; omega), ← List.map_drop]
    congr 1
    rw [show A ++ c :: B = (A ++ [c]) ++ B by simp, List.drop_left' (by simp)]
  simp only [m_spec_knot_cut, place_eq h hl, bind_some, cond_dec]
  rw [if_neg (by omega)]
  rw [show (A.length : Int) + 1 = ((A.length + 1 : Nat) : Int) by omega, w64 (by omega) (by omega)]
  simp only [bind_some, gc, uc, gp, kp, hlen, s1, s2, d1, d2, gs]
  rw [appL_some (by simp; omega)]
  simp only [bind_some]
  rw [appL_some (by simp; omega)]
  simp only [bind_some, gs]
  congr 1
  unfold Fo.kst
  rw [tab_set h.hp, tab_set h.hc]
  rw [h.g]
  refine tab_ext fun i hi => ?_
  by_cases e1 : i = c
  · subst e1
    simp [upd, Fo.kn1, Fo.setK, Ne.symm h.pc]
  · by_cases e2 : i = p
    · subst e2
      simp [upd, e1, Fo.kn1, Fo.setK, KN.wk]
    · simp [upd, e1, e2, Fo.kn1, Fo.setK]
end
end Go.Proofs.Ytfmlpodcldhgdaa.V
set_option linter.unusedVariables false
set_option linter.unusedSimpArgs false
namespace Go.Proofs.Ytfmlpodcldhgdaa.V
open Go
section
variable {F G H : Fo} {P : Nat → Int × Node} {p c : Nat} {A B : List Nat} {S : List KN}
theorem put_eq (hcut : m_spec_knot_cut (some c, S) = some (G.kst P)) (h : Sp F G p c A B) (hl : (F.kids p).length ≤ 1000000) : m_spec_knot_put (some p, (A.length : Int), some c, S) = some (F.kst P) := by
  have hm : F.m = G.m := by rw [h.g]; rfl
  have gk : G.kids p = A ++ B := by rw [h.g]; simp [Fo.setK]
  have gp : (G.kst P)[p]? = some (G.kn1 P p) := Fo.kget (hm ▸ h.hp)
  have gc : (G.kst P)[c]? = some (G.kn1 P c) := Fo.kget (hm ▸ h.hc)
  have kp : (G.kn1 P p).kids = (A ++ B).map some := by show (G.kids p).map some = _; rw [gk]
  rw [h.k] at hl
  simp only [List.length_append, List.length_cons] at hl
  have gs : ∀ e : KN, ((G.kst P).set p e)[c]? = some (G.kn1 P c) := fun e => by rw [List.getElem?_set_ne h.pc]; exact gc
  have hlen : (((A ++ B).map some).length : Int) = ((A.length + B.length : Nat) : Int) := by simp
  have s1 : subL ((A ++ B).map some) 0 (A.length : Int) = some (A.map some) := by
    rw [subL_front (by simp)]; simp
  have s2 : subL ((A ++ B).map some) (A.length : Int) ((A.length + B.length : Nat) : Int) = some (B.map some) := by
    rw [subL_nat2 _ (by omega) (by simp)]
    congr 1
    rw [List.take_of_length_le (by simp), ← List.map_drop]
    congr 1
    rw [List.drop_left' rfl]
  have d1 : List.drop (Int.toNat 0) (List.take (Int.toNat (A.length : Int)) ((A ++ B).map some)) = A.map some := by simp
  have d2 : List.drop (Int.toNat (A.length : Int)) (List.take (Int.toNat ((A.length + B.length : Nat) : Int)) ((A ++ B).map some)) = B.map some := by
    rw [Int.toNat_natCast, Int.toNat_natCast, List.take_of_length_le (by simp), ← List.map_drop]
    congr 1
    rw [List.drop_left' rfl]
  simp only [m_spec_knot_put, hcut, bind_some, gp, kp, hlen, s1, s2, d1, d2]
  rw [appL_some (by simp; omega)]
  simp only [bind_some, List.nil_append]
  rw [appL_some (by simp; omega)]
  simp only [bind_some]
  rw [appL_some (by simp; omega)]
  simp only [bind_some, gs]
  congr 1
  unfold Fo.kst
  rw [tab_set (hm ▸ h.hp), tab_set (hm ▸ h.hc), hm]
  refine tab_ext fun i hi => ?_
  rw [h.g]
  by_cases e1 : i = c
  · subst e1
    simp [upd, Fo.kn1, Fo.setK, Ne.symm h.pc, h.u]
  · by_cases e2 : i = p
    · subst e2
      simp [upd, e1, Fo.kn1, Fo.setK, KN.wk, h.k]
    · simp [upd, e1, e2, Fo.kn1, Fo.setK]
end
end Go.Proofs.Ytfmlpodcldhgdaa.V
set_option linter.unusedVariables false
set_option linter.unusedSimpArgs false
namespace Go.Proofs.Ytfmlpodcldhgdaa.V
open Go
def Fo.off (F : Fo) (l : List Nat) : Fo := ⟨F.m, fun i => if i ∈ l then none else F.up i, fun i => (F.kids i).filter fun j => decide (j ∉ l)⟩
def Fo.hang (F : Fo) (p : Nat) (A l B : List Nat) : Fo := ⟨F.m, fun i => if i ∈ l then some p else F.up i, fun i => if i = p then A ++ l ++ B else F.kids i⟩
section
variable {F G H : Fo} {P : Nat → Int × Node} {p c : Nat} {A B l m : List Nat} {S : List KN}
theorem Fo.ext (h : F.m = G.m) (h1 : ∀ i, F.up i = G.up i) (h2 : ∀ i, F.kids i = G.kids i) : F = G := by
  obtain ⟨a, b, c⟩ := F
  obtain ⟨a', b', c'⟩ := G
  simp only at h h1 h2
  obtain rfl := h
  obtain rfl : b = b' := funext h1
  obtain rfl : c = c' := funext h2
  rfl
theorem off_nil : F.off [] = F := Fo.ext rfl (fun i => by simp [Fo.off]) (fun i => by simp [Fo.off])
theorem off_ok (h : F.ok) : (F.off l).ok := by
  refine ⟨fun {p c} hc => ?_, fun {c p} hu => ?_, fun p => ?_, fun c => ?_⟩
  · simp only [Fo.off, List.mem_filter, decide_eq_true_eq] at hc ⊢
    rw [if_neg hc.2]
    exact h.kid hc.1
  · simp only [Fo.off] at hu ⊢
    by_cases hc : c ∈ l
    · rw [if_pos hc] at hu; cases hu
    · rw [if_neg hc] at hu
      have := h.up hu
      exact ⟨this.1, by simp [this.2, hc]⟩
  · exact (h.nd p).filter _
  · simp only [Fo.off]
    by_cases hc : c ∈ l
    · rw [if_pos hc]; intro e; cases e
    · rw [if_neg hc]; exact h.irr c
theorem off_none (h : F.ok) (hu : F.up c = none) : F.off [c] = F := Fo.ext rfl (fun i => by
    simp only [Fo.off, List.mem_singleton]
    by_cases e : i = c
    · rw [if_pos e, e, hu]
    · rw [if_neg e]) (fun i => by
    simp only [Fo.off, List.mem_singleton]
    refine List.filter_eq_self.2 fun j hj => ?_
    have : j ≠ c := fun e => by
      subst e
      have := (h.kid hj).1
      rw [hu] at this; cases this
    simpa using this)
theorem off_sp (h : Sp F G p c A B) : G = F.off [c] := by
  rw [h.g]
  refine Fo.ext rfl (fun i => ?_) (fun i => ?_)
  · simp [Fo.off, Fo.setK]
  · simp only [Fo.off, Fo.setK, List.mem_singleton]
    by_cases e : i = p
    · subst e
      rw [if_pos rfl, h.k, List.filter_append, List.filter_cons_of_neg (by simp)]
      rw [List.filter_eq_self.2 (fun j hj => by
        have : j ≠ c := fun e => h.cA (e ▸ hj)
        simpa using this), List.filter_eq_self.2 (fun j hj => by
        have : j ≠ c := fun e => h.cB (e ▸ hj)
        simpa using this)]
    · rw [if_neg e]
      refine (List.filter_eq_self.2 fun j hj => ?_).symm
      have : j ≠ c := fun e2 => by
        subst e2
        have h2 := (h.okF.kid hj).1
        rw [h.u] at h2
        exact e (Option.some.inj h2).symm
      simpa using this
theorem sp_of (hF : F.ok) (hu : F.up c = some p) : ∃ A B, Sp F (F.off [c]) p c A B := by
  have h1 := hF.up hu
  obtain ⟨A, B, hk⟩ := List.append_of_mem h1.2
  have h : Sp F (F.setK p (A ++ B) c none) p c A B := ⟨hF, h1.1, (hF.kid h1.2).2, hu, hk, rfl⟩
  have e := off_sp h
  rw [e] at h
  exact ⟨A, B, h⟩
theorem cut_off (hF : F.ok) (hc : c < F.m) (hl : ∀ i, (F.kids i).length ≤ 1000000) : m_spec_knot_cut (some c, F.kst P) = some ((F.off [c]).kst P) := by
  cases hu : F.up c with
  | none => rw [cut_none hc hu, off_none hF hu]
  | some p =>
    obtain ⟨A, B, h⟩ := sp_of hF hu
    exact cut_eq h (hl p)
theorem hang_nil (hk : F.kids p = A ++ B) : F.hang p A [] B = F := Fo.ext rfl (fun i => by simp [Fo.hang]) (fun i => by
  simp only [Fo.hang, List.append_nil]
  by_cases e : i = p
  · rw [if_pos e, e, hk]
  · rw [if_neg e])
theorem hang_sp (hG : (F.hang p A l B).ok) (hp : p < F.m) (hc : c < F.m) (hu : F.up c = none) (hpc : p ≠ c) (hcl : c ∉ l) : Sp (F.hang p A (l ++ [c]) B) (F.hang p A l B) p c (A ++ l) B := by
  have h := Sp.ins (A := A ++ l) (B := B) hG hp hc (show (if c ∈ l then some p else F.up c) = none by rw [if_neg hcl, hu]) hpc (show (if p = p then A ++ l ++ B else F.kids p) = _ by rw [if_pos rfl])
  have e : (F.hang p A l B).setK p (A ++ l ++ c :: B) c (some p) = F.hang p A (l ++ [c]) B := Fo.ext rfl (fun i => by
    simp only [Fo.setK, Fo.hang, List.mem_append, List.mem_singleton]
    by_cases e : i = c <;> by_cases e2 : i ∈ l <;> simp [e, e2]) (fun i => by
    simp only [Fo.setK, Fo.hang]
    by_cases e : i = p <;> simp [e])
  rw [e] at h
  exact h
theorem hang_ok (hF : F.ok) (hp : p < F.m) (hk : F.kids p = A ++ B) : ∀ l : List Nat, (∀ c ∈ l, c < F.m ∧ F.up c = none ∧ p ≠ c) → l.Nodup → (F.hang p A l B).ok := by
  intro l
  induction hn : l.length generalizing l with
  | zero =>
    intro _ _
    obtain rfl := List.length_eq_zero_iff.1 hn
    rw [hang_nil hk]; exact hF
  | succ n ih =>
    intro h1 h2
    obtain ⟨l', c, rfl⟩ : ∃ l' c, l = l' ++ [c] := by
      have hne : l ≠ [] := fun e => by subst e; simp at hn
      exact ⟨l.dropLast, l.getLast hne, (List.dropLast_concat_getLast hne).symm⟩
    have hn' : l'.length = n := by simp at hn; omega
    rw [List.nodup_append] at h2
    obtain ⟨hc1, hc2, hc3⟩ := h1 c (by simp)
    exact (hang_sp (ih l' hn' (fun d hd => h1 d (by simp [hd])) h2.1) hp hc1 hc2 hc3 (fun hcl => h2.2.2 c hcl c (by simp) rfl)).okF
end
end Go.Proofs.Ytfmlpodcldhgdaa.V
set_option linter.unusedVariables false
set_option linter.unusedSimpArgs false
namespace Go.Proofs.Ytfmlpodcldhgdaa.V
open Go Go.Proofs
abbrev p_goquery_Selection_Length : Pt := [(0, .fp (.rc .nps [] 2))]
abbrev q_goquery_Selection_Length : Pt := [(0, .int .i64)]
noncomputable def m_goquery_Selection_Length : Tup p_goquery_Selection_Length → Option (Tup q_goquery_Selection_Length) := fun (x : List (Option Nat)) => some (↑(List.length x) : Int)
noncomputable def cx_goquery_Selection_Length : Cx := ⟨tb, lookE [], lookS []⟩
theorem ck_goquery_Selection_Length : CxOK Try.prog (cx_goquery_Selection_Length) := cx_ok tb_ok .nil
noncomputable def e_goquery_Selection_Length : Ent := ⟨0, p_goquery_Selection_Length, q_goquery_Selection_Length, m_goquery_Selection_Length⟩
theorem ok_goquery_Selection_Length : FnOK Try.prog 145 e_goquery_Selection_Length := fn_ok (L := lookL []) ck_goquery_Selection_Length mixed Try.func145 rfl (by kernel_rfl) (by kernel_rfl) (ls_ok (l := []) (by kernel_rfl) .nil) (by intro x; kernel_rfl)
abbrev p_goquery_Selection_Size : Pt := [(0, .fp (.rc .nps [] 2))]
abbrev q_goquery_Selection_Size : Pt := [(0, .int .i64)]
noncomputable def m_goquery_Selection_Size : Tup p_goquery_Selection_Size → Option (Tup q_goquery_Selection_Size) := fun (x : List (Option Nat)) => Option.bind (m_goquery_Selection_Length x) fun (r : Int) => some r
noncomputable def cx_goquery_Selection_Size : Cx := ⟨tb, lookE [(145, e_goquery_Selection_Length)], lookS []⟩
theorem ck_goquery_Selection_Size : CxOK Try.prog (cx_goquery_Selection_Size) := cx_ok tb_ok (.cons ok_goquery_Selection_Length Try.call145 .nil)
noncomputable def e_goquery_Selection_Size : Ent := ⟨0, p_goquery_Selection_Size, q_goquery_Selection_Size, m_goquery_Selection_Size⟩
theorem ok_goquery_Selection_Size : FnOK Try.prog 116 e_goquery_Selection_Size := fn_ok (L := lookL []) ck_goquery_Selection_Size mixed Try.func116 rfl (by kernel_rfl) (by kernel_rfl) (ls_ok (l := []) (by kernel_rfl) .nil) (by intro x; kernel_rfl)
abbrev p_goquery_Selection_AfterNodes_1 : Pt := [(0, .np), (1, .np), (NT, .ns .h 126 168)]
abbrev q_goquery_Selection_AfterNodes_1 : Pt := [(NT, .ns .h 126 168)]
noncomputable def m_goquery_Selection_AfterNodes_1 : Tup p_goquery_Selection_AfterNodes_1 → Option (Tup q_goquery_Selection_AfterNodes_1) := fun (x : Option Nat × Option Nat × List HN) => Option.bind x.1 fun (i : Nat) => Option.bind (some i) fun (i : Nat) => Option.bind x.2.2[i]? fun (h : HN) => bif !Option.isNone (HN.par h) then Option.bind x.1 fun (i : Nat) => Option.bind (some i) fun (i : Nat) => Option.bind x.2.2[i]? fun (h : HN) => Option.bind x.1 fun (i : Nat) => Option.bind (some i) fun (i : Nat) => Option.bind x.2.2[i]? fun (h_1 : HN) => Option.bind (m_html_Node_InsertBefore (HN.par h, x.2.1, HN.nxt h_1, x.2.2)) fun (r : List HN) => some r else some x.2.2
noncomputable def cx_goquery_Selection_AfterNodes_1 : Cx := ⟨tb, lookE [(88, e_html_Node_InsertBefore)], lookS [(1, [(true, 0), (true, 1), (true, 2), (true, 3), (true, 4), (true, 5), (true, 6), (true, 7), (true, 8), (false, 9)])]⟩
theorem ck_goquery_Selection_AfterNodes_1 : CxOK Try.prog (cx_goquery_Selection_AfterNodes_1) := cx_ok tb_ok (.cons ok_html_Node_InsertBefore Try.call88 .nil)
noncomputable def e_goquery_Selection_AfterNodes_1 : Ent := ⟨0, p_goquery_Selection_AfterNodes_1, q_goquery_Selection_AfterNodes_1, m_goquery_Selection_AfterNodes_1⟩
theorem ok_goquery_Selection_AfterNodes_1 : FnOK Try.prog 87 e_goquery_Selection_AfterNodes_1 := fn_ok (L := lookL []) ck_goquery_Selection_AfterNodes_1 mixed Try.func87 rfl (by kernel_rfl) (by kernel_rfl) (ls_ok (l := []) (by kernel_rfl) .nil) (by intro x; kernel_rfl)
abbrev p_goquery_Selection_manipulateNodes_aft : Pt := [(0, .fp (.rc .nps [] 2)), (1, .own .np 76), (2, .bool), (3, .clo 87 []), (NT, .ns .h 126 168)]
abbrev q_goquery_Selection_manipulateNodes_aft : Pt := [(0, .fp (.rc .nps [] 2)), (1001, .own .np 76), (NT, .ns .h 126 168)]
abbrev p_goquery_Selection_manipulateNodes_aft_0 : Pt := [(0, .fp (.rc .nps [] 2)), (1, .own .np 76), (3, .clo 87 []), (9, .int .i64), (10, .int .i64), (11, .int .i64), (NT, .ns .h 126 168)]
abbrev x_goquery_Selection_manipulateNodes_aft_0 : List (Xt × Pt) := [(.ex 0, [(0, .fp (.rc .nps [] 2)), (1, .own .np 76), (3, .clo 87 []), (9, .int .i64), (NT, .ns .h 126 168)])]
noncomputable def m_goquery_Selection_manipulateNodes_aft_0 : Tup p_goquery_Selection_manipulateNodes_aft_0 → Option (Stp (Tup p_goquery_Selection_manipulateNodes_aft_0) (SumT (x_goquery_Selection_manipulateNodes_aft_0.map (·.2)))) := fun (x : List (Option Nat) × List (Option Nat) × PUnit × Int × Int × Int × List HN) => bif decide (x.2.2.2.2.1 < x.2.2.2.2.2.1) then Option.bind (atI x.2.1 x.2.2.2.2.2.1) fun (x_1 : Option Nat) => Option.bind x.2.1[Int.toNat x.2.2.2.2.2.1]? fun (v : Option Nat) => Option.bind (atI x.2.1 x.2.2.2.2.1) fun (x_2 : Option Nat) => Option.bind x.2.1[Int.toNat x.2.2.2.2.1]? fun (v_1 : Option Nat) => Option.bind (atI x.2.1 x.2.2.2.2.1) fun (x_3 : Option Nat) => Option.bind x.2.1[Int.toNat x.2.2.2.2.1]? fun (v_2 : Option Nat) => Option.bind (atI (List.set x.2.1 (Int.toNat x.2.2.2.2.1) v) x.2.2.2.2.2.1) fun (x_4 : Option Nat) => Option.bind (List.set x.2.1 (Int.toNat x.2.2.2.2.1) v)[Int.toNat x.2.2.2.2.2.1]? fun (v_3 : Option Nat) => some (Stp.nx (x.1, List.set (List.set x.2.1 (Int.toNat x.2.2.2.2.1) v) (Int.toNat x.2.2.2.2.2.1) v_1, (), x.2.2.2.1, IntKind.wrap .i64 (x.2.2.2.2.1 + (1 : Int)), IntKind.wrap .i64 (x.2.2.2.2.2.1 - (1 : Int)), x.2.2.2.2.2.2)) else some (Stp.out (x.1, x.2.1, (), x.2.2.2.1, x.2.2.2.2.2.2))
abbrev p_goquery_Selection_manipulateNodes_aft_1_0 : Pt := [(0, .fp (.rc .nps [] 2)), (1, .own .np 76), (3, .clo 87 []), (9, .int .i64), (12, .int .i64), (13, .np), (47, .lst .np), (48, .int .i64), (49, .int .i64), (54, .al 1), (55, .int .i64), (56, .int .i64), (NT, .ns .h 126 168)]
abbrev x_goquery_Selection_manipulateNodes_aft_1_0 : List (Xt × Pt) := [(.ex 4, [(0, .fp (.rc .nps [] 2)), (1, .own .np 76), (3, .clo 87 []), (9, .int .i64), (47, .lst .np), (48, .int .i64), (49, .int .i64), (NT, .ns .h 126 168)])]
noncomputable def m_goquery_Selection_manipulateNodes_aft_1_0 : Tup p_goquery_Selection_manipulateNodes_aft_1_0 → Option (Stp (Tup p_goquery_Selection_manipulateNodes_aft_1_0) (SumT (x_goquery_Selection_manipulateNodes_aft_1_0.map (·.2)))) := fun (x : List (Option Nat) × List (Option Nat) × PUnit × Int × Int × Option Nat × List (Option Nat) × Int × Int × PUnit × Int × Int × List HN) => bif decide (x.2.2.2.2.2.2.2.2.2.2.2.1 < x.2.2.2.2.2.2.2.2.2.2.1) then Option.bind (atI x.2.1 x.2.2.2.2.2.2.2.2.2.2.2.1) fun (x_1 : Option Nat) => Option.bind x.2.1[Int.toNat x.2.2.2.2.2.2.2.2.2.2.2.1]? fun (v : Option Nat) => bif decide (x.2.2.2.2.1 ≠ x.2.2.2.1) then Option.bind (m_goquery_cloneNode big (v, x.2.2.2.2.2.2.2.2.2.2.2.2)) fun (r : Option Nat × List HN) => Option.bind (m_goquery_Selection_AfterNodes_1 (x.2.2.2.2.2.1, r.1, r.2)) fun (r : List HN) => some (Stp.nx (x.1, x.2.1, (), x.2.2.2.1, x.2.2.2.2.1, x.2.2.2.2.2.1, x.2.2.2.2.2.2.1, x.2.2.2.2.2.2.2.1, x.2.2.2.2.2.2.2.2.1, (), x.2.2.2.2.2.2.2.2.2.2.1, IntKind.wrap .i64 (x.2.2.2.2.2.2.2.2.2.2.2.1 + (1 : Int)), r)) else Option.bind v fun (i : Nat) => Option.bind (some i) fun (i : Nat) => Option.bind x.2.2.2.2.2.2.2.2.2.2.2.2[i]? fun (h : HN) => bif !Option.isNone (HN.par h) then Option.bind v fun (i : Nat) => Option.bind (some i) fun (i : Nat) => Option.bind x.2.2.2.2.2.2.2.2.2.2.2.2[i]? fun (h : HN) => Option.bind (m_html_Node_RemoveChild (HN.par h, v, x.2.2.2.2.2.2.2.2.2.2.2.2)) fun (r : List HN) => Option.bind (m_goquery_Selection_AfterNodes_1 (x.2.2.2.2.2.1, v, r)) fun (r : List HN) => some (Stp.nx (x.1, x.2.1, (), x.2.2.2.1, x.2.2.2.2.1, x.2.2.2.2.2.1, x.2.2.2.2.2.2.1, x.2.2.2.2.2.2.2.1, x.2.2.2.2.2.2.2.2.1, (), x.2.2.2.2.2.2.2.2.2.2.1, IntKind.wrap .i64 (x.2.2.2.2.2.2.2.2.2.2.2.1 + (1 : Int)), r)) else Option.bind (m_goquery_Selection_AfterNodes_1 (x.2.2.2.2.2.1, v, x.2.2.2.2.2.2.2.2.2.2.2.2)) fun (r : List HN) => some (Stp.nx (x.1, x.2.1, (), x.2.2.2.1, x.2.2.2.2.1, x.2.2.2.2.2.1, x.2.2.2.2.2.2.1, x.2.2.2.2.2.2.2.1, x.2.2.2.2.2.2.2.2.1, (), x.2.2.2.2.2.2.2.2.2.2.1, IntKind.wrap .i64 (x.2.2.2.2.2.2.2.2.2.2.2.1 + (1 : Int)), r)) else some (Stp.out (x.1, x.2.1, (), x.2.2.2.1, x.2.2.2.2.2.2.1, x.2.2.2.2.2.2.2.1, x.2.2.2.2.2.2.2.2.1, x.2.2.2.2.2.2.2.2.2.2.2.2))
abbrev p_goquery_Selection_manipulateNodes_aft_1 : Pt := [(0, .fp (.rc .nps [] 2)), (1, .own .np 76), (3, .clo 87 []), (9, .int .i64), (47, .lst .np), (48, .int .i64), (49, .int .i64), (NT, .ns .h 126 168)]
abbrev x_goquery_Selection_manipulateNodes_aft_1 : List (Xt × Pt) := [(.ex 2, [(0, .fp (.rc .nps [] 2)), (1, .own .np 76), (NT, .ns .h 126 168)])]
noncomputable def m_goquery_Selection_manipulateNodes_aft_1 : Tup p_goquery_Selection_manipulateNodes_aft_1 → Option (Stp (Tup p_goquery_Selection_manipulateNodes_aft_1) (SumT (x_goquery_Selection_manipulateNodes_aft_1.map (·.2)))) := fun (x : List (Option Nat) × List (Option Nat) × PUnit × Int × List (Option Nat) × Int × Int × List HN) => bif decide (x.2.2.2.2.2.2.1 < x.2.2.2.2.2.1) then Option.bind (atI x.2.2.2.2.1 x.2.2.2.2.2.2.1) fun (v : Option Nat) => Option.bind (loopO m_goquery_Selection_manipulateNodes_aft_1_0 (x.1, x.2.1, (), x.2.2.2.1, x.2.2.2.2.2.2.1, v, x.2.2.2.2.1, x.2.2.2.2.2.1, x.2.2.2.2.2.2.1, (), (↑(List.length x.2.1) : Int), (0 : Int), x.2.2.2.2.2.2.2)) fun (y : List (Option Nat) × List (Option Nat) × PUnit × Int × List (Option Nat) × Int × Int × List HN) => some (Stp.nx (y.1, y.2.1, (), y.2.2.2.1, y.2.2.2.2.1, y.2.2.2.2.2.1, IntKind.wrap .i64 (y.2.2.2.2.2.2.1 + (1 : Int)), y.2.2.2.2.2.2.2)) else some (Stp.out (x.1, x.2.1, x.2.2.2.2.2.2.2))
noncomputable def m_goquery_Selection_manipulateNodes_aft : Tup p_goquery_Selection_manipulateNodes_aft → Option (Tup q_goquery_Selection_manipulateNodes_aft) := fun (x : List (Option Nat) × List (Option Nat) × Bool × PUnit × List HN) => Option.bind (m_goquery_Selection_Size x.1) fun (r : Int) => bif x.2.2.1 then Option.bind (loopO m_goquery_Selection_manipulateNodes_aft_0 (x.1, x.2.1, (), IntKind.wrap .i64 (r - (1 : Int)), (0 : Int), IntKind.wrap .i64 ((↑(List.length x.2.1) : Int) - (1 : Int)), x.2.2.2.2)) fun (y : List (Option Nat) × List (Option Nat) × PUnit × Int × List HN) => Option.bind (loopO m_goquery_Selection_manipulateNodes_aft_1 (y.1, y.2.1, (), y.2.2.2.1, y.1, (↑(List.length y.1) : Int), (0 : Int), y.2.2.2.2)) fun (y : List (Option Nat) × List (Option Nat) × List HN) => some (y.1, y.2.1, y.2.2) else Option.bind (loopO m_goquery_Selection_manipulateNodes_aft_1 (x.1, x.2.1, (), IntKind.wrap .i64 (r - (1 : Int)), x.1, (↑(List.length x.1) : Int), (0 : Int), x.2.2.2.2)) fun (y : List (Option Nat) × List (Option Nat) × List HN) => some (y.1, y.2.1, y.2.2)
noncomputable def cx_goquery_Selection_manipulateNodes_aft : Cx := ⟨tb, lookE [(116, e_goquery_Selection_Size), (105, e_goquery_cloneNode), (91, e_html_Node_RemoveChild), (87, e_goquery_Selection_AfterNodes_1)], lookS [(6, [(true, 0), (true, 1), (true, 2), (true, 3), (true, 4), (true, 5), (true, 6), (true, 7), (true, 8), (true, 9), (true, 10), (true, 11), (true, 12), (false, 13), (true, 14), (false, 15)])]⟩
theorem ck_goquery_Selection_manipulateNodes_aft : CxOK Try.prog (cx_goquery_Selection_manipulateNodes_aft) := cx_ok tb_ok (.cons ok_goquery_Selection_Size Try.call116 (.cons ok_goquery_cloneNode Try.call105 (.cons ok_html_Node_RemoveChild Try.call91 (.cons ok_goquery_Selection_AfterNodes_1 Try.call87 .nil))))
noncomputable def c_goquery_Selection_manipulateNodes_aft_0 : Code := loopAt (Go.Proofs.Try.f83.body.getD .skip) 0
noncomputable def l_goquery_Selection_manipulateNodes_aft_0 : LEnt := ⟨p_goquery_Selection_manipulateNodes_aft_0, x_goquery_Selection_manipulateNodes_aft_0, loopO (m_goquery_Selection_manipulateNodes_aft_0)⟩
theorem lo_goquery_Selection_manipulateNodes_aft_0 : LOK Try.prog 86 1002 true (l_goquery_Selection_manipulateNodes_aft_0) c_goquery_Selection_manipulateNodes_aft_0 := loop_ok (body := m_goquery_Selection_manipulateNodes_aft_0) (L := lookL []) (ck_goquery_Selection_manipulateNodes_aft) mixed (ls_ok (l := []) (by kernel_rfl) .nil) (by intro x; kernel_rfl) (fun x y h => loopO_iff.1 h)
noncomputable def c_goquery_Selection_manipulateNodes_aft_1_0 : Code := loopAt (loopAt (Go.Proofs.Try.f83.body.getD .skip) 1) 0
noncomputable def l_goquery_Selection_manipulateNodes_aft_1_0 : LEnt := ⟨p_goquery_Selection_manipulateNodes_aft_1_0, x_goquery_Selection_manipulateNodes_aft_1_0, loopO (m_goquery_Selection_manipulateNodes_aft_1_0)⟩
theorem lo_goquery_Selection_manipulateNodes_aft_1_0 : LOK Try.prog 86 1002 true (l_goquery_Selection_manipulateNodes_aft_1_0) c_goquery_Selection_manipulateNodes_aft_1_0 := loop_ok (body := m_goquery_Selection_manipulateNodes_aft_1_0) (L := lookL []) (ck_goquery_Selection_manipulateNodes_aft) mixed (ls_ok (l := []) (by kernel_rfl) .nil) (by intro x; kernel_rfl) (fun x y h => loopO_iff.1 h)
noncomputable def c_goquery_Selection_manipulateNodes_aft_1 : Code := loopAt (Go.Proofs.Try.f83.body.getD .skip) 1
noncomputable def l_goquery_Selection_manipulateNodes_aft_1 : LEnt := ⟨p_goquery_Selection_manipulateNodes_aft_1, x_goquery_Selection_manipulateNodes_aft_1, loopO (m_goquery_Selection_manipulateNodes_aft_1)⟩
theorem lo_goquery_Selection_manipulateNodes_aft_1 : LOK Try.prog 86 1002 true (l_goquery_Selection_manipulateNodes_aft_1) c_goquery_Selection_manipulateNodes_aft_1 := loop_ok (body := m_goquery_Selection_manipulateNodes_aft_1) (L := lookL [(4, l_goquery_Selection_manipulateNodes_aft_1_0)]) (ck_goquery_Selection_manipulateNodes_aft) mixed (ls_ok (l := [(4, c_goquery_Selection_manipulateNodes_aft_1_0)]) (by kernel_rfl) (.cons rfl (lo_goquery_Selection_manipulateNodes_aft_1_0) .nil)) (by intro x; kernel_rfl) (fun x y h => loopO_iff.1 h)
noncomputable def e_goquery_Selection_manipulateNodes_aft : Ent := ⟨1002, p_goquery_Selection_manipulateNodes_aft, q_goquery_Selection_manipulateNodes_aft, m_goquery_Selection_manipulateNodes_aft⟩
theorem ok_goquery_Selection_manipulateNodes_aft : FnOK Try.prog 83 e_goquery_Selection_manipulateNodes_aft := fn_ok (L := lookL [(0, l_goquery_Selection_manipulateNodes_aft_0), (2, l_goquery_Selection_manipulateNodes_aft_1)]) ck_goquery_Selection_manipulateNodes_aft mixed Try.func83 rfl (by kernel_rfl) (by kernel_rfl) (ls_ok (l := [(0, c_goquery_Selection_manipulateNodes_aft_0), (2, c_goquery_Selection_manipulateNodes_aft_1)]) (by kernel_rfl) (.cons rfl (lo_goquery_Selection_manipulateNodes_aft_0) (.cons rfl (lo_goquery_Selection_manipulateNodes_aft_1) .nil))) (by intro x; kernel_rfl)
abbrev p_goquery_Selection_AfterNodes : Pt := [(0, .fp (.rc .nps [] 2)), (1, .own .np 76), (NT, .ns .h 126 168)]
abbrev q_goquery_Selection_AfterNodes : Pt := [(0, .fp (.rc .nps [] 2)), (NT, .ns .h 126 168)]
noncomputable def m_goquery_Selection_AfterNodes : Tup p_goquery_Selection_AfterNodes → Option (Tup q_goquery_Selection_AfterNodes) := fun (x : List (Option Nat) × List (Option Nat) × List HN) => Option.bind (m_goquery_Selection_manipulateNodes_aft (x.1, x.2.1, true, (), x.2.2)) fun (r : List (Option Nat) × List (Option Nat) × List HN) => some (r.1, r.2.2)
noncomputable def cx_goquery_Selection_AfterNodes : Cx := ⟨tb, lookE [(83, e_goquery_Selection_manipulateNodes_aft)], lookS []⟩
theorem ck_goquery_Selection_AfterNodes : CxOK Try.prog (cx_goquery_Selection_AfterNodes) := cx_ok tb_ok (.cons ok_goquery_Selection_manipulateNodes_aft Try.call83 .nil)
noncomputable def e_goquery_Selection_AfterNodes : Ent := ⟨0, p_goquery_Selection_AfterNodes, q_goquery_Selection_AfterNodes, m_goquery_Selection_AfterNodes⟩
theorem ok_goquery_Selection_AfterNodes : FnOK Try.prog 56 e_goquery_Selection_AfterNodes := fn_ok (L := lookL []) ck_goquery_Selection_AfterNodes mixed Try.func56 rfl (by kernel_rfl) (by kernel_rfl) (ls_ok (l := []) (by kernel_rfl) .nil) (by intro x; kernel_rfl)
abbrev p_goquery_Selection_Remove : Pt := [(0, .fp (.rc .nps [] 2)), (NT, .ns .h 126 168)]
abbrev q_goquery_Selection_Remove : Pt := [(0, .fp (.rc .nps [] 2)), (NT, .ns .h 126 168)]
abbrev p_goquery_Selection_Remove_0 : Pt := [(0, .fp (.rc .nps [] 2)), (8, .lst .np), (9, .int .i64), (10, .int .i64), (NT, .ns .h 126 168)]
abbrev x_goquery_Selection_Remove_0 : List (Xt × Pt) := [(.ex 0, [(0, .fp (.rc .nps [] 2)), (NT, .ns .h 126 168)])]
noncomputable def m_goquery_Selection_Remove_0 : Tup p_goquery_Selection_Remove_0 → Option (Stp (Tup p_goquery_Selection_Remove_0) (SumT (x_goquery_Selection_Remove_0.map (·.2)))) := fun (x : List (Option Nat) × List (Option Nat) × Int × Int × List HN) => bif decide (x.2.2.2.1 < x.2.2.1) then Option.bind (atI x.2.1 x.2.2.2.1) fun (v : Option Nat) => Option.bind v fun (i : Nat) => Option.bind (some i) fun (i : Nat) => Option.bind x.2.2.2.2[i]? fun (h : HN) => bif !Option.isNone (HN.par h) then Option.bind v fun (i : Nat) => Option.bind (some i) fun (i : Nat) => Option.bind x.2.2.2.2[i]? fun (h : HN) => Option.bind (m_html_Node_RemoveChild (HN.par h, v, x.2.2.2.2)) fun (r : List HN) => some (Stp.nx (x.1, x.2.1, x.2.2.1, IntKind.wrap .i64 (x.2.2.2.1 + (1 : Int)), r)) else some (Stp.nx (x.1, x.2.1, x.2.2.1, IntKind.wrap .i64 (x.2.2.2.1 + (1 : Int)), x.2.2.2.2)) else some (Stp.out (x.1, x.2.2.2.2))
noncomputable def m_goquery_Selection_Remove : Tup p_goquery_Selection_Remove → Option (Tup q_goquery_Selection_Remove) := fun (x : List (Option Nat) × List HN) => Option.bind (loopO m_goquery_Selection_Remove_0 (x.1, x.1, (↑(List.length x.1) : Int), (0 : Int), x.2)) fun (y : List (Option Nat) × List HN) => some (y.1, y.2)
noncomputable def cx_goquery_Selection_Remove : Cx := ⟨tb, lookE [(91, e_html_Node_RemoveChild)], lookS []⟩
theorem ck_goquery_Selection_Remove : CxOK Try.prog (cx_goquery_Selection_Remove) := cx_ok tb_ok (.cons ok_html_Node_RemoveChild Try.call91 .nil)
noncomputable def c_goquery_Selection_Remove_0 : Code := loopAt (Go.Proofs.Try.f61.body.getD .skip) 0
noncomputable def l_goquery_Selection_Remove_0 : LEnt := ⟨p_goquery_Selection_Remove_0, x_goquery_Selection_Remove_0, loopO (m_goquery_Selection_Remove_0)⟩
theorem lo_goquery_Selection_Remove_0 : LOK Try.prog 27 0 true (l_goquery_Selection_Remove_0) c_goquery_Selection_Remove_0 := loop_ok (body := m_goquery_Selection_Remove_0) (L := lookL []) (ck_goquery_Selection_Remove) mixed (ls_ok (l := []) (by kernel_rfl) .nil) (by intro x; kernel_rfl) (fun x y h => loopO_iff.1 h)
noncomputable def e_goquery_Selection_Remove : Ent := ⟨0, p_goquery_Selection_Remove, q_goquery_Selection_Remove, m_goquery_Selection_Remove⟩
theorem ok_goquery_Selection_Remove : FnOK Try.prog 61 e_goquery_Selection_Remove := fn_ok (L := lookL [(0, l_goquery_Selection_Remove_0)]) ck_goquery_Selection_Remove mixed Try.func61 rfl (by kernel_rfl) (by kernel_rfl) (ls_ok (l := [(0, c_goquery_Selection_Remove_0)]) (by kernel_rfl) (.cons rfl (lo_goquery_Selection_Remove_0) .nil)) (by intro x; kernel_rfl)
abbrev p_goquery_Selection_ReplaceWithNodes : Pt := [(0, .fp (.rc .nps [] 2)), (1, .own .np 76), (NT, .ns .h 126 168)]
abbrev q_goquery_Selection_ReplaceWithNodes : Pt := [(0, .fp (.rc .nps [] 2)), (NT, .ns .h 126 168)]
noncomputable def m_goquery_Selection_ReplaceWithNodes : Tup p_goquery_Selection_ReplaceWithNodes → Option (Tup q_goquery_Selection_ReplaceWithNodes) := fun (x : List (Option Nat) × List (Option Nat) × List HN) => Option.bind (m_goquery_Selection_AfterNodes (x.1, x.2.1, x.2.2)) fun (r : List (Option Nat) × List HN) => Option.bind (m_goquery_Selection_Remove (x.1, r.2)) fun (r : List (Option Nat) × List HN) => some (r.1, r.2)
noncomputable def cx_goquery_Selection_ReplaceWithNodes : Cx := ⟨tb, lookE [(56, e_goquery_Selection_AfterNodes), (61, e_goquery_Selection_Remove)], lookS []⟩
theorem ck_goquery_Selection_ReplaceWithNodes : CxOK Try.prog (cx_goquery_Selection_ReplaceWithNodes) := cx_ok tb_ok (.cons ok_goquery_Selection_AfterNodes Try.call56 (.cons ok_goquery_Selection_Remove Try.call61 .nil))
noncomputable def e_goquery_Selection_ReplaceWithNodes : Ent := ⟨0, p_goquery_Selection_ReplaceWithNodes, q_goquery_Selection_ReplaceWithNodes, m_goquery_Selection_ReplaceWithNodes⟩
theorem ok_goquery_Selection_ReplaceWithNodes : FnOK Try.prog 60 e_goquery_Selection_ReplaceWithNodes := fn_ok (L := lookL []) ck_goquery_Selection_ReplaceWithNodes mixed Try.func60 rfl (by kernel_rfl) (by kernel_rfl) (ls_ok (l := []) (by kernel_rfl) .nil) (by intro x; kernel_rfl)
end Go.Proofs.Ytfmlpodcldhgdaa.V
set_option linter.unusedVariables false
set_option linter.unusedSimpArgs false
namespace Go.Proofs.Ytfmlpodcldhgdaa.V
open Go
def mvd (F : Fo) (p : Nat) (A l B : List Nat) : Fo := (F.off l).hang p (A.filter fun j => decide (j ∉ l)) l (B.filter fun j => decide (j ∉ l))
section
variable {F G H : Fo} {P : Nat → Int × Node} {L : Nat → HN} {p c x q : Nat} {A B l m : List Nat} {S : List KN}
theorem filt_nil {A : List Nat} : A.filter (fun j => decide (j ∉ ([] : List Nat))) = A := by simp
theorem mvd_nil (hk : F.kids p = A ++ B) : mvd F p A [] B = F := by
  unfold mvd
  rw [off_nil, filt_nil, filt_nil, hang_nil hk]
theorem off_kids (hk : F.kids p = A ++ B) : (F.off l).kids p = (A.filter fun j => decide (j ∉ l)) ++ (B.filter fun j => decide (j ∉ l)) := by
  simp only [Fo.off, hk, List.filter_append]
theorem mvd_ok (hF : F.ok) (hp : p < F.m) (hk : F.kids p = A ++ B) (h1 : ∀ c ∈ l, c < F.m ∧ p ≠ c) (h2 : l.Nodup) : (mvd F p A l B).ok :=
  hang_ok (off_ok hF) hp (off_kids hk) l (fun c hc => ⟨(h1 c hc).1, by simp [Fo.off, hc], (h1 c hc).2⟩) h2
theorem mvd_off (hcl : c ∉ l) : (mvd F p A l B).off [c] = (F.off (c :: l)).hang p (A.filter fun j => decide (j ∉ c :: l)) l (B.filter fun j => decide (j ∉ c :: l)) := by
  have hf : ∀ X : List Nat, (X.filter fun j => decide (j ∉ l)).filter (fun j => decide (j ∉ [c])) = X.filter fun j => decide (j ∉ c :: l) := fun X => by
    rw [List.filter_filter]
    congr 1
    funext j
    by_cases e : j = c <;> by_cases e2 : j ∈ l <;> simp [e, e2]
  have hl : l.filter (fun j => decide (j ∉ [c])) = l := List.filter_eq_self.2 fun j hj => by
    have : j ≠ c := fun e => hcl (e ▸ hj)
    simpa using this
  refine Fo.ext rfl (fun i => ?_) (fun i => ?_)
  · simp only [mvd, Fo.off, Fo.hang, List.mem_singleton, List.mem_cons]
    by_cases e : i = c
    · subst e; simp [hcl]
    · by_cases e2 : i ∈ l <;> simp [e, e2]
  · simp only [mvd, Fo.hang]
    by_cases e : i = p
    · simp only [Fo.off, if_pos e, List.filter_append, hf, hl]
    · simp only [Fo.off, if_neg e, hf]
theorem mvd_sp (hF : F.ok) (hp : p < F.m) (hk : F.kids p = A ++ B) (h1 : ∀ d ∈ c :: l, d < F.m ∧ p ≠ d) (h2 : (c :: l).Nodup) :
    Sp (mvd F p A (c :: l) B) ((mvd F p A l B).off [c]) p c (A.filter fun j => decide (j ∉ c :: l)) (l ++ B.filter fun j => decide (j ∉ c :: l)) := by
  obtain ⟨hcl, hl⟩ := List.nodup_cons.1 h2
  have hc := h1 c (by simp)
  have ok1 := mvd_ok hF hp hk (fun d hd => h1 d (by simp [hd])) hl
  have ok2 := off_ok (l := [c]) ok1
  have e := mvd_off (F := F) (p := p) (A := A) (B := B) hcl
  rw [e] at ok2 ⊢
  have h := Sp.ins (p := p) (c := c) (A := A.filter fun j => decide (j ∉ c :: l)) (B := l ++ B.filter fun j => decide (j ∉ c :: l)) ok2 hp hc.1 (show (if c ∈ l then some p else if c ∈ c :: l then none else F.up c) = none by rw [if_neg hcl, if_pos (by simp)]) hc.2 (show (if p = p then _ else _) = _ by rw [if_pos rfl, List.append_assoc])
  have e2 : ((F.off (c :: l)).hang p (A.filter fun j => decide (j ∉ c :: l)) l (B.filter fun j => decide (j ∉ c :: l))).setK p ((A.filter fun j => decide (j ∉ c :: l)) ++ c :: (l ++ B.filter fun j => decide (j ∉ c :: l))) c (some p) = mvd F p A (c :: l) B := Fo.ext rfl (fun i => by
    simp only [mvd, Fo.setK, Fo.hang, Fo.off, List.mem_cons]
    by_cases e : i = c <;> by_cases e2 : i ∈ l <;> simp [e, e2]) (fun i => by
    simp only [mvd, Fo.setK, Fo.hang]
    by_cases e : i = p <;> simp [e])
  rw [e2] at h
  exact h
theorem rem_off (hF : F.ok) (hu : F.up c = some q) : m_html_Node_RemoveChild (some q, some c, F.st L) = some ((F.off [c]).st L) := by
  obtain ⟨A, B, h⟩ := sp_of hF hu
  exact remove_eq h
theorem after1 (h : Sp F G p c (A ++ [x]) B) : m_goquery_Selection_AfterNodes_1 (some x, some c, G.st L) = some (F.st L) := by
  obtain ⟨hu, hm, hp, hc⟩ := h.kid (j := x) (.inl (by simp))
  have hm' : x < G.m := by rw [h.g]; exact hm
  have gx : (G.st L)[x]? = some (G.mk1 L x) := Fo.get hm'
  have e := h.at_a (L := L)
  have ep : (G.mk1 L x).par = some p := by rw [e]; exact hu
  have en : (G.mk1 L x).nxt = B.head? := by rw [e]
  simp only [m_goquery_Selection_AfterNodes_1, bind_some, gx, ep, en, Option.isNone_some, Bool.not_false, cond_true, insert_eq h]
end
theorem aft_loop {F : Fo} {L : Nat → HN} {p x : Nat} {A B rs : List Nat} (hF : F.ok) (hp : p < F.m) (hk : F.kids p = A ++ [x] ++ B) (h1 : ∀ d ∈ rs, d < F.m ∧ p ≠ d ∧ x ≠ d) (h2 : rs.Nodup) (hlen : rs.length ≤ 1000000) (s s' : List (Option Nat)) (i n : Int) :
    ∀ d j : Nat, rs.length - j = d → j ≤ rs.length → loopO m_goquery_Selection_manipulateNodes_aft_1_0 (s, rs.map some, (), i, i, some x, s', n, i, (), (rs.length : Int), (j : Int), (mvd F p (A ++ [x]) (rs.take j).reverse B).st L) = some (s, rs.map some, (), i, s', n, i, (mvd F p (A ++ [x]) rs.reverse B).st L) := by
  intro d
  induction d with
  | zero =>
    intro j hd hj
    obtain rfl : j = rs.length := by omega
    refine loopO_out ?_
    simp only [m_goquery_Selection_manipulateNodes_aft_1_0, cond_dec]
    rw [if_neg (by omega), List.take_of_length_le (Nat.le_refl _)]
  | succ d ih =>
    intro j hd hj
    obtain ⟨c, hc⟩ := get_lt (l := rs) (k := j) (by omega)
    have hg : (rs.map some)[j]? = some (some c) := by rw [List.getElem?_map, hc]; rfl
    have e1 : (rs.take (j + 1)).reverse = c :: (rs.take j).reverse := by
      rw [List.take_add_one, hc]; simp
    have hsub : ∀ d ∈ c :: (rs.take j).reverse, d ∈ rs := fun d hd => by
      rcases List.mem_cons.1 hd with rfl | hd
      · exact List.mem_of_getElem? hc
      · exact List.mem_of_mem_take (List.mem_reverse.1 hd)
    have hnd : (c :: (rs.take j).reverse).Nodup := by
      rw [← e1]
      exact (List.reverse_perm _).nodup_iff.2 (h2.sublist (List.take_sublist _ _))
    have hsp := mvd_sp (F := F) (p := p) (A := A ++ [x]) (B := B) hF hp hk (fun d hd => ⟨(h1 d (hsub d hd)).1, (h1 d (hsub d hd)).2.1⟩) hnd
    have hok := mvd_ok (F := F) (p := p) (A := A ++ [x]) (B := B) (l := (rs.take j).reverse) hF hp hk (fun d hd => ⟨(h1 d (hsub d (by simp [hd]))).1, (h1 d (hsub d (by simp [hd]))).2.1⟩) (List.nodup_cons.1 hnd).2
    have hx : x ∉ c :: (rs.take j).reverse := fun hx => (h1 x (hsub x hx)).2.2 rfl
    have hA : (A ++ [x]).filter (fun j' => decide (j' ∉ c :: (rs.take j).reverse)) = A.filter (fun j' => decide (j' ∉ c :: (rs.take j).reverse)) ++ [x] := by
      rw [List.filter_append]
      congr 1
      simp only [List.filter_cons, List.filter_nil, hx, not_false_eq_true, decide_true, if_true]
    rw [hA] at hsp
    have gc : ((mvd F p (A ++ [x]) (rs.take j).reverse B).st L)[c]? = some ((mvd F p (A ++ [x]) (rs.take j).reverse B).mk1 L c) := Fo.get (h1 c (List.mem_of_getElem? hc)).1
    have step : m_goquery_Selection_manipulateNodes_aft_1_0 (s, rs.map some, (), i, i, some x, s', n, i, (), (rs.length : Int), (j : Int), (mvd F p (A ++ [x]) (rs.take j).reverse B).st L) = some (.nx (s, rs.map some, (), i, i, some x, s', n, i, (), (rs.length : Int), ((j + 1 : Nat) : Int), (mvd F p (A ++ [x]) (rs.take (j + 1)).reverse B).st L)) := by
      simp only [m_goquery_Selection_manipulateNodes_aft_1_0, cond_dec, atI_nat, Int.toNat_natCast, hg, bind_some, gc]
      rw [if_pos (by omega), if_neg (by simp)]
      cases hu : (mvd F p (A ++ [x]) (rs.take j).reverse B).up c with
      | none =>
        have hpar : ((mvd F p (A ++ [x]) (rs.take j).reverse B).mk1 L c).par = none := hu
        simp only [hpar, Option.isNone_none, Bool.not_true, cond_false]
        rw [off_none hok hu] at hsp
        rw [after1 hsp, bind_some, e1, w64 (by omega) (by omega)]
        rfl
      | some q =>
        have hpar : ((mvd F p (A ++ [x]) (rs.take j).reverse B).mk1 L c).par = some q := hu
        simp only [hpar, Option.isNone_some, Bool.not_false, cond_true]
        rw [rem_off hok hu, bind_some, after1 hsp, bind_some, e1, w64 (by omega) (by omega)]
        rfl
    rw [loopO_nx step]
    exact ih (j + 1) (by omega) (by omega)
end Go.Proofs.Ytfmlpodcldhgdaa.V
set_option linter.unusedVariables false
set_option linter.unusedSimpArgs false
namespace Go.Proofs.Ytfmlpodcldhgdaa.V
open Go
theorem rev_loop (s : List (Option Nat)) (last : Int) (S : List HN) : ∀ (n : Nat) (A M C : List (Option Nat)), M.length ≤ n → A.length + M.length + C.length ≤ 1000000 →
    loopO m_goquery_Selection_manipulateNodes_aft_0 (s, A ++ M ++ C, (), last, (A.length : Int), ((A.length + M.length : Nat) : Int) - 1, S) = some (s, A ++ M.reverse ++ C, (), last, S) := by
  intro n
  induction n using Nat.strongRecOn with
  | _ n ih =>
    intro A M C hn hlen
    by_cases h2 : M.length ≤ 1
    · have hr : M.reverse = M := by
        match M, h2 with
        | [], _ => rfl
        | [a], _ => rfl
      refine loopO_out ?_
      simp only [m_goquery_Selection_manipulateNodes_aft_0, cond_dec]
      rw [if_neg (by omega), hr]
    · obtain ⟨a, M', b, rfl⟩ : ∃ a M' b, M = a :: (M' ++ [b]) := by
        match M, h2 with
        | [], h => simp at h
        | a :: M, h =>
          have hne : M ≠ [] := fun e => by subst e; simp at h
          exact ⟨a, M.dropLast, M.getLast hne, by rw [List.dropLast_concat_getLast hne]⟩
      simp only [List.length_cons, List.length_append, List.length_nil] at hn hlen
      have ej : ((A.length + (a :: (M' ++ [b])).length : Nat) : Int) - 1 = ((A.length + 1 + M'.length : Nat) : Int) := by simp; omega
      rw [ej]
      have e0 : A ++ a :: (M' ++ [b]) ++ C = A ++ a :: (M' ++ b :: C) := by simp
      rw [e0]
      have gi : (A ++ a :: (M' ++ b :: C))[A.length]? = some a := by simp
      have gj : (A ++ a :: (M' ++ b :: C))[A.length + 1 + M'.length]? = some b := by
        rw [show A ++ a :: (M' ++ b :: C) = (A ++ a :: M') ++ b :: C by simp, List.getElem?_append_right (by simp; omega)]
        simp
        rw [show A.length + 1 + M'.length - (A.length + (M'.length + 1)) = 0 by omega]; rfl
      have s1 : (A ++ a :: (M' ++ b :: C)).set A.length b = A ++ b :: (M' ++ b :: C) := by
        rw [List.set_append_right _ _ (Nat.le_refl _)]; simp
      have gj2 : (A ++ b :: (M' ++ b :: C))[A.length + 1 + M'.length]? = some b := by
        rw [show A ++ b :: (M' ++ b :: C) = (A ++ b :: M') ++ b :: C by simp, List.getElem?_append_right (by simp; omega)]
        simp
        rw [show A.length + 1 + M'.length - (A.length + (M'.length + 1)) = 0 by omega]; rfl
      have s2 : (A ++ b :: (M' ++ b :: C)).set (A.length + 1 + M'.length) a = (A ++ [b]) ++ M' ++ (a :: C) := by
        rw [show A ++ b :: (M' ++ b :: C) = (A ++ b :: M') ++ b :: C by simp, List.set_append_right _ _ (by simp; omega)]
        rw [show A.length + 1 + M'.length - (A ++ b :: M').length = 0 by simp; omega]
        simp
      have step : m_goquery_Selection_manipulateNodes_aft_0 (s, A ++ a :: (M' ++ b :: C), (), last, (A.length : Int), ((A.length + 1 + M'.length : Nat) : Int), S) = some (.nx (s, (A ++ [b]) ++ M' ++ (a :: C), (), last, ((A ++ [b]).length : Int), (((A ++ [b]).length + M'.length : Nat) : Int) - 1, S)) := by
        simp only [m_goquery_Selection_manipulateNodes_aft_0, cond_dec, atI_nat, Int.toNat_natCast, gi, gj, bind_some, s1, gj2, s2]
        rw [if_pos (by omega), w64 (by omega) (by omega), w64 (by omega) (by omega)]
        have h1 : (A.length : Int) + 1 = ((A ++ [b]).length : Int) := by simp
        have h2 : ((A.length + 1 + M'.length : Nat) : Int) - 1 = (((A ++ [b]).length + M'.length : Nat) : Int) - 1 := by simp
        rw [h1, h2]
      rw [loopO_nx step, ih M'.length (by omega) (A ++ [b]) M' (a :: C) (Nat.le_refl _) (by simp; omega)]
      simp
theorem after_eq {F : Fo} {L : Nat → HN} {p x : Nat} {A B cs : List Nat} (hF : F.ok) (hp : p < F.m) (hk : F.kids p = A ++ [x] ++ B) (h1 : ∀ d ∈ cs, d < F.m ∧ p ≠ d ∧ x ≠ d) (h2 : cs.Nodup) (hlen : cs.length ≤ 1000000) :
    m_goquery_Selection_AfterNodes ([some x], cs.map some, F.st L) = some ([some x], (mvd F p (A ++ [x]) cs B).st L) := by
  have hr := rev_loop [some x] 0 (F.st L) (cs.map some).length [] (cs.map some) [] (Nat.le_refl _) (by simp; omega)
  simp only [List.nil_append, List.append_nil, List.length_nil, Nat.zero_add] at hr
  have hr' : loopO m_goquery_Selection_manipulateNodes_aft_0 ([some x], cs.map some, (), 0, (0 : Int), ((cs.map some).length : Int) - 1, F.st L) = _ := hr
  have hl : ((cs.map some).reverse) = cs.reverse.map some := by rw [List.map_reverse]
  rw [hl] at hr'
  have hin := aft_loop (F := F) (L := L) (p := p) (x := x) (A := A) (B := B) (rs := cs.reverse) hF hp hk (fun d hd => h1 d (List.mem_reverse.1 hd)) ((List.reverse_perm _).nodup_iff.2 h2) (by simpa using hlen) [some x] [some x] 0 1 cs.reverse.length 0 (by omega) (Nat.zero_le _)
  rw [List.take_zero, List.reverse_nil, mvd_nil hk, List.reverse_reverse] at hin
  have hin' : loopO m_goquery_Selection_manipulateNodes_aft_1_0 ([some x], cs.reverse.map some, (), 0, 0, some x, [some x], 1, 0, (), (((cs.reverse.map some).length : Nat) : Int), (0 : Int), F.st L) = some ([some x], cs.reverse.map some, (), 0, [some x], 1, 0, (mvd F p (A ++ [x]) cs B).st L) := by
    rw [List.length_map]; exact hin
  have step : m_goquery_Selection_manipulateNodes_aft_1 ([some x], cs.reverse.map some, (), 0, [some x], 1, 0, F.st L) = some (.nx ([some x], cs.reverse.map some, (), 0, [some x], 1, 1, (mvd F p (A ++ [x]) cs B).st L)) := by
    simp only [m_goquery_Selection_manipulateNodes_aft_1, cond_dec]
    rw [if_pos (by omega)]
    have e : atI ([some x] : List (Option Nat)) 0 = some (some x) := rfl
    rw [e, bind_some, hin', bind_some]
    rfl
  have hout : loopO m_goquery_Selection_manipulateNodes_aft_1 ([some x], cs.reverse.map some, (), 0, [some x], 1, 0, F.st L) = some ([some x], cs.reverse.map some, (mvd F p (A ++ [x]) cs B).st L) := by
    rw [loopO_nx step]
    refine loopO_out ?_
    simp only [m_goquery_Selection_manipulateNodes_aft_1, cond_dec]
    rw [if_neg (by omega)]
  simp only [m_goquery_Selection_AfterNodes, m_goquery_Selection_manipulateNodes_aft, m_goquery_Selection_Size, m_goquery_Selection_Length, bind_some, cond_true]
  have e1 : IntKind.wrap .i64 ((([some x] : List (Option Nat)).length : Int) - 1) = 0 := by rw [w64 (by simp) (by simp)]; rfl
  rw [e1, w64 (n := ((cs.map some).length : Int) - 1) (by simp; omega) (by simp; omega), hr', bind_some]
  simp only []
  have e2 : (([some x] : List (Option Nat)).length : Int) = 1 := rfl
  rw [e2, hout]
  rfl
end Go.Proofs.Ytfmlpodcldhgdaa.V
set_option linter.unusedVariables false
set_option linter.unusedSimpArgs false
namespace Go.Proofs.Ytfmlpodcldhgdaa.V
open Go
end Go.Proofs.Ytfmlpodcldhgdaa.V
set_option linter.unusedVariables false
set_option linter.unusedSimpArgs false
namespace Go.Proofs.Ytfmlpodcldhgdaa.V
open Go
theorem loop_find {X B α : Type} {body : X → Option (Stp X B)} (l : List α) (p : α → Bool) (st : Nat → X) (no : B) (yes : Nat → B)
    (hs : ∀ k v, l[k]? = some v → body (st k) = some (if p v then .out (yes k) else .nx (st (k + 1)))) (he : body (st l.length) = some (.out no)) :
    loopO body (st 0) = some (match l.findIdx? p with | some i => yes i | none => no) := by
  have key : ∀ m k, l.length - k = m → k ≤ l.length → loopO body (st k) = some (match (l.drop k).findIdx? p with | some i => yes (k + i) | none => no) := by
    intro m
    induction m with
    | zero =>
      intro k hm hk
      have : k = l.length := by omega
      subst this
      rw [loopO_out he, List.drop_length]
      rfl
    | succ m ih =>
      intro k hm hk
      obtain ⟨v, hv⟩ := get_lt (l := l) (k := k) (by omega)
      have hd : l.drop k = v :: l.drop (k + 1) := by
        obtain ⟨h1, h2⟩ := List.getElem?_eq_some_iff.1 hv
        rw [← h2]
        exact List.drop_eq_getElem_cons h1
      have h := hs k v hv
      rw [hd, List.findIdx?_cons]
      cases hp : p v with
      | true =>
        rw [hp] at h
        rw [loopO_out h]
        simp
      | false =>
        rw [hp] at h
        rw [loopO_nx h, ih (k + 1) (by omega) (by omega)]
        simp only [Bool.false_eq_true, if_false]
        cases (l.drop (k + 1)).findIdx? p with
        | none => rfl
        | some i => simp only [Option.map_some]; rw [show k + 1 + i = k + (i + 1) by omega]
  have h := key l.length 0 (by omega) (Nat.zero_le _)
  rw [h, List.drop_zero]
  cases l.findIdx? p with
  | none => rfl
  | some i => simp
section
variable {t : List Node} {l : List Int}
end
def pts (l : List Int) : List (Option Nat) := l.map fun v => some v.toNat
theorem pts_get {l : List Int} {i : Nat} : (pts l)[i]? = (l[i]?).map fun v => some v.toNat := by simp [pts]
theorem pts_len (l : List Int) : (pts l).length = l.length := by simp [pts]
theorem these_eq (t : List Node) (l : List Int) (hl : l.length ≤ 2147483647) (h : ∀ (i : Nat) (v : Int), l[i]? = some v → 0 ≤ v ∧ v < t.length) : m_impl_these (ptrs t, l) = some (pts l, true) := by
  simp only [m_impl_these]
  have key : ∀ m k, l.length - k = m → k ≤ l.length → loopO m_impl_these_0 (ptrs t, pts (l.take k), l, (l.length : Int), (k : Int)) = some (.inl (pts l)) := by
    intro m
    induction m with
    | zero =>
      intro k hm hk
      refine loopO_out ?_
      simp only [m_impl_these_0, cond_dec]
      rw [if_neg (by omega), List.take_of_length_le (by omega)]
    | succ m ih =>
      intro k hm hk
      obtain ⟨v, hv⟩ := get_lt (l := l) (k := k) (by omega)
      obtain ⟨h1, h2⟩ := h k v hv
      obtain ⟨a, rfl⟩ := Int.eq_ofNat_of_zero_le h1
      have hlen : (pts (l.take k)).length = k := by rw [pts_len, List.length_take]; omega
      have step : m_impl_these_0 (ptrs t, pts (l.take k), l, (l.length : Int), (k : Int)) = some (.nx (ptrs t, pts (l.take (k + 1)), l, (l.length : Int), ((k + 1 : Nat) : Int))) := by
        simp only [m_impl_these_0, cond_dec, atI_nat]
        rw [if_pos (by omega), hv]
        simp only [bind_some, ptrs_len]
        rw [if_neg (by omega), if_neg (by omega), atI_nat, ptrs_get (by omega), bind_some, appL_some (by rw [hlen]; simp; omega), bind_some, w64 (by omega) (by omega), List.take_add_one, hv]
        simp [pts]
      rw [loopO_nx step]
      exact ih (k + 1) (by omega) (by omega)
  rw [show loopO m_impl_these_0 (ptrs t, [], l, (l.length : Int), (0 : Int)) = _ from key l.length 0 (by omega) (Nat.zero_le _), bind_some]
  rfl
def pos (l : List (Option Nat)) (v : Option Nat) : Int := match l.findIdx? (fun x => decide (x = v)) with
  | some i => (i : Int)
  | none => -1
theorem indexIn_eq (l : List (Option Nat)) (n : Nat) (hl : l.length ≤ 2147483647) : m_goquery_indexInSlice (l, some n) = some (pos l (some n)) := by
  simp only [m_goquery_indexInSlice, Option.isNone_some, Bool.not_false, cond_true]
  have h := loop_find (body := m_goquery_indexInSlice_0) l (fun x => decide (x = some n)) (fun k => (some n, l, (l.length : Int), (k : Int))) (.inl ()) (fun k => .inr (k : Int)) (fun k v hv => by
    have hk := (List.getElem?_eq_some_iff.1 hv).1
    simp only [m_goquery_indexInSlice_0, cond_dec, atI_nat]
    rw [if_pos (by omega), hv, bind_some, w64 (by omega) (by omega)]
    by_cases e : v = some n
    · rw [if_pos e]; simp [e]
    · rw [if_neg e]; simp [e]) (by
    simp only [m_goquery_indexInSlice_0, cond_dec]
    rw [if_neg (by omega)])
  rw [show loopO m_goquery_indexInSlice_0 (some n, l, (l.length : Int), (0 : Int)) = _ from h, bind_some]
  unfold pos
  cases l.findIdx? (fun x => decide (x = some n)) <;> rfl
theorem pos_none {l : List (Option Nat)} {v : Option Nat} (h : v ∉ l) : pos l v = -1 := by
  unfold pos
  have : l.findIdx? (fun x => decide (x = v)) = none := by
    rw [List.findIdx?_eq_none_iff]
    intro x hx
    have : x ≠ v := fun e => h (e ▸ hx)
    simpa using this
  rw [this]
theorem pos_mem {l : List (Option Nat)} {v : Option Nat} : -1 < pos l v ↔ v ∈ l := by
  constructor
  · intro h
    apply Decidable.byContradiction
    intro hn
    rw [pos_none hn] at h
    omega
  · intro h
    unfold pos
    cases hf : l.findIdx? (fun x => decide (x = v)) with
    | none =>
      rw [List.findIdx?_eq_none_iff] at hf
      have := hf v h
      simp at this
    | some i => simp only; omega
theorem isIn_eq (l : List (Option Nat)) (n : Nat) (hl : l.length ≤ 2147483647) : m_goquery_isInSlice (l, some n) = some (decide (some n ∈ l)) := by
  simp only [m_goquery_isInSlice, indexIn_eq l n hl, bind_some]
  congr 1
  rw [decide_eq_decide]
  exact pos_mem
theorem appSmall_eq (l : List Int) (hl : l.length < 1000) (hn : ∀ (i j : Nat) (v w : Int), i < j → l[i]? = some v → l[j]? = some w → v.toNat ≠ w.toNat) : m_goquery_appendWithoutDuplicates_small ([], pts l, ()) = some (pts l) := by
  simp only [m_goquery_appendWithoutDuplicates_small, cond_dec, List.length_nil, pts_len]
  rw [w64 (by omega) (by omega), if_pos (by omega)]
  have key : ∀ m k, l.length - k = m → k ≤ l.length → loopO m_goquery_appendWithoutDuplicates_small_0 (pts (l.take k), pts l, (l.length : Int), (k : Int)) = some (pts l) := by
    intro m
    induction m with
    | zero =>
      intro k hm hk
      refine loopO_out ?_
      simp only [m_goquery_appendWithoutDuplicates_small_0, cond_dec]
      rw [if_neg (by omega), List.take_of_length_le (by omega)]
    | succ m ih =>
      intro k hm hk
      obtain ⟨v, hv⟩ := get_lt (l := l) (k := k) (by omega)
      have hlen : (pts (l.take k)).length = k := by rw [pts_len, List.length_take]; omega
      have hnot : some v.toNat ∉ pts (l.take k) := fun hm => by
        obtain ⟨i, hi⟩ := List.mem_iff_getElem?.1 hm
        rw [pts_get] at hi
        cases hu : (l.take k)[i]? with
        | none => rw [hu] at hi; cases hi
        | some u =>
          rw [hu] at hi
          have hik : i < k := by
            have := (List.getElem?_eq_some_iff.1 hu).1
            rw [List.length_take] at this; omega
          rw [List.getElem?_take, if_pos hik] at hu
          have := hn i k u v hik hu hv
          simp at hi
          exact this hi
      have step : m_goquery_appendWithoutDuplicates_small_0 (pts (l.take k), pts l, (l.length : Int), (k : Int)) = some (.nx (pts (l.take (k + 1)), pts l, (l.length : Int), ((k + 1 : Nat) : Int))) := by
        simp only [m_goquery_appendWithoutDuplicates_small_0, cond_dec, atI_nat]
        rw [if_pos (by omega), pts_get, hv]
        simp only [Option.map_some, bind_some]
        rw [isIn_eq _ _ (by omega), bind_some, decide_eq_false hnot]
        simp only [Bool.not_false, cond_true]
        rw [appL_some (by rw [hlen]; simp; omega), bind_some, w64 (by omega) (by omega), List.take_add_one, hv]
        simp [pts]
      rw [loopO_nx step]
      exact ih (k + 1) (by omega) (by omega)
  rw [show loopO m_goquery_appendWithoutDuplicates_small_0 ([], pts l, (l.length : Int), (0 : Int)) = _ from key l.length 0 (by omega) (Nat.zero_le _), bind_some]
end Go.Proofs.Ytfmlpodcldhgdaa.V
set_option linter.unusedVariables false
set_option linter.unusedSimpArgs false
namespace Go.Proofs.Ytfmlpodcldhgdaa.V
open Go
def posL (l : List Nat) (c : Nat) : Int := if c ∈ l then (l.idxOf c : Int) else -1
theorem placeOf_pos {l : List Nat} (c : Nat) (hl : l.length ≤ 1000000) : m_impl_placeOf (l.map some, some c) = some (posL l c) := by
  have key : ∀ d j, l.length - j = d → j ≤ l.length → c ∉ l.take j → loopO m_impl_placeOf_0 (l.map some, some c, (l.length : Int), (j : Int)) = some (if c ∈ l then .inr (l.idxOf c : Int) else .inl ()) := by
    intro d
    induction d with
    | zero =>
      intro j hd hj hc
      rw [List.take_of_length_le (by omega)] at hc
      rw [if_neg hc]
      refine loopO_out ?_
      simp only [m_impl_placeOf_0, cond_dec]
      rw [if_neg (by omega)]
    | succ d ih =>
      intro j hd hj hc
      obtain ⟨a, ha⟩ := get_lt (l := l) (k := j) (by omega)
      have hg : (l.map some)[j]? = some (some a) := by rw [List.getElem?_map, ha]; rfl
      by_cases e : a = c
      · subst e
        rw [if_pos (List.mem_of_getElem? ha)]
        have hi : l.idxOf a = j := by
          have hs : l = l.take j ++ a :: l.drop (j + 1) := by
            obtain ⟨hlt, he⟩ := List.getElem?_eq_some_iff.1 ha
            rw [← he, ← List.drop_eq_getElem_cons hlt, List.take_append_drop]
          rw [hs, List.idxOf_append, if_neg hc]
          simp; omega
        rw [hi]
        refine loopO_out ?_
        simp only [m_impl_placeOf_0, cond_dec, atI_nat, hg, bind_some]
        rw [if_pos (by omega), if_pos trivial]
      · have step : m_impl_placeOf_0 (l.map some, some c, (l.length : Int), (j : Int)) = some (.nx (l.map some, some c, (l.length : Int), ((j + 1 : Nat) : Int))) := by
          simp only [m_impl_placeOf_0, cond_dec, atI_nat, hg, bind_some]
          rw [if_pos (by omega), if_neg (by intro h; exact e (Option.some.inj h)), w64 (by omega) (by omega)]
          rfl
        rw [loopO_nx step]
        refine ih (j + 1) (by omega) (by omega) ?_
        rw [List.take_add_one, ha]
        simp [hc, Ne.symm e]
  have h0 := key l.length 0 (by omega) (Nat.zero_le _) (by simp)
  have h0' : loopO m_impl_placeOf_0 (l.map some, some c, (((l.map some).length : Nat) : Int), (0 : Int)) = some (if c ∈ l then .inr (l.idxOf c : Int) else .inl ()) := by rw [List.length_map]; exact h0
  simp only [m_impl_placeOf, h0', bind_some, posL]
  split <;> rfl
theorem placesOf_pos {l m : List Nat} (hl : l.length ≤ 1000000) (hm : m.length ≤ 1000000) : m_impl_placesOf (l.map some, m.map some) = some (m.map (posL l)) := by
  have key : ∀ d j, m.length - j = d → j ≤ m.length → loopO m_impl_placesOf_0 (l.map some, (m.take j).map (posL l), m.map some, (m.length : Int), (j : Int)) = some (m.map (posL l)) := by
    intro d
    induction d with
    | zero =>
      intro j hd hj
      refine loopO_out ?_
      simp only [m_impl_placesOf_0, cond_dec]
      rw [if_neg (by omega), List.take_of_length_le (by omega)]
    | succ d ih =>
      intro j hd hj
      obtain ⟨a, ha⟩ := get_lt (l := m) (k := j) (by omega)
      have hg : (m.map some)[j]? = some (some a) := by rw [List.getElem?_map, ha]; rfl
      have step : m_impl_placesOf_0 (l.map some, (m.take j).map (posL l), m.map some, (m.length : Int), (j : Int)) = some (.nx (l.map some, (m.take (j + 1)).map (posL l), m.map some, (m.length : Int), ((j + 1 : Nat) : Int))) := by
        simp only [m_impl_placesOf_0, cond_dec, atI_nat, hg, bind_some, placeOf_pos a hl]
        rw [if_pos (by omega), appL_some (by simp; omega), bind_some, w64 (by omega) (by omega), List.take_add_one, ha]
        simp
      rw [loopO_nx step]
      exact ih (j + 1) (by omega) (by omega)
  have h0 := key m.length 0 (by omega) (Nat.zero_le _)
  have h0' : loopO m_impl_placesOf_0 (l.map some, [], m.map some, (((m.map some).length : Nat) : Int), (0 : Int)) = some (m.map (posL l)) := by rw [List.length_map]; exact h0
  simp only [m_impl_placesOf, h0', bind_some]
section
variable {F : Fo} {L : Nat → HN}
theorem ends_eq (hF : F.ok) (ha : ∀ i, i < F.m → (L i).attrs.length ≤ 1000000) {n : Nat} (hb : big = n) {m : List Nat} {r : Nat} (hm : m[0]? = some r) (hr : r < F.m) (hh : Ht F.kids n r) (hl : (idsF F.kids n r).length ≤ 1000000) (hml : m.length ≤ 1000000) :
    m_impl_world_ends ((m.map some, ()), F.st L) = some (nodesF F.kids (fun i => kn (L i)) n r, m.map (posL (idsF F.kids n r)), F.st L) := by
  have htk := taken_eq hF ha n r [] [] hr hh (by simpa using hl) (by simpa using hl)
  rw [List.nil_append, List.nil_append] at htk
  have hg : atI (m.map some) 0 = some (some r) := by
    rw [show (0 : Int) = ((0 : Nat) : Int) from rfl, atI_nat, List.getElem?_map, hm]; rfl
  simp only [m_impl_world_ends, hg, bind_some, hb, htk, placesOf_pos hl hml]
theorem remove1 (hF : F.ok) {x : Nat} (hx : x < F.m) : m_goquery_Selection_Remove ([some x], F.st L) = some ([some x], (F.off [x]).st L) := by
  have gx : (F.st L)[x]? = some (F.mk1 L x) := Fo.get hx
  have e : atI ([some x] : List (Option Nat)) 0 = some (some x) := rfl
  have step : m_goquery_Selection_Remove_0 ([some x], [some x], 1, 0, F.st L) = some (.nx ([some x], [some x], 1, 1, (F.off [x]).st L)) := by
    simp only [m_goquery_Selection_Remove_0, cond_dec, e, bind_some, gx]
    rw [if_pos (by omega)]
    cases hu : F.up x with
    | none =>
      have hpar : (F.mk1 L x).par = none := hu
      simp only [hpar, Option.isNone_none, Bool.not_true, cond_false]
      rw [off_none hF hu]
      rfl
    | some q =>
      have hpar : (F.mk1 L x).par = some q := hu
      simp only [hpar, Option.isNone_some, Bool.not_false, cond_true]
      rw [rem_off hF hu, bind_some]
      rfl
  have hout : loopO m_goquery_Selection_Remove_0 ([some x], [some x], 1, 0, F.st L) = some ([some x], (F.off [x]).st L) := by
    rw [loopO_nx step]
    refine loopO_out ?_
    simp only [m_goquery_Selection_Remove_0, cond_dec]
    rw [if_neg (by omega)]
  have e2 : (([some x] : List (Option Nat)).length : Int) = 1 := rfl
  simp only [m_goquery_Selection_Remove]
  rw [e2, hout, bind_some]
end
end Go.Proofs.Ytfmlpodcldhgdaa.V
set_option linter.unusedVariables false
set_option linter.unusedSimpArgs false
namespace Go.Proofs.Ytfmlpodcldhgdaa.V
open Go
structure Ds (t : List Node) (l : List Nat) : Prop where
  bd : ∀ v ∈ l, v < t.length
  nd : l.Nodup
theorem Ds.len {t : List Node} {l : List Nat} (h : Ds t l) (ht : t.length ≤ 200) : l.length ≤ 200 := by
  have h1 : l ⊆ List.range t.length := fun v hv => List.mem_range.2 (h.bd v hv)
  have h2 := h.nd.length_le_of_subset h1
  rw [List.length_range] at h2
  omega
def intsN (l : List Nat) : List Int := l.map Int.ofNat
theorem intsN_get {l : List Nat} {i : Nat} {v : Int} (h : (intsN l)[i]? = some v) : ∃ k, l[i]? = some k ∧ v = (k : Int) := by
  rw [intsN, List.getElem?_map] at h
  cases hk : l[i]? with
  | none => rw [hk] at h; cases h
  | some k => rw [hk] at h; exact ⟨k, rfl, (Option.some.inj h).symm⟩
theorem pts_intsN {l : List Nat} : pts (intsN l) = l.map some := by
  simp [pts, intsN, List.map_map, Function.comp_def]
theorem these_nat {t : List Node} {l : List Nat} (hR : RT t) (h : Ds t l) : m_impl_these (ptrs t, intsN l) = some (l.map some, true) := by
  have h1 := h.len hR.len
  rw [these_eq t (intsN l) (by simp [intsN]; omega) (fun i v hv => by
    obtain ⟨k, hk, rfl⟩ := intsN_get hv
    have := h.bd k (List.mem_of_getElem? hk)
    omega), pts_intsN]
theorem selected_eq {t : List Node} {l : List Nat} (hf : fits1 t = true) (hR : RT t) (h : Ds t l) : m_impl_selected (t, intsN l, []) = some ((ptrs t, ()), l.map some, true, store t) := by
  have h1 := hR.pos
  have h2 := hR.len
  have h3 := h.len h2
  have hn : ∀ (i j : Nat) (v w : Int), i < j → (intsN l)[i]? = some v → (intsN l)[j]? = some w → v.toNat ≠ w.toNat := fun i j v w hij hv hw e => by
    obtain ⟨a, ha, rfl⟩ := intsN_get hv
    obtain ⟨b, hb, rfl⟩ := intsN_get hw
    obtain ⟨x1, x2⟩ := List.getElem?_eq_some_iff.1 ha
    obtain ⟨y1, y2⟩ := List.getElem?_eq_some_iff.1 hb
    have := List.pairwise_iff_getElem.1 h.nd i j x1 y1 hij
    rw [x2, y2] at this
    exact this (by simpa using e)
  simp only [m_impl_selected, m_impl_begun, grown_eq t hf hR, bind_some, these_nat hR h, Bool.not_true, cond_false, atI_zero, ptrs_get h1]
  have hz : (ptrs t)[Int.toNat 0]? = some (some 0) := ptrs_get h1
  simp only [hz, bind_some]
  simp only [m_goquery_NewDocumentFromNode, m_goquery_newDocument, m_goquery_newSingleSelection, bind_some, m_goquery_Selection_Eq_nil, cond_dec, List.length_singleton]
  rw [if_neg (by omega), if_pos (by omega)]
  have happ := appSmall_eq (intsN l) (by simp [intsN]; omega) hn
  rw [pts_intsN] at happ
  simp only [m_goquery_newEmptySelection, bind_some, Bool.not_true, cond_false, these_nat hR h, m_goquery_Selection_AddNodes_nil, happ, m_goquery_pushStack]
section
variable {t : List Node} {p x : Nat} {A B cs : List Nat}
def tree (t : List Node) (G : Fo) (n : Nat) : List Node := nodesF G.kids (fun i => kn (bs0 t i)) n 0
def spots (t : List Node) (G : Fo) (n : Nat) : List Int := (List.range t.length).map (posL (idsF G.kids n 0))
theorem ends_of (hR : RT t) {G : Fo} (hG : G.ok) (hm : G.m = t.length) {n : Nat} (hb : big = n) (hh : Ht G.kids n 0) (hl : (idsF G.kids n 0).length ≤ 1000000) :
    m_impl_world_ends ((ptrs t, ()), G.st (bs0 t)) = some (tree t G n, spots t G n, G.st (bs0 t)) := by
  have h1 := hR.pos
  have h2 := hR.len
  exact ends_eq hG (fun i _ => by have := bs0_attrs hR i; omega) hb (m := List.range t.length) (r := 0) (by simp [h1]) (by omega) hh hl (by simp; omega)
end
end Go.Proofs.Ytfmlpodcldhgdaa.V
set_option linter.unusedVariables false
set_option linter.unusedSimpArgs false
namespace Go.Proofs.Ytfmlpodcldhgdaa.V
open Go
theorem ht_rank {K : Nat → List Nat} {r : Nat → Nat} (h : ∀ x y, y ∈ K x → r y < r x) : ∀ (m x : Nat), r x < m → Ht K m x
  | 0, x, hx => by omega
  | m + 1, x, hx => fun y hy => ht_rank h m y (by have := h x y hy; omega)
def Hld (t : List Node) (a b : Nat) : Prop := a ≤ b ∧ b < a + sz t a
end Go.Proofs.Ytfmlpodcldhgdaa.V
set_option linter.unusedVariables false
set_option linter.unusedSimpArgs false
namespace Go.Proofs.Ytfmlpodcldhgdaa.V
open Go
theorem loop_each {X B : Type} {body : X → Option (Stp X B)} {st : Nat → X} {n : Nat} {good bad : B} {p : Nat → Prop} (h : ∀ k, k < n → body (st k) = some (.out bad) ∨ (body (st k) = some (.nx (st (k + 1))) ∧ p k)) (he : body (st n) = some (.out good)) :
    ∀ k, k ≤ n → ∃ y, loopO body (st k) = some y ∧ (y = bad ∨ (y = good ∧ ∀ j, k ≤ j → j < n → p j)) := by
  have key : ∀ d k, n - k = d → k ≤ n → ∃ y, loopO body (st k) = some y ∧ (y = bad ∨ (y = good ∧ ∀ j, k ≤ j → j < n → p j)) := by
    intro d
    induction d with
    | zero =>
      intro k hd hk
      obtain rfl : k = n := by omega
      exact ⟨_, loopO_out he, .inr ⟨rfl, fun j h1 h2 => by omega⟩⟩
    | succ d ih =>
      intro k hd hk
      rcases h k (by omega) with h1 | ⟨h1, h2⟩
      · exact ⟨_, loopO_out h1, .inl rfl⟩
      · obtain ⟨y, g1, g2⟩ := ih (k + 1) (by omega) (by omega)
        refine ⟨y, by rw [loopO_nx h1]; exact g1, g2.imp id fun ⟨e, g3⟩ => ⟨e, fun j j1 j2 => ?_⟩⟩
        by_cases e2 : j = k
        · subst e2; exact h2
        · exact g3 j (by omega) j2
  exact fun k hk => key _ k rfl hk
section
variable {t : List Node} {P : Nat → Int × Node} {ws on : List Nat}
end
section
variable {F : Fo} {P : Nat → Int × Node} {on : List Nat}
end
end Go.Proofs.Ytfmlpodcldhgdaa.V
set_option linter.unusedVariables false
set_option linter.unusedSimpArgs false
namespace Go.Proofs.Ytfmlpodcldhgdaa.V
open Go
def putP (P : Nat → Int × Node) : List Nat → Nat → List Int → List Int
  | [], _, at' => at'
  | z :: l, k, at' => putP P l (k + 1) (if 0 ≤ (P z).1 ∧ (P z).1 < at'.length then at'.set (P z).1.toNat (k : Int) else at')
theorem putP_len {P : Nat → Int × Node} : ∀ {l : List Nat} {k : Nat} {at' : List Int}, (putP P l k at').length = at'.length
  | [], _, _ => rfl
  | z :: l, k, at' => by
    simp only [putP, putP_len]
    split <;> simp
theorem putP_app {P : Nat → Int × Node} : ∀ {l m : List Nat} {k : Nat} {at' : List Int}, putP P (l ++ m) k at' = putP P m (k + l.length) (putP P l k at')
  | [], _, _, _ => rfl
  | z :: l, m, k, at' => by
    simp only [List.cons_append, putP, putP_app, List.length_cons]
    rw [show k + 1 + l.length = k + (l.length + 1) by omega]
section
variable {F : Fo} {P : Nat → Int × Node}
theorem listed_eq (hF : F.ok) : ∀ (n x : Nat) (T : List Node) (A : List Int), x < F.m → Ht F.kids n x → T.length + (idsF F.kids n x).length ≤ 1000000 → A.length ≤ 1000000 →
    m_spec_knot_listed n (some x, T, A, F.kst P) = some (T ++ nodesF F.kids (fun i => (P i).2) n x, putP P (idsF F.kids n x) T.length A, F.kst P)
  | 0, _, _, _, _, h, _, _ => h.elim
  | n + 1, x, T, A, hx, hh, hT, hA => by
    have hg := Fo.kget (F := F) (P := P) hx
    have hkk : (F.kn1 P x).kids = (F.kids x).map some := rfl
    have hkn : (F.kn1 P x).n = (P x).2 := rfl
    have hkp : (F.kn1 P x).pl = (P x).1 := rfl
    simp only [idsF, List.length_cons, List.length_flatMap] at hT
    have hklen : ((F.kids x).map fun y => (idsF F.kids n y).length).sum = ((F.kids x).flatMap (idsF F.kids n)).length := by rw [List.length_flatMap]
    have hle : (F.kids x).length ≤ ((F.kids x).flatMap (idsF F.kids n)).length := by
      have : ∀ l : List Nat, (∀ y ∈ l, Ht F.kids n y) → l.length ≤ (l.flatMap (idsF F.kids n)).length := fun l => by
        induction l with
        | nil => simp
        | cons a l ih =>
          intro h
          have h1 := ih fun y hy => h y (by simp [hy])
          have h2 : 1 ≤ (idsF F.kids n a).length := by
            have := h a (by simp)
            cases n with
            | zero => exact this.elim
            | succ n => simp [idsF]
          rw [List.flatMap_cons, List.length_append, List.length_cons]
          omega
      exact this _ hh
    have key : ∀ (A : List Int), A.length ≤ 1000000 → ∀ d j, (F.kids x).length - j = d → j ≤ (F.kids x).length → loopO (m_spec_knot_listed_0 (m_spec_knot_listed n)) (some x, T ++ [(P x).2] ++ ((F.kids x).take j).flatMap (nodesF F.kids (fun i => (P i).2) n), putP P (((F.kids x).take j).flatMap (idsF F.kids n)) (T.length + 1) A, (T.length : Int), (j : Int), F.kst P)
        = some (T ++ [(P x).2] ++ (F.kids x).flatMap (nodesF F.kids (fun i => (P i).2) n), putP P ((F.kids x).flatMap (idsF F.kids n)) (T.length + 1) A, (T.length : Int), F.kst P) := by
      intro A hA d
      induction d with
      | zero =>
        intro j hd hj
        obtain rfl : j = (F.kids x).length := by omega
        refine loopO_out ?_
        simp only [m_spec_knot_listed_0, bind_some, hg, hkk, cond_dec, List.length_map]
        rw [if_neg (by omega), List.take_of_length_le (Nat.le_refl _)]
      | succ d ih =>
        intro j hd hj
        obtain ⟨y, hy⟩ := get_lt (l := F.kids x) (k := j) (by omega)
        have hym := List.mem_of_getElem? hy
        obtain ⟨hu, hym2⟩ := hF.kid hym
        have e1 : (F.kids x).take (j + 1) = (F.kids x).take j ++ [y] := by rw [List.take_add_one, hy]; rfl
        have hsum : (((F.kids x).take (j + 1)).map fun y => (idsF F.kids n y).length).sum ≤ ((F.kids x).map fun y => (idsF F.kids n y).length).sum := by
          have h1 : F.kids x = (F.kids x).take (j + 1) ++ (F.kids x).drop (j + 1) := (List.take_append_drop _ _).symm
          conv => rhs; rw [h1]
          rw [List.map_append, List.sum_append]
          omega
        rw [e1, List.map_append, List.sum_append] at hsum
        simp only [List.map_cons, List.map_nil, List.sum_cons, List.sum_nil] at hsum
        have hlI : (((F.kids x).take j).flatMap (idsF F.kids n)).length = (((F.kids x).take j).map fun y => (idsF F.kids n y).length).sum := by rw [List.length_flatMap]
        have hlN : (((F.kids x).take j).flatMap (nodesF F.kids (fun i => (P i).2) n)).length = (((F.kids x).take j).map fun y => (idsF F.kids n y).length).sum := by
          rw [List.length_flatMap]
          congr 1
          exact List.map_congr_left fun y _ => nodesF_len n y
        have hky : ((F.kids x).map some)[j]? = some (some y) := by rw [List.getElem?_map, hy]; rfl
        have step : m_spec_knot_listed_0 (m_spec_knot_listed n) (some x, T ++ [(P x).2] ++ ((F.kids x).take j).flatMap (nodesF F.kids (fun i => (P i).2) n), putP P (((F.kids x).take j).flatMap (idsF F.kids n)) (T.length + 1) A, (T.length : Int), (j : Int), F.kst P)
            = some (.nx (some x, T ++ [(P x).2] ++ ((F.kids x).take (j + 1)).flatMap (nodesF F.kids (fun i => (P i).2) n), putP P (((F.kids x).take (j + 1)).flatMap (idsF F.kids n)) (T.length + 1) A, (T.length : Int), ((j + 1 : Nat) : Int), F.kst P)) := by
          simp only [m_spec_knot_listed_0, bind_some, hg, hkk, cond_dec, List.length_map, atI_nat, Int.toNat_natCast, hky]
          rw [if_pos (by omega), listed_eq hF n y _ _ hym2 (hh y hym) (by simp only [List.length_append, List.length_cons, List.length_nil, hlN]; omega) (by rw [putP_len]; exact hA), bind_some, w64 (by omega) (by omega), e1]
          simp only [List.flatMap_append, List.flatMap_cons, List.flatMap_nil, List.append_nil, List.append_assoc, putP_app]
          have e2 : (T ++ ([(P x).2] ++ ((F.kids x).take j).flatMap (nodesF F.kids (fun i => (P i).2) n))).length = T.length + 1 + (((F.kids x).take j).flatMap (idsF F.kids n)).length := by
            simp only [List.length_append, List.length_cons, List.length_nil, hlN, hlI]; omega
          rw [e2]
          rfl
        rw [loopO_nx step]
        exact ih (j + 1) (by omega) (by omega)
    have h0 : ∀ (A : List Int), A.length ≤ 1000000 → loopO (m_spec_knot_listed_0 (m_spec_knot_listed n)) (some x, T ++ [(P x).2], A, (T.length : Int), (0 : Int), F.kst P) = some (T ++ [(P x).2] ++ (F.kids x).flatMap (nodesF F.kids (fun i => (P i).2) n), putP P ((F.kids x).flatMap (idsF F.kids n)) (T.length + 1) A, (T.length : Int), F.kst P) := fun A hA => by
      have h := key A hA (F.kids x).length 0 (by omega) (Nat.zero_le _)
      simp only [List.take_zero, List.flatMap_nil, List.append_nil, putP] at h
      exact h
    have hlN : ((F.kids x).flatMap (nodesF F.kids (fun i => (P i).2) n)).length = ((F.kids x).map fun y => (idsF F.kids n y).length).sum := by
      rw [List.length_flatMap]
      congr 1
      exact List.map_congr_left fun y _ => nodesF_len n y
    have hget : (T ++ [(P x).2] ++ (F.kids x).flatMap (nodesF F.kids (fun i => (P i).2) n))[T.length]? = some (P x).2 := by simp
    have hset : ∀ v : Node, (T ++ [(P x).2] ++ (F.kids x).flatMap (nodesF F.kids (fun i => (P i).2) n)).set T.length v = T ++ v :: (F.kids x).flatMap (nodesF F.kids (fun i => (P i).2) n) := fun v => by
      rw [List.append_assoc, List.set_append_right _ _ (Nat.le_refl _)]
      simp
    have hsz : ((T ++ [(P x).2] ++ (F.kids x).flatMap (nodesF F.kids (fun i => (P i).2) n)).length : Int) - (T.length : Int) = 1 + (((F.kids x).flatMap (nodesF F.kids (fun i => (P i).2) n)).length : Nat) := by
      simp only [List.length_append, List.length_cons, List.length_nil]
      omega
    have hw : IntKind.wrap .i64 (((T ++ [(P x).2] ++ (F.kids x).flatMap (nodesF F.kids (fun i => (P i).2) n)).length : Int) - (T.length : Int)) = 1 + (((F.kids x).flatMap (nodesF F.kids (fun i => (P i).2) n)).length : Nat) := by
      rw [w64 (by simp only [List.length_append, List.length_cons, List.length_nil, hlN]; omega) (by simp only [List.length_append, List.length_cons, List.length_nil, hlN]; omega), hsz]
    show b_spec_knot_listed (m_spec_knot_listed n) (some x, T, A, F.kst P) = _
    simp only [b_spec_knot_listed, bind_some, hg, hkn, hkp, cond_dec]
    rw [appL_some (by simp; omega)]
    simp only [bind_some]
    by_cases h1 : 0 ≤ (P x).1
    · rw [if_pos h1]
      by_cases h2 : (P x).1 < (A.length : Int)
      · rw [if_pos h2]
        obtain ⟨v, hv⟩ := get_lt (l := A) (k := (P x).1.toNat) (by omega)
        have hv1 : atI A (P x).1 = some v := by
          have : (P x).1 = (((P x).1.toNat : Nat) : Int) := by omega
          rw [this, atI_nat]
          simpa using hv
        rw [hv1, bind_some, hv, bind_some, h0 _ (by simpa using hA), bind_some]
        simp only [atI_nat, Int.toNat_natCast, hget, bind_some, hset, hw]
        simp only [nodesF, idsF, putP]
        rw [if_pos ⟨h1, h2⟩]
      · rw [if_neg h2, h0 _ hA, bind_some]
        simp only [atI_nat, Int.toNat_natCast, hget, bind_some, hset, hw]
        simp only [nodesF, idsF, putP]
        rw [if_neg (fun h => h2 h.2)]
    · rw [if_neg h1, h0 _ hA, bind_some]
      simp only [atI_nat, Int.toNat_natCast, hget, bind_some, hset, hw]
      simp only [nodesF, idsF, putP]
      rw [if_neg (fun h => h1 h.1)]
end
end Go.Proofs.Ytfmlpodcldhgdaa.V
set_option linter.unusedVariables false
set_option linter.unusedSimpArgs false
namespace Go.Proofs.Ytfmlpodcldhgdaa.V
open Go
def upn (F : Fo) : Nat → Nat → Option Nat
  | 0, z => some z
  | k + 1, z => (upn F k z).bind F.up
section
variable {F : Fo} {r : Nat → Nat}
theorem upn_add : ∀ (b a z : Nat), upn F (a + b) z = (upn F a z).bind (upn F b)
  | 0, a, z => by cases h : upn F a z <;> simp [upn, h]
  | b + 1, a, z => by
    show (upn F (a + b) z).bind F.up = _
    rw [upn_add b a z]
    cases h : upn F a z <;> simp [upn]
theorem upn_rank (hF : F.ok) (hr : ∀ x y, y ∈ F.kids x → r y < r x) : ∀ (k z x : Nat), upn F k z = some x → r z + k ≤ r x
  | 0, z, x, h => by cases h; omega
  | k + 1, z, x, h => by
    simp only [upn] at h
    cases hy : upn F k z with
    | none => rw [hy] at h; cases h
    | some y =>
      rw [hy] at h
      have h1 := upn_rank hF hr k z y hy
      have h2 := hr x y (hF.up h).2
      omega
theorem ids_up (hF : F.ok) : ∀ (n x z : Nat), z ∈ idsF F.kids n x → ∃ k, upn F k z = some x
  | 0, x, z, h => by simp [idsF] at h
  | n + 1, x, z, h => by
    simp only [idsF, List.mem_cons, List.mem_flatMap] at h
    rcases h with rfl | ⟨y, hy, hz⟩
    · exact ⟨0, rfl⟩
    · obtain ⟨k, hk⟩ := ids_up hF n y z hz
      exact ⟨k + 1, by simp only [upn, hk, Option.bind_some]; exact (hF.kid hy).1⟩
theorem ids_apart (hF : F.ok) (hr : ∀ x y, y ∈ F.kids x → r y < r x) {x a b z k l : Nat} (ha : F.up a = some x) (hb : F.up b = some x) (h1 : upn F k z = some a) (h2 : upn F l z = some b) (hkl : k ≤ l) : a = b := by
  by_cases e : k = l
  · subst e; rw [h1] at h2; exact Option.some.inj h2
  · have h3 := upn_add (F := F) (l - k) k z
    rw [show k + (l - k) = l by omega, h2, h1, Option.bind_some] at h3
    have h4 := upn_add (F := F) (l - k - 1) 1 a
    rw [show 1 + (l - k - 1) = l - k by omega, ← h3] at h4
    have h5 : upn F 1 a = some x := by simp [upn, ha]
    rw [h5, Option.bind_some] at h4
    have h6 := upn_rank hF hr _ _ _ h4.symm
    have h7 := hr x b (hF.up hb).2
    omega
theorem ids_nodup (hF : F.ok) (hr : ∀ x y, y ∈ F.kids x → r y < r x) : ∀ (n x : Nat), (idsF F.kids n x).Nodup
  | 0, x => by simp [idsF]
  | n + 1, x => by
    simp only [idsF]
    refine List.nodup_cons.2 ⟨fun h => ?_, ?_⟩
    · obtain ⟨y, hy, hz⟩ := List.mem_flatMap.1 h
      obtain ⟨k, hk⟩ := ids_up hF n y x hz
      have h1 := upn_rank hF hr k x y hk
      have h2 := hr x y hy
      omega
    · unfold List.Nodup
      rw [List.pairwise_flatMap]
      refine ⟨fun y _ => ids_nodup hF hr n y, (hF.nd x).imp_of_mem fun {a b} ha hb hab z hz w hw e => ?_⟩
      subst e
      obtain ⟨k, hk⟩ := ids_up hF n a z hz
      obtain ⟨l, hl⟩ := ids_up hF n b z hw
      have ua := (hF.kid ha).1
      have ub := (hF.kid hb).1
      by_cases e : k ≤ l
      · exact hab (ids_apart hF hr ua ub hk hl e)
      · exact hab (ids_apart hF hr ub ua hl hk (by omega)).symm
theorem ids_lt (hF : F.ok) : ∀ (n x : Nat), x < F.m → ∀ z ∈ idsF F.kids n x, z < F.m
  | 0, x, _, z, h => by simp [idsF] at h
  | n + 1, x, hx, z, h => by
    simp only [idsF, List.mem_cons, List.mem_flatMap] at h
    rcases h with rfl | ⟨y, hy, hz⟩
    · exact hx
    · exact ids_lt hF n y (hF.kid hy).2 z hz
theorem ids_len (hF : F.ok) (hr : ∀ x y, y ∈ F.kids x → r y < r x) (n : Nat) {x : Nat} (hx : x < F.m) : (idsF F.kids n x).length ≤ F.m := by
  have h := (ids_nodup hF hr n x).length_le_of_subset (l₂ := List.range F.m) (fun z hz => List.mem_range.2 (ids_lt hF n x hx z hz))
  rwa [List.length_range] at h
end
end Go.Proofs.Ytfmlpodcldhgdaa.V
set_option linter.unusedVariables false
set_option linter.unusedSimpArgs false
namespace Go.Proofs.Ytfmlpodcldhgdaa.V
open Go
theorem flat_congr {α β : Type} {f g : α → List β} : ∀ {l : List α}, (∀ y ∈ l, f y = g y) → l.flatMap f = l.flatMap g
  | [], _ => rfl
  | a :: l, h => by rw [List.flatMap_cons, List.flatMap_cons, h a (by simp), flat_congr fun y hy => h y (by simp [hy])]
theorem flat_split {α β : Type} {f : α → List β} : ∀ {l : List α} {j : Nat}, j < (l.flatMap f).length → ∃ A c B k, l = A ++ c :: B ∧ k < (f c).length ∧ j = (A.flatMap f).length + k
  | [], j, h => by simp at h
  | a :: l, j, h => by
    rw [List.flatMap_cons, List.length_append] at h
    by_cases e : j < (f a).length
    · exact ⟨[], a, l, j, rfl, e, by simp⟩
    · obtain ⟨A, c, B, k, e1, e2, e3⟩ := flat_split (f := f) (l := l) (j := j - (f a).length) (by omega)
      exact ⟨a :: A, c, B, k, by rw [e1]; rfl, e2, by rw [List.flatMap_cons, List.length_append]; omega⟩
section
variable {K : Nat → List Nat} {N : Nat → Node} {n : Nat} {r x y z a b c i : Nat} {A B : List Nat}
theorem flat_len (l : List Nat) : (l.flatMap (nodesF K N n)).length = (l.flatMap (idsF K n)).length := by
  rw [List.length_flatMap, List.length_flatMap]
  congr 1
  exact List.map_congr_left fun y _ => nodesF_len n y
end
end Go.Proofs.Ytfmlpodcldhgdaa.V
set_option linter.unusedVariables false
set_option linter.unusedSimpArgs false
namespace Go.Proofs.Ytfmlpodcldhgdaa.V
open Go
section
variable {t : List Node} {G : Fo} {n i z : Nat}
end
end Go.Proofs.Ytfmlpodcldhgdaa.V
set_option linter.unusedVariables false
set_option linter.unusedSimpArgs false
namespace Go.Proofs.Ytfmlpodcldhgdaa.V
open Go
section
variable {t : List Node} {p c d x y z : Nat} {cs A B : List Nat} {n : Nat}
theorem ft_mem (h : y ∈ (FT t).kids x) : x < t.length ∧ y ∈ kidsN t x := by
  simp only [FT] at h
  by_cases e : x < t.length
  · rw [if_pos e] at h; exact ⟨e, h⟩
  · rw [if_neg e] at h; cases h
theorem kid_facts (hR : RT t) (h : y ∈ (FT t).kids x) : x < y ∧ y < x + sz t x ∧ y < t.length ∧ x < t.length ∧ par t y = some x := by
  obtain ⟨h1, h2⟩ := ft_mem h
  have h3 := kids_par (hR.L h1) h2
  have h4 := par_some h3
  have h5 := hR.le h1
  exact ⟨h4.1, h4.2.1, by omega, h1, h3⟩
theorem filt_all {X : List Nat} (h : ∀ y ∈ X, y ∉ cs) : X.filter (fun j => decide (j ∉ cs)) = X := by
  rw [List.filter_eq_self]
  intro y hy
  simpa using h y hy
end
end Go.Proofs.Ytfmlpodcldhgdaa.V
set_option linter.unusedVariables false
set_option linter.unusedSimpArgs false
namespace Go.Proofs.Ytfmlpodcldhgdaa.V
open Go
section
variable {t : List Node} {p x : Nat} {A B cs : List Nat}
end
end Go.Proofs.Ytfmlpodcldhgdaa.V
set_option linter.unusedVariables false
set_option linter.unusedSimpArgs false
namespace Go.Proofs.Ytfmlpodcldhgdaa.V
open Go
theorem chosen_in (a : Int) (b : Bool) {on : List Int} (r ks : List (Option Nat)) {i : Nat} (hi : i < on.length) (hlen : on.length ≤ 2147483647) : ∀ d j : Nat, i - j = d → j ≤ i →
    ∃ y, loopO m_spec_forest_chosen_0_0 (((), a, b), on, r, (i : Int), (j : Int), ks) = some y ∧ (y = .inr (((), a, b), [], false, ks) ∨ (y = .inl (((), a, b), on, r, (i : Int), ks) ∧ ∀ k : Nat, j ≤ k → k < i → on[k]? ≠ on[i]?)) := by
  intro d
  induction d with
  | zero =>
    intro j hd hj
    refine ⟨_, loopO_out (b := .inl (((), a, b), on, r, (i : Int), ks)) ?_, .inr ⟨rfl, fun k h1 h2 => by omega⟩⟩
    simp only [m_spec_forest_chosen_0_0, cond_dec]
    rw [if_neg (by omega)]
  | succ d ih =>
    intro j hd hj
    obtain ⟨v, hv⟩ := get_lt (l := on) (k := j) (by omega)
    obtain ⟨w, hw⟩ := get_lt (l := on) (k := i) hi
    by_cases e : v = w
    · refine ⟨_, loopO_out (b := .inr (((), a, b), [], false, ks)) ?_, .inl rfl⟩
      simp only [m_spec_forest_chosen_0_0, cond_dec, atI_nat, hv, hw, bind_some]
      rw [if_pos (by omega), if_pos e]
    · have step : m_spec_forest_chosen_0_0 (((), a, b), on, r, (i : Int), (j : Int), ks) = some (.nx (((), a, b), on, r, (i : Int), ((j + 1 : Nat) : Int), ks)) := by
        simp only [m_spec_forest_chosen_0_0, cond_dec, atI_nat, hv, hw, bind_some]
        rw [if_pos (by omega), if_neg e, w64 (by omega) (by omega)]
        rfl
      obtain ⟨y, h1, h2⟩ := ih (j + 1) (by omega) (by omega)
      refine ⟨y, by rw [loopO_nx step]; exact h1, h2.imp id fun ⟨g1, g2⟩ => ⟨g1, fun k k1 k2 => ?_⟩⟩
      by_cases e2 : k = j
      · subst e2
        rw [hv, hw]
        exact fun h => e (Option.some.inj h)
      · exact g2 k (by omega) k2
theorem chosen_ex (a : Int) (b : Bool) {on : List Int} {n : Nat} (hlen : on.length ≤ 2147483647) : ∀ d i : Nat, on.length - i = d → i ≤ on.length → (∀ (k : Nat) (v : Int), k < i → on[k]? = some v → 1 ≤ v ∧ v < n) → (∀ k l : Nat, k < l → l < i → on[k]? ≠ on[l]?) →
    ∃ y, loopO m_spec_forest_chosen_0 (((), a, b), on, (on.take i).map (fun v => some v.toNat), (i : Int), (List.range n).map some) = some y ∧ (y = .inr (((), a, b), [], false, (List.range n).map some) ∨ (y = .inl (((), a, b), on.map (fun v => some v.toNat), (List.range n).map some) ∧ (∀ (k : Nat) (v : Int), on[k]? = some v → 1 ≤ v ∧ v < n) ∧ ∀ k l : Nat, k < l → l < on.length → on[k]? ≠ on[l]?)) := by
  intro d
  induction d with
  | zero =>
    intro i hd hi h1 h2
    obtain rfl : i = on.length := by omega
    refine ⟨_, loopO_out (b := .inl (((), a, b), on.map (fun v => some v.toNat), (List.range n).map some)) ?_, .inr ⟨rfl, fun k v hk => h1 k v (List.getElem?_eq_some_iff.1 hk).1 hk, h2⟩⟩
    simp only [m_spec_forest_chosen_0, cond_dec]
    rw [if_neg (by omega), List.take_of_length_le (Nat.le_refl _)]
  | succ d ih =>
    intro i hd hi h1 h2
    obtain ⟨v, hv⟩ := get_lt (l := on) (k := i) (by omega)
    by_cases e1 : v < 1
    · refine ⟨_, loopO_out (b := .inr (((), a, b), [], false, (List.range n).map some)) ?_, .inl rfl⟩
      simp only [m_spec_forest_chosen_0, cond_dec, atI_nat, hv, bind_some]
      rw [if_pos (by omega), if_pos e1]
    by_cases e2 : (n : Int) ≤ v
    · refine ⟨_, loopO_out (b := .inr (((), a, b), [], false, (List.range n).map some)) ?_, .inl rfl⟩
      simp only [m_spec_forest_chosen_0, cond_dec, atI_nat, hv, bind_some, List.length_map, List.length_range]
      rw [if_pos (by omega), if_neg e1, if_pos e2]
    obtain ⟨x, rfl⟩ := Int.eq_ofNat_of_zero_le (show 0 ≤ v by omega)
    obtain ⟨y, g1, g2⟩ := chosen_in a b ((on.take i).map fun v => some v.toNat) ((List.range n).map some) (i := i) (by omega) hlen i 0 (by omega) (Nat.zero_le _)
    have g1' : loopO m_spec_forest_chosen_0_0 (((), a, b), on, (on.take i).map (fun v => some v.toNat), (i : Int), (0 : Int), (List.range n).map some) = some y := g1
    rcases g2 with rfl | ⟨rfl, g3⟩
    · refine ⟨_, loopO_out (b := .inr (((), a, b), [], false, (List.range n).map some)) ?_, .inl rfl⟩
      simp only [m_spec_forest_chosen_0, cond_dec, atI_nat, hv, bind_some, List.length_map, List.length_range]
      rw [if_pos (by omega), if_neg e1, if_neg e2, g1']
      rfl
    · have hr : ((List.range n).map some)[x]? = some (some x) := by
        have : x < n := by omega
        simp [this]
      have step : m_spec_forest_chosen_0 (((), a, b), on, (on.take i).map (fun v => some v.toNat), (i : Int), (List.range n).map some) = some (.nx (((), a, b), on, (on.take (i + 1)).map (fun v => some v.toNat), ((i + 1 : Nat) : Int), (List.range n).map some)) := by
        simp only [m_spec_forest_chosen_0, cond_dec, atI_nat, hv, bind_some, List.length_map, List.length_range]
        rw [if_pos (by omega), if_neg e1, if_neg e2, g1']
        simp only [bind_some, selim, atI_nat, hv, hr, Int.toNat_natCast]
        rw [appL_some (by simp; omega), bind_some, w64 (by omega) (by omega), List.take_add_one, hv]
        simp
      rw [loopO_nx step]
      refine ih (i + 1) (by omega) (by omega) (fun k w hk hw => ?_) (fun k l hkl hl => ?_)
      · by_cases e : k = i
        · subst e
          rw [hv] at hw
          cases hw
          omega
        · exact h1 k w (by omega) hw
      · by_cases e : l = i
        · subst e; exact g3 k (Nat.zero_le _) hkl
        · exact h2 k l hkl (by omega)
end Go.Proofs.Ytfmlpodcldhgdaa.V
set_option linter.unusedVariables false
set_option linter.unusedSimpArgs false
namespace Go.Proofs.Ytfmlpodcldhgdaa.V
open Go
end Go.Proofs.Ytfmlpodcldhgdaa.V
set_option linter.unusedVariables false
set_option linter.unusedSimpArgs false
namespace Go.Proofs.Ytfmlpodcldhgdaa.V
open Go
theorem chosen_nat (a : Int) (bb : Bool) {on : List Int} {n : Nat} (hlen : on.length ≤ 2147483647) : ∃ r b, m_spec_forest_chosen (((), a, bb), on, (List.range n).map some) = some (r, b, ((), a, bb), (List.range n).map some) ∧ (b = true → ∃ l : List Nat, on = intsN l ∧ r = l.map some ∧ (∀ c ∈ l, 1 ≤ c ∧ c < n) ∧ l.Nodup) := by
  obtain ⟨y, h1, h2⟩ := chosen_ex a bb (on := on) (n := n) hlen on.length 0 rfl (Nat.zero_le _) (fun k v h => absurd h (by omega)) (fun k l _ h => absurd h (by omega))
  have h1' : loopO m_spec_forest_chosen_0 (((), a, bb), on, [], (0 : Int), (List.range n).map some) = some y := h1
  simp only [m_spec_forest_chosen, h1', bind_some]
  rcases h2 with rfl | ⟨rfl, g1, g2⟩
  · exact ⟨_, _, rfl, fun h => by cases h⟩
  · refine ⟨_, _, rfl, fun _ => ⟨on.map Int.toNat, ?_, ?_, ?_, ?_⟩⟩
    · unfold intsN
      rw [List.map_map]
      refine ((List.map_congr_left fun v hv => ?_).trans (List.map_id on)).symm
      obtain ⟨k, hk⟩ := List.mem_iff_getElem?.1 hv
      have := g1 k v hk
      simp only [Function.comp_apply, id_eq]
      show ((v.toNat : Nat) : Int) = v
      omega
    · rw [List.map_map]; rfl
    · intro c hc
      obtain ⟨v, hv, rfl⟩ := List.mem_map.1 hc
      obtain ⟨k, hk⟩ := List.mem_iff_getElem?.1 hv
      have := g1 k v hk
      omega
    · unfold List.Nodup
      rw [List.pairwise_map, List.pairwise_iff_getElem]
      intro i j hi hj hij e
      have := g2 i j hij hj
      rw [List.getElem?_eq_getElem hi, List.getElem?_eq_getElem hj] at this
      have b1 := g1 i _ (List.getElem?_eq_getElem hi)
      have b2 := g1 j _ (List.getElem?_eq_getElem hj)
      exact this (by congr 1; omega)
section
variable {F G : Fo} {P : Nat → Int × Node} {p c x : Nat} {A B l : List Nat}
end
section
variable {t : List Node} {o : Nat} {ws : List Nat} {a : Int} {ks : List (Option Nat)}
theorem off_up_none {F : Fo} {c : Nat} (h : c ∈ ws) : (F.off ws).up c = none := if_pos h
end
end Go.Proofs.Ytfmlpodcldhgdaa.V
set_option linter.unusedVariables false
set_option linter.unusedSimpArgs false
namespace Go.Proofs.Ytfmlpodcldhgdaa.V
open Go Go.Proofs
abbrev p_spec_unwrapped : Pt := [(0, .lst .np), (NT, .ns .k 146 113)]
abbrev q_spec_unwrapped : Pt := [(0, .bool), (NT, .ns .k 146 113)]
abbrev p_spec_unwrapped_0_0 : Pt := [(0, .lst .np), (3, .own .np 113), (4, .int .i64), (5, .np), (6, .bool), (7, .int .i64), (NT, .ns .k 146 113)]
abbrev x_spec_unwrapped_0_0 : List (Xt × Pt) := [(.ex 2, [(0, .lst .np), (3, .own .np 113), (4, .int .i64), (5, .np), (6, .bool), (NT, .ns .k 146 113)])]
noncomputable def m_spec_unwrapped_0_0 : Tup p_spec_unwrapped_0_0 → Option (Stp (Tup p_spec_unwrapped_0_0) (SumT (x_spec_unwrapped_0_0.map (·.2)))) := fun (x : List (Option Nat) × List (Option Nat) × Int × Option Nat × Bool × Int × List KN) => bif decide (x.2.2.2.2.2.1 < (↑(List.length x.2.1) : Int)) then bif x.2.2.2.2.1 then some (Stp.nx (x.1, x.2.1, x.2.2.1, x.2.2.2.1, true, IntKind.wrap .i64 (x.2.2.2.2.2.1 + (1 : Int)), x.2.2.2.2.2.2)) else Option.bind (atI x.2.1 x.2.2.2.2.2.1) fun (x_1 : Option Nat) => Option.bind x.2.1[Int.toNat x.2.2.2.2.2.1]? fun (v : Option Nat) => some (Stp.nx (x.1, x.2.1, x.2.2.1, x.2.2.2.1, decide (v = x.2.2.2.1), IntKind.wrap .i64 (x.2.2.2.2.2.1 + (1 : Int)), x.2.2.2.2.2.2)) else some (Stp.out (x.1, x.2.1, x.2.2.1, x.2.2.2.1, x.2.2.2.2.1, x.2.2.2.2.2.2))
abbrev p_spec_unwrapped_0 : Pt := [(0, .lst .np), (3, .own .np 113), (4, .int .i64), (NT, .ns .k 146 113)]
abbrev x_spec_unwrapped_0 : List (Xt × Pt) := [(.ex 0, [(3, .own .np 113), (NT, .ns .k 146 113)]), (.rt, [(2, .bool), (NT, .ns .k 146 113)])]
noncomputable def m_spec_unwrapped_0 : Tup p_spec_unwrapped_0 → Option (Stp (Tup p_spec_unwrapped_0) (SumT (x_spec_unwrapped_0.map (·.2)))) := fun (x : List (Option Nat) × List (Option Nat) × Int × List KN) => bif decide (x.2.2.1 < (↑(List.length x.1) : Int)) then Option.bind (atI x.1 x.2.2.1) fun (v : Option Nat) => Option.bind v fun (i : Nat) => Option.bind (some i) fun (i : Nat) => Option.bind x.2.2.2[i]? fun (h : KN) => bif Option.isNone (KN.up h) then some (Stp.out (Sum.inr (false, x.2.2.2))) else Option.bind (KN.up h) fun (i : Nat) => Option.bind (some i) fun (i : Nat) => Option.bind x.2.2.2[i]? fun (h_1 : KN) => bif Option.isNone (KN.up h_1) then some (Stp.out (Sum.inr (false, x.2.2.2))) else Option.bind (KN.up h) fun (i : Nat) => Option.bind (some i) fun (i : Nat) => Option.bind x.2.2.2[i]? fun (h_2 : KN) => bif decide (Node.kind (KN.n h_2) ≠ (3 : Int)) then some (Stp.out (Sum.inr (false, x.2.2.2))) else Option.bind (KN.up h) fun (i : Nat) => Option.bind (some i) fun (i : Nat) => Option.bind x.2.2.2[i]? fun (h_3 : KN) => bif decide (Node.tag (KN.n h_3) = Array.toList (ByteArray.data { data := #[(98 : UInt8), (111 : UInt8), (100 : UInt8), (121 : UInt8)] })) then some (Stp.out (Sum.inr (false, x.2.2.2))) else Option.bind (loopO m_spec_unwrapped_0_0 (x.1, x.2.1, x.2.2.1, KN.up h, false, (0 : Int), x.2.2.2)) fun (y : List (Option Nat) × List (Option Nat) × Int × Option Nat × Bool × List KN) => bif !y.2.2.2.2.1 then Option.bind (appL y.2.1 [y.2.2.2.1]) fun (r : List (Option Nat)) => some (Stp.nx (y.1, r, IntKind.wrap .i64 (y.2.2.1 + (1 : Int)), y.2.2.2.2.2)) else some (Stp.nx (y.1, y.2.1, IntKind.wrap .i64 (y.2.2.1 + (1 : Int)), y.2.2.2.2.2)) else some (Stp.out (Sum.inl (x.2.1, x.2.2.2)))
abbrev p_spec_unwrapped_1_0 : Pt := [(3, .own .np 113), (8, .int .i64), (9, .np), (10, .np), (11, .int .i64), (12, .own .np 113), (13, .int .i64), (NT, .ns .k 146 113)]
abbrev x_spec_unwrapped_1_0 : List (Xt × Pt) := [(.ex 6, [(3, .own .np 113), (8, .int .i64), (9, .np), (NT, .ns .k 146 113)])]
noncomputable def m_spec_unwrapped_1_0 : Tup p_spec_unwrapped_1_0 → Option (Stp (Tup p_spec_unwrapped_1_0) (SumT (x_spec_unwrapped_1_0.map (·.2)))) := fun (x : List (Option Nat) × Int × Option Nat × Option Nat × Int × List (Option Nat) × Int × List KN) => bif decide (x.2.2.2.2.2.2.1 < (↑(List.length x.2.2.2.2.2.1) : Int)) then Option.bind (atI x.2.2.2.2.2.1 x.2.2.2.2.2.2.1) fun (x_1 : Option Nat) => Option.bind x.2.2.2.2.2.1[Int.toNat x.2.2.2.2.2.2.1]? fun (v : Option Nat) => Option.bind (m_spec_knot_put (x.2.2.2.1, IntKind.wrap .i64 (x.2.2.2.2.1 + x.2.2.2.2.2.2.1), v, x.2.2.2.2.2.2.2)) fun (r : List KN) => some (Stp.nx (x.1, x.2.1, x.2.2.1, x.2.2.2.1, x.2.2.2.2.1, x.2.2.2.2.2.1, IntKind.wrap .i64 (x.2.2.2.2.2.2.1 + (1 : Int)), r)) else some (Stp.out (x.1, x.2.1, x.2.2.1, x.2.2.2.2.2.2.2))
abbrev p_spec_unwrapped_1 : Pt := [(3, .own .np 113), (8, .int .i64), (NT, .ns .k 146 113)]
abbrev x_spec_unwrapped_1 : List (Xt × Pt) := [(.ex 4, [(NT, .ns .k 146 113)])]
noncomputable def m_spec_unwrapped_1 : Tup p_spec_unwrapped_1 → Option (Stp (Tup p_spec_unwrapped_1) (SumT (x_spec_unwrapped_1.map (·.2)))) := fun (x : List (Option Nat) × Int × List KN) => bif decide (x.2.1 < (↑(List.length x.1) : Int)) then Option.bind (atI x.1 x.2.1) fun (x_1 : Option Nat) => Option.bind x.1[Int.toNat x.2.1]? fun (v : Option Nat) => Option.bind v fun (i : Nat) => Option.bind (some i) fun (i : Nat) => Option.bind x.2.2[i]? fun (h : KN) => Option.bind (m_spec_knot_place (v, x.2.2)) fun (r : Int) => Option.bind v fun (i : Nat) => Option.bind (some i) fun (i : Nat) => Option.bind x.2.2[i]? fun (h_1 : KN) => Option.bind x.2.2[i]? fun (h_2 : KN) => Option.bind (appL [] (KN.kids h_2)) fun (r_1 : List (Option Nat)) => Option.bind (loopO m_spec_unwrapped_1_0 (x.1, x.2.1, v, KN.up h, r, r_1, (0 : Int), x.2.2)) fun (y : List (Option Nat) × Int × Option Nat × List KN) => Option.bind (m_spec_knot_cut (y.2.2.1, y.2.2.2)) fun (r : List KN) => some (Stp.nx (y.1, IntKind.wrap .i64 (y.2.1 + (1 : Int)), r)) else some (Stp.out x.2.2)
noncomputable def m_spec_unwrapped : Tup p_spec_unwrapped → Option (Tup q_spec_unwrapped) := fun (x : List (Option Nat) × List KN) => Option.bind (loopO m_spec_unwrapped_0 (x.1, [], (0 : Int), x.2)) fun (y : List (Option Nat) × List KN ⊕ Bool × List KN) => selim (fun (y : List (Option Nat) × List KN) => Option.bind (loopO m_spec_unwrapped_1 (y.1, (0 : Int), y.2)) fun (y : List KN) => some (true, y)) (fun (y : Bool × List KN) => some (y.1, y.2)) y
noncomputable def cx_spec_unwrapped : Cx := ⟨tb, lookE [(135, e_spec_knot_place), (136, e_spec_knot_put), (109, e_spec_knot_cut)], lookS [(19, [(true, 0), (true, 1), (true, 2), (true, 3), (true, 4), (false, 5), (true, 6), (true, 7)])]⟩
theorem ck_spec_unwrapped : CxOK Try.prog (cx_spec_unwrapped) := cx_ok tb_ok (.cons ok_spec_knot_place Try.call135 (.cons ok_spec_knot_put Try.call136 (.cons ok_spec_knot_cut Try.call109 .nil)))
noncomputable def c_spec_unwrapped_0_0 : Code := loopAt (loopAt (Go.Proofs.Try.f111.body.getD .skip) 0) 0
noncomputable def l_spec_unwrapped_0_0 : LEnt := ⟨p_spec_unwrapped_0_0, x_spec_unwrapped_0_0, loopO (m_spec_unwrapped_0_0)⟩
theorem lo_spec_unwrapped_0_0 : LOK Try.prog 112 0 true (l_spec_unwrapped_0_0) c_spec_unwrapped_0_0 := loop_ok (body := m_spec_unwrapped_0_0) (L := lookL []) (ck_spec_unwrapped) mixed (ls_ok (l := []) (by kernel_rfl) .nil) (by intro x; kernel_rfl) (fun x y h => loopO_iff.1 h)
noncomputable def c_spec_unwrapped_0 : Code := loopAt (Go.Proofs.Try.f111.body.getD .skip) 0
noncomputable def l_spec_unwrapped_0 : LEnt := ⟨p_spec_unwrapped_0, x_spec_unwrapped_0, loopO (m_spec_unwrapped_0)⟩
theorem lo_spec_unwrapped_0 : LOK Try.prog 112 0 true (l_spec_unwrapped_0) c_spec_unwrapped_0 := loop_ok (body := m_spec_unwrapped_0) (L := lookL [(2, l_spec_unwrapped_0_0)]) (ck_spec_unwrapped) mixed (ls_ok (l := [(2, c_spec_unwrapped_0_0)]) (by kernel_rfl) (.cons rfl (lo_spec_unwrapped_0_0) .nil)) (by intro x; kernel_rfl) (fun x y h => loopO_iff.1 h)
noncomputable def c_spec_unwrapped_1_0 : Code := loopAt (loopAt (Go.Proofs.Try.f111.body.getD .skip) 1) 0
noncomputable def l_spec_unwrapped_1_0 : LEnt := ⟨p_spec_unwrapped_1_0, x_spec_unwrapped_1_0, loopO (m_spec_unwrapped_1_0)⟩
theorem lo_spec_unwrapped_1_0 : LOK Try.prog 112 0 true (l_spec_unwrapped_1_0) c_spec_unwrapped_1_0 := loop_ok (body := m_spec_unwrapped_1_0) (L := lookL []) (ck_spec_unwrapped) mixed (ls_ok (l := []) (by kernel_rfl) .nil) (by intro x; kernel_rfl) (fun x y h => loopO_iff.1 h)
noncomputable def c_spec_unwrapped_1 : Code := loopAt (Go.Proofs.Try.f111.body.getD .skip) 1
noncomputable def l_spec_unwrapped_1 : LEnt := ⟨p_spec_unwrapped_1, x_spec_unwrapped_1, loopO (m_spec_unwrapped_1)⟩
theorem lo_spec_unwrapped_1 : LOK Try.prog 112 0 true (l_spec_unwrapped_1) c_spec_unwrapped_1 := loop_ok (body := m_spec_unwrapped_1) (L := lookL [(6, l_spec_unwrapped_1_0)]) (ck_spec_unwrapped) mixed (ls_ok (l := [(6, c_spec_unwrapped_1_0)]) (by kernel_rfl) (.cons rfl (lo_spec_unwrapped_1_0) .nil)) (by intro x; kernel_rfl) (fun x y h => loopO_iff.1 h)
noncomputable def e_spec_unwrapped : Ent := ⟨0, p_spec_unwrapped, q_spec_unwrapped, m_spec_unwrapped⟩
theorem ok_spec_unwrapped : FnOK Try.prog 111 e_spec_unwrapped := fn_ok (L := lookL [(0, l_spec_unwrapped_0), (4, l_spec_unwrapped_1)]) ck_spec_unwrapped mixed Try.func111 rfl (by kernel_rfl) (by kernel_rfl) (ls_ok (l := [(0, c_spec_unwrapped_0), (4, c_spec_unwrapped_1)]) (by kernel_rfl) (.cons rfl (lo_spec_unwrapped_0) (.cons rfl (lo_spec_unwrapped_1) .nil))) (by intro x; kernel_rfl)
abbrev p_spec_forest_step_u : Pt := [(0, .blkx 112 [.own, .fl (.int .i64), .fl .bool]), (1, .el (.rc (.int .i64) [.ints, .ints, .str, .str, .strs] 0)), (2000000000, .hown 0 0 .np 113), (NT, .ns .k 146 113)]
abbrev q_spec_forest_step_u : Pt := [(0, .bool), (1000, .blkx 112 [.own, .fl (.int .i64), .fl .bool]), (2000064000, .hown 1000 0 .np 113), (NT, .ns .k 146 113)]
abbrev p_spec_forest_step_u_0 : Pt := [(0, .blkx 112 [.own, .fl (.int .i64), .fl .bool]), (5, .own .np 113), (9, .int .i64), (NT, .ns .k 146 113), (2000000000, .hown 0 0 .np 113)]
abbrev x_spec_forest_step_u_0 : List (Xt × Pt) := [(.ex 1, [(0, .blkx 112 [.own, .fl (.int .i64), .fl .bool]), (NT, .ns .k 146 113), (2000000000, .hown 0 0 .np 113)])]
noncomputable def m_spec_forest_step_u_0 : Tup p_spec_forest_step_u_0 → Option (Stp (Tup p_spec_forest_step_u_0) (SumT (x_spec_forest_step_u_0.map (·.2)))) := fun (x : (PUnit × Int × Bool) × List (Option Nat) × Int × List KN × List (Option Nat)) => bif decide (x.2.2.1 < (↑(List.length x.2.1) : Int)) then Option.bind (atI x.2.1 x.2.2.1) fun (x_1 : Option Nat) => Option.bind x.2.1[Int.toNat x.2.2.1]? fun (v : Option Nat) => Option.bind (m_spec_knot_cut (v, x.2.2.2.1)) fun (r : List KN) => some (Stp.nx (((), x.1.2.1, x.1.2.2), x.2.1, IntKind.wrap .i64 (x.2.2.1 + (1 : Int)), r, x.2.2.2.2)) else some (Stp.out (((), x.1.2.1, x.1.2.2), x.2.2.2.1, x.2.2.2.2))
abbrev p_spec_forest_step_u_1_0 : Pt := [(0, .blkx 112 [.own, .fl (.int .i64), .fl .bool]), (5, .own .np 113), (10, .int .i64), (NT, .ns .k 146 113), (2000000000, .hown 0 0 .np 113)]
abbrev x_spec_forest_step_u_1_0 : List (Xt × Pt) := [(.ex 5, [(0, .blkx 112 [.own, .fl (.int .i64), .fl .bool]), (5, .own .np 113), (10, .int .i64), (NT, .ns .k 146 113), (2000000000, .hown 0 0 .np 113)])]
noncomputable def m_spec_forest_step_u_1_0 : Tup p_spec_forest_step_u_1_0 → Option (Stp (Tup p_spec_forest_step_u_1_0) (SumT (x_spec_forest_step_u_1_0.map (·.2)))) := fun (x : (PUnit × Int × Bool) × List (Option Nat) × Int × List KN × List (Option Nat)) => Option.bind (atI x.2.1 x.2.2.1) fun (x_1 : Option Nat) => Option.bind x.2.1[Int.toNat x.2.2.1]? fun (v : Option Nat) => Option.bind v fun (i : Nat) => Option.bind (some i) fun (i : Nat) => Option.bind x.2.2.2.1[i]? fun (h : KN) => Option.bind x.2.2.2.1[i]? fun (h : KN) => bif decide ((0 : Int) < (↑(List.length (KN.kids h)) : Int)) then Option.bind (atI x.2.1 x.2.2.1) fun (x_2 : Option Nat) => Option.bind x.2.1[Int.toNat x.2.2.1]? fun (v : Option Nat) => Option.bind v fun (i : Nat) => Option.bind (some i) fun (i : Nat) => Option.bind x.2.2.2.1[i]? fun (h : KN) => Option.bind x.2.2.2.1[i]? fun (h : KN) => Option.bind (atI (KN.kids h) (0 : Int)) fun (x_3 : Option Nat) => Option.bind x.2.2.2.1[i]? fun (h : KN) => Option.bind (KN.kids h)[Int.toNat (0 : Int)]? fun (a : Option Nat) => Option.bind (m_spec_knot_cut (a, x.2.2.2.1)) fun (r : List KN) => some (Stp.nx (((), x.1.2.1, x.1.2.2), x.2.1, x.2.2.1, r, x.2.2.2.2)) else some (Stp.out (((), x.1.2.1, x.1.2.2), x.2.1, x.2.2.1, x.2.2.2.1, x.2.2.2.2))
abbrev p_spec_forest_step_u_1 : Pt := [(0, .blkx 112 [.own, .fl (.int .i64), .fl .bool]), (5, .own .np 113), (10, .int .i64), (NT, .ns .k 146 113), (2000000000, .hown 0 0 .np 113)]
abbrev x_spec_forest_step_u_1 : List (Xt × Pt) := [(.ex 3, [(0, .blkx 112 [.own, .fl (.int .i64), .fl .bool]), (5, .own .np 113), (NT, .ns .k 146 113), (2000000000, .hown 0 0 .np 113)])]
noncomputable def m_spec_forest_step_u_1 : Tup p_spec_forest_step_u_1 → Option (Stp (Tup p_spec_forest_step_u_1) (SumT (x_spec_forest_step_u_1.map (·.2)))) := fun (x : (PUnit × Int × Bool) × List (Option Nat) × Int × List KN × List (Option Nat)) => bif decide (x.2.2.1 < (↑(List.length x.2.1) : Int)) then Option.bind (loopO m_spec_forest_step_u_1_0 (((), x.1.2.1, x.1.2.2), x.2.1, x.2.2.1, x.2.2.2.1, x.2.2.2.2)) fun (y : (PUnit × Int × Bool) × List (Option Nat) × Int × List KN × List (Option Nat)) => some (Stp.nx (((), y.1.2.1, y.1.2.2), y.2.1, IntKind.wrap .i64 (y.2.2.1 + (1 : Int)), y.2.2.2.1, y.2.2.2.2)) else some (Stp.out (((), x.1.2.1, x.1.2.2), x.2.1, x.2.2.2.1, x.2.2.2.2))
noncomputable def m_spec_forest_step_u : Tup p_spec_forest_step_u → Option (Tup q_spec_forest_step_u) := fun (x : (PUnit × Int × Bool) × (Int × List Int × List Int × List UInt8 × List UInt8 × List (List UInt8)) × List (Option Nat) × List KN) => Option.bind (m_spec_forest_chosen (((), x.1.2.1, x.1.2.2), x.2.1.2.1, x.2.2.1)) fun (r : List (Option Nat) × Bool × (PUnit × Int × Bool) × List (Option Nat)) => Option.bind (m_spec_forest_chosen (((), r.2.2.1.2.1, r.2.2.1.2.2), x.2.1.2.2.1, r.2.2.2)) fun (r_1 : List (Option Nat) × Bool × (PUnit × Int × Bool) × List (Option Nat)) => bif !r.2.1 then some (false, ((), r_1.2.2.1.2.1, r_1.2.2.1.2.2), r_1.2.2.2, x.2.2.2) else bif !r_1.2.1 then some (false, ((), r_1.2.2.1.2.1, r_1.2.2.1.2.2), r_1.2.2.2, x.2.2.2) else bif decide ((↑(List.length r.1) : Int) = (0 : Int)) then some (false, ((), r_1.2.2.1.2.1, r_1.2.2.1.2.2), r_1.2.2.2, x.2.2.2) else bif decide (x.2.1.1 = (1 : Int)) then none else bif decide (x.2.1.1 = (2 : Int)) then none else bif decide (x.2.1.1 = (3 : Int)) then none else bif decide (x.2.1.1 = (4 : Int)) then none else bif decide (x.2.1.1 = (5 : Int)) then none else bif decide (x.2.1.1 = (6 : Int)) then Option.bind (loopO m_spec_forest_step_u_0 (((), r_1.2.2.1.2.1, r_1.2.2.1.2.2), r.1, (0 : Int), x.2.2.2, r_1.2.2.2)) fun (y : (PUnit × Int × Bool) × List KN × List (Option Nat)) => some (true, ((), y.1.2.1, y.1.2.2), y.2.2, y.2.1) else bif decide (x.2.1.1 = (7 : Int)) then Option.bind (loopO m_spec_forest_step_u_1 (((), r_1.2.2.1.2.1, r_1.2.2.1.2.2), r.1, (0 : Int), x.2.2.2, r_1.2.2.2)) fun (y : (PUnit × Int × Bool) × List (Option Nat) × List KN × List (Option Nat)) => Option.bind (m_spec_are (y.2.1, y.2.2.1)) fun (r : Bool) => some (r, ((), y.1.2.1, y.1.2.2), y.2.2.2, y.2.2.1) else bif decide (x.2.1.1 = (8 : Int)) then Option.bind (m_spec_unwrapped (r.1, x.2.2.2)) fun (r : Bool × List KN) => some (r.1, ((), r_1.2.2.1.2.1, r_1.2.2.1.2.2), r_1.2.2.2, r.2) else bif decide (x.2.1.1 = (9 : Int)) then bif decide ((↑(List.length r_1.1) : Int) = (1 : Int)) then Option.bind (atI r_1.1 (0 : Int)) fun (x : Option Nat) => Option.bind r_1.1[Int.toNat (0 : Int)]? fun (v : Option Nat) => none else some (false, ((), r_1.2.2.1.2.1, r_1.2.2.1.2.2), r_1.2.2.2, x.2.2.2) else bif decide (x.2.1.1 = (10 : Int)) then bif decide ((↑(List.length r_1.1) : Int) = (1 : Int)) then Option.bind (atI r_1.1 (0 : Int)) fun (x : Option Nat) => Option.bind r_1.1[Int.toNat (0 : Int)]? fun (v : Option Nat) => none else some (false, ((), r_1.2.2.1.2.1, r_1.2.2.1.2.2), r_1.2.2.2, x.2.2.2) else bif decide (x.2.1.1 = (11 : Int)) then bif decide ((↑(List.length r_1.1) : Int) = (1 : Int)) then Option.bind (atI r_1.1 (0 : Int)) fun (x : Option Nat) => Option.bind r_1.1[Int.toNat (0 : Int)]? fun (v : Option Nat) => none else some (false, ((), r_1.2.2.1.2.1, r_1.2.2.1.2.2), r_1.2.2.2, x.2.2.2) else Option.bind (m_spec_are (r.1, x.2.2.2)) fun (r : Bool) => bif r then none else some (false, ((), r_1.2.2.1.2.1, r_1.2.2.1.2.2), r_1.2.2.2, x.2.2.2)
noncomputable def cx_spec_forest_step_u : Cx := ⟨tb, lookE [(107, e_spec_forest_chosen), (109, e_spec_knot_cut), (110, e_spec_are), (111, e_spec_unwrapped)], lookS [(30, [(true, 0), (true, 1), (true, 2), (true, 3), (true, 4), (true, 5), (true, 6), (true, 7), (true, 8), (true, 9), (true, 10), (false, 11), (true, 12), (true, 13)])]⟩
theorem ck_spec_forest_step_u : CxOK Try.prog (cx_spec_forest_step_u) := cx_ok tb_ok (.cons ok_spec_forest_chosen Try.call107 (.cons ok_spec_knot_cut Try.call109 (.cons ok_spec_are Try.call110 (.cons ok_spec_unwrapped Try.call111 .nil))))
noncomputable def c_spec_forest_step_u_0 : Code := loopAt (Go.Proofs.Try.f79.body.getD .skip) 0
noncomputable def l_spec_forest_step_u_0 : LEnt := ⟨p_spec_forest_step_u_0, x_spec_forest_step_u_0, loopO (m_spec_forest_step_u_0)⟩
theorem lo_spec_forest_step_u_0 : LOK Try.prog 120 1 true (l_spec_forest_step_u_0) c_spec_forest_step_u_0 := loop_ok (body := m_spec_forest_step_u_0) (L := lookL []) (ck_spec_forest_step_u) mixed (ls_ok (l := []) (by kernel_rfl) .nil) (by intro x; kernel_rfl) (fun x y h => loopO_iff.1 h)
noncomputable def c_spec_forest_step_u_1_0 : Code := loopAt (loopAt (Go.Proofs.Try.f79.body.getD .skip) 1) 0
noncomputable def l_spec_forest_step_u_1_0 : LEnt := ⟨p_spec_forest_step_u_1_0, x_spec_forest_step_u_1_0, loopO (m_spec_forest_step_u_1_0)⟩
theorem lo_spec_forest_step_u_1_0 : LOK Try.prog 120 1 true (l_spec_forest_step_u_1_0) c_spec_forest_step_u_1_0 := loop_ok (body := m_spec_forest_step_u_1_0) (L := lookL []) (ck_spec_forest_step_u) mixed (ls_ok (l := []) (by kernel_rfl) .nil) (by intro x; kernel_rfl) (fun x y h => loopO_iff.1 h)
noncomputable def c_spec_forest_step_u_1 : Code := loopAt (Go.Proofs.Try.f79.body.getD .skip) 1
noncomputable def l_spec_forest_step_u_1 : LEnt := ⟨p_spec_forest_step_u_1, x_spec_forest_step_u_1, loopO (m_spec_forest_step_u_1)⟩
theorem lo_spec_forest_step_u_1 : LOK Try.prog 120 1 true (l_spec_forest_step_u_1) c_spec_forest_step_u_1 := loop_ok (body := m_spec_forest_step_u_1) (L := lookL [(5, l_spec_forest_step_u_1_0)]) (ck_spec_forest_step_u) mixed (ls_ok (l := [(5, c_spec_forest_step_u_1_0)]) (by kernel_rfl) (.cons rfl (lo_spec_forest_step_u_1_0) .nil)) (by intro x; kernel_rfl) (fun x y h => loopO_iff.1 h)
noncomputable def e_spec_forest_step_u : Ent := ⟨1, p_spec_forest_step_u, q_spec_forest_step_u, m_spec_forest_step_u⟩
theorem ok_spec_forest_step_u : FnOK Try.prog 79 e_spec_forest_step_u := fn_ok (L := lookL [(1, l_spec_forest_step_u_0), (3, l_spec_forest_step_u_1)]) ck_spec_forest_step_u mixed Try.func79 rfl (by kernel_rfl) (by kernel_rfl) (ls_ok (l := [(1, c_spec_forest_step_u_0), (3, c_spec_forest_step_u_1)]) (by kernel_rfl) (.cons rfl (lo_spec_forest_step_u_0) (.cons rfl (lo_spec_forest_step_u_1) .nil))) (by intro x; kernel_rfl)
abbrev p_spec_Changed_u : Pt := [(0, .lst .node), (1, .lst (.rc (.int .i64) [.ints, .ints, .str, .str, .strs] 0)), (NT, .ns .k 146 113)]
abbrev q_spec_Changed_u : Pt := [(0, .lst .node), (1, .lst .int), (2, .bool), (NT, .ns .k 146 113)]
abbrev p_spec_Changed_u_0 : Pt := [(0, .lst .node), (1, .lst (.rc (.int .i64) [.ints, .ints, .str, .str, .strs] 0)), (7, .blkx 112 [.own, .fl (.int .i64), .fl .bool]), (8, .int .i64), (NT, .ns .k 146 113), (2000000448, .hown 7 0 .np 113)]
abbrev x_spec_Changed_u_0 : List (Xt × Pt) := [(.ex 0, [(0, .lst .node), (7, .blkx 112 [.own, .fl (.int .i64), .fl .bool]), (NT, .ns .k 146 113), (2000000448, .hown 7 0 .np 113)]), (.rt, [(4, .own .node 44), (5, .own .int 3), (6, .bool), (NT, .ns .k 146 113)])]
noncomputable def m_spec_Changed_u_0 : Tup p_spec_Changed_u_0 → Option (Stp (Tup p_spec_Changed_u_0) (SumT (x_spec_Changed_u_0.map (·.2)))) := fun (x : List Node × List (Int × List Int × List Int × List UInt8 × List UInt8 × List (List UInt8)) × (PUnit × Int × Bool) × Int × List KN × List (Option Nat)) => bif decide (x.2.2.2.1 < (↑(List.length x.2.1) : Int)) then Option.bind (atI x.2.1 x.2.2.2.1) fun (v : Int × List Int × List Int × List UInt8 × List UInt8 × List (List UInt8)) => Option.bind (m_spec_forest_step_u (((), x.2.2.1.2.1, x.2.2.1.2.2), (v.1, v.2.1, v.2.2.1, v.2.2.2.1, v.2.2.2.2.1, v.2.2.2.2.2), x.2.2.2.2.2, x.2.2.2.2.1)) fun (r : Bool × (PUnit × Int × Bool) × List (Option Nat) × List KN) => bif !r.1 then some (Stp.out (Sum.inr ([], [], false, r.2.2.2))) else bif r.2.1.2.2 then some (Stp.out (Sum.inr ([], [], false, r.2.2.2))) else some (Stp.nx (x.1, x.2.1, ((), r.2.1.2.1, r.2.1.2.2), IntKind.wrap .i64 (x.2.2.2.1 + (1 : Int)), r.2.2.2, r.2.2.1)) else some (Stp.out (Sum.inl (x.1, ((), x.2.2.1.2.1, x.2.2.1.2.2), x.2.2.2.2.1, x.2.2.2.2.2)))
abbrev p_spec_Changed_u_1 : Pt := [(7, .blkx 112 [.own, .fl (.int .i64), .fl .bool]), (9, .own .int 3), (10, .int .i64), (NT, .ns .k 146 113), (2000000448, .hown 7 0 .np 113)]
abbrev x_spec_Changed_u_1 : List (Xt × Pt) := [(.ex 2, [(7, .blkx 112 [.own, .fl (.int .i64), .fl .bool]), (9, .own .int 3), (NT, .ns .k 146 113), (2000000448, .hown 7 0 .np 113)])]
noncomputable def m_spec_Changed_u_1 : Tup p_spec_Changed_u_1 → Option (Stp (Tup p_spec_Changed_u_1) (SumT (x_spec_Changed_u_1.map (·.2)))) := fun (x : (PUnit × Int × Bool) × List Int × Int × List KN × List (Option Nat)) => bif decide (x.2.2.1 < (↑(List.length x.2.1) : Int)) then Option.bind (atI x.2.1 x.2.2.1) fun (x_1 : Int) => Option.bind x.2.1[Int.toNat x.2.2.1]? fun (v : Int) => some (Stp.nx (((), x.1.2.1, x.1.2.2), List.set x.2.1 (Int.toNat x.2.2.1) (-1 : Int), IntKind.wrap .i64 (x.2.2.1 + (1 : Int)), x.2.2.2.1, x.2.2.2.2)) else some (Stp.out (((), x.1.2.1, x.1.2.2), x.2.1, x.2.2.2.1, x.2.2.2.2))
noncomputable def m_spec_Changed_u : Tup p_spec_Changed_u → Option (Tup q_spec_Changed_u) := fun (x : List Node × List (Int × List Int × List Int × List UInt8 × List UInt8 × List (List UInt8)) × List KN) => Option.bind (m_spec_Right x.1) fun (r : Bool) => bif !r then some ([], [], false, x.2.2) else Option.bind (m_spec_grown (x.1, x.2.2)) fun (r : (PUnit × Int × Bool) × List (Option Nat) × List KN) => Option.bind (loopO m_spec_Changed_u_0 (x.1, x.2.1, ((), r.1.2.1, r.1.2.2), (0 : Int), r.2.2, r.2.1)) fun (y : List Node × (PUnit × Int × Bool) × List KN × List (Option Nat) ⊕ List Node × List Int × Bool × List KN) => selim (fun (y : List Node × (PUnit × Int × Bool) × List KN × List (Option Nat)) => bif decide ((↑(List.length y.1) : Int) ≤ (↑(List.length y.1) : Int) ∧ (0 : Int) ≤ (↑(List.length y.1) : Int) ∧ (↑(List.length y.1) : Int) ≤ (1048576 : Int)) then Option.bind (loopO m_spec_Changed_u_1 (((), y.2.1.2.1, y.2.1.2.2), List.replicate (Int.toNat (↑(List.length y.1) : Int)) (0 : Int), (0 : Int), y.2.2.1, y.2.2.2)) fun (y : (PUnit × Int × Bool) × List Int × List KN × List (Option Nat)) => Option.bind (atI y.2.2.2 (0 : Int)) fun (x : Option Nat) => Option.bind y.2.2.2[Int.toNat (0 : Int)]? fun (v : Option Nat) => Option.bind (m_spec_knot_listed big (v, [], y.2.1, y.2.2.1)) fun (r : List Node × List Int × List KN) => some (r.1, r.2.1, true, r.2.2) else none) (fun (y : List Node × List Int × Bool × List KN) => some (y.1, y.2.1, y.2.2.1, y.2.2.2)) y
noncomputable def cx_spec_Changed_u : Cx := ⟨tb, lookE [(14, e_spec_Right), (78, e_spec_grown), (79, e_spec_forest_step_u), (80, e_spec_knot_listed)], lookS []⟩
theorem ck_spec_Changed_u : CxOK Try.prog (cx_spec_Changed_u) := cx_ok tb_ok (.cons ok_spec_Right Try.call14 (.cons ok_spec_grown Try.call78 (.cons ok_spec_forest_step_u Try.call79 (.cons ok_spec_knot_listed Try.call80 .nil))))
noncomputable def c_spec_Changed_u_0 : Code := loopAt (Go.Proofs.Try.f50.body.getD .skip) 0
noncomputable def l_spec_Changed_u_0 : LEnt := ⟨p_spec_Changed_u_0, x_spec_Changed_u_0, loopO (m_spec_Changed_u_0)⟩
theorem lo_spec_Changed_u_0 : LOK Try.prog 56 0 true (l_spec_Changed_u_0) c_spec_Changed_u_0 := loop_ok (body := m_spec_Changed_u_0) (L := lookL []) (ck_spec_Changed_u) mixed (ls_ok (l := []) (by kernel_rfl) .nil) (by intro x; kernel_rfl) (fun x y h => loopO_iff.1 h)
noncomputable def c_spec_Changed_u_1 : Code := loopAt (Go.Proofs.Try.f50.body.getD .skip) 1
noncomputable def l_spec_Changed_u_1 : LEnt := ⟨p_spec_Changed_u_1, x_spec_Changed_u_1, loopO (m_spec_Changed_u_1)⟩
theorem lo_spec_Changed_u_1 : LOK Try.prog 56 0 true (l_spec_Changed_u_1) c_spec_Changed_u_1 := loop_ok (body := m_spec_Changed_u_1) (L := lookL []) (ck_spec_Changed_u) mixed (ls_ok (l := []) (by kernel_rfl) .nil) (by intro x; kernel_rfl) (fun x y h => loopO_iff.1 h)
noncomputable def e_spec_Changed_u : Ent := ⟨0, p_spec_Changed_u, q_spec_Changed_u, m_spec_Changed_u⟩
theorem ok_spec_Changed_u : FnOK Try.prog 50 e_spec_Changed_u := fn_ok (L := lookL [(0, l_spec_Changed_u_0), (2, l_spec_Changed_u_1)]) ck_spec_Changed_u mixed Try.func50 rfl (by kernel_rfl) (by kernel_rfl) (ls_ok (l := [(0, c_spec_Changed_u_0), (2, c_spec_Changed_u_1)]) (by kernel_rfl) (.cons rfl (lo_spec_Changed_u_0) (.cons rfl (lo_spec_Changed_u_1) .nil))) (by intro x; kernel_rfl)
abbrev p_spec_Changed_u_f : Pt := [(0, .lst .node), (1, .lst (.rc (.int .i64) [.ints, .ints, .str, .str, .strs] 0))]
abbrev q_spec_Changed_u_f : Pt := [(0, .lst .node), (1, .lst .int), (2, .bool)]
noncomputable def m_spec_Changed_u_f : Tup p_spec_Changed_u_f → Option (Tup q_spec_Changed_u_f) := frT 0 p_spec_Changed_u_f q_spec_Changed_u_f .k 146 113 (m_spec_Changed_u)
noncomputable def e_spec_Changed_u_f : Ent := ⟨0, p_spec_Changed_u_f, q_spec_Changed_u_f, m_spec_Changed_u_f⟩
theorem ok_spec_Changed_u_f : FnOK Try.prog 50 e_spec_Changed_u_f := fresh_ok (np := 0) (p := p_spec_Changed_u_f) (q := q_spec_Changed_u_f) (m := m_spec_Changed_u) ok_spec_Changed_u (by kernel_rfl) (by kernel_rfl)
end Go.Proofs.Ytfmlpodcldhgdaa.V
set_option linter.unusedVariables false
set_option linter.unusedSimpArgs false
namespace Go.Proofs.Ytfmlpodcldhgdaa.V
open Go
def Uk (G : Fo) (p q : Nat) (A B : List Nat) (k : Nat) : Fo :=
  ⟨G.m, fun i => if i ∈ (G.kids p).take k then some q else G.up i, fun i => if i = q then A ++ (G.kids p).take k ++ p :: B else if i = p then (G.kids p).drop k else G.kids i⟩
section
variable {G : Fo} {P : Nat → Int × Node} {p q : Nat} {A B : List Nat} {k : Nat}
theorem Uk0 (hq : G.kids q = A ++ p :: B) : Uk G p q A B 0 = G := by
  refine Fo.ext rfl (fun i => ?_) (fun i => ?_)
  · simp [Uk]
  · simp only [Uk, List.take_zero, List.append_nil, List.drop_zero]
    by_cases e : i = q
    · rw [if_pos e, e, hq]
    · rw [if_neg e]
      by_cases e2 : i = p
      · rw [if_pos e2, e2]
      · rw [if_neg e2]
structure Uw (G : Fo) (p q : Nat) (A B : List Nat) : Prop where
  ok : G.ok
  hq : G.kids q = A ++ p :: B
  pq : q ≠ p
  nk : ∀ c ∈ G.kids p, c ≠ q ∧ c ≠ p
theorem Uw.up (h : Uw G p q A B) : G.up p = some q ∧ p < G.m := h.ok.kid (by rw [h.hq]; simp)
theorem Uw.qm (h : Uw G p q A B) : q < G.m := (h.ok.up h.up.1).1
theorem Uw.dis (h : Uw G p q A B) {c : Nat} (hc : c ∈ G.kids p) : c ∉ A ∧ c ∉ B := by
  have hu := (h.ok.kid hc).1
  have key : ∀ X : List Nat, (∀ z ∈ X, z ∈ G.kids q) → c ∉ X := fun X hX hx => by
    have := (h.ok.kid (hX c hx)).1
    rw [hu] at this
    exact h.pq (Option.some.inj this).symm
  exact ⟨key A fun z hz => by rw [h.hq]; simp [hz], key B fun z hz => by rw [h.hq]; simp [hz]⟩
theorem Uk_step (h : Uw G p q A B) (hU : (Uk G p q A B k).ok) {c : Nat} (hc : (G.kids p)[k]? = some c) :
    Sp (Uk G p q A B k) ((Uk G p q A B k).off [c]) p c [] ((G.kids p).drop (k + 1)) ∧ Sp (Uk G p q A B (k + 1)) ((Uk G p q A B k).off [c]) q c (A ++ (G.kids p).take k) (p :: B) := by
  have hcm := List.mem_of_getElem? hc
  have hck := h.nk c hcm
  have hcu := h.ok.kid hcm
  have hnd := h.ok.nd p
  have hdr : (G.kids p).drop k = c :: (G.kids p).drop (k + 1) := by
    obtain ⟨h1, h2⟩ := List.getElem?_eq_some_iff.1 hc
    rw [← h2]; exact List.drop_eq_getElem_cons h1
  have htk : (G.kids p).take (k + 1) = (G.kids p).take k ++ [c] := by rw [List.take_add_one, hc]; rfl
  have hnt : c ∉ (G.kids p).take k := fun hm => by
    have h1 := List.take_append_drop k (G.kids p)
    rw [← h1, hdr, List.nodup_append] at hnd
    exact hnd.2.2 c hm c (by simp) rfl
  have hqm := h.qm
  have hpm := h.up.2
  have s1 : Sp (Uk G p q A B k) ((Uk G p q A B k).setK p ([] ++ (G.kids p).drop (k + 1)) c none) p c [] ((G.kids p).drop (k + 1)) := by
    refine ⟨hU, hpm, hcu.2, ?_, ?_, rfl⟩
    · simp only [Uk, if_neg hnt]; exact hcu.1
    · simp only [Uk, if_neg (Ne.symm h.pq), if_true, hdr]; rfl
  have e1 := off_sp s1
  rw [e1] at s1
  refine ⟨s1, ?_⟩
  have hok := off_ok (l := [c]) hU
  have hdis := h.dis hcm
  have hk : ((Uk G p q A B k).off [c]).kids q = (A ++ (G.kids p).take k) ++ (p :: B) := by
    show ((Uk G p q A B k).kids q).filter _ = _
    simp only [Uk, if_true]
    refine filt_all fun z hz hzc => ?_
    have := List.mem_singleton.1 hzc
    subst this
    simp only [List.mem_append, List.mem_cons] at hz
    rcases hz with (hz | hz) | hz | hz
    · exact hdis.1 hz
    · exact hnt hz
    · exact hck.2 hz
    · exact hdis.2 hz
  have s2 := Sp.ins (G := (Uk G p q A B k).off [c]) (p := q) (c := c) hok hqm hcu.2 (off_up_none (by simp)) (Ne.symm hck.1) hk
  have e2 : ((Uk G p q A B k).off [c]).setK q ((A ++ (G.kids p).take k) ++ c :: p :: B) c (some q) = Uk G p q A B (k + 1) := by
    refine Fo.ext rfl (fun i => ?_) (fun i => ?_)
    · simp only [Fo.setK, Fo.off, Uk, htk, List.mem_append, List.mem_singleton]
      by_cases e : i = c
      · simp [e]
      · simp [e]
    · simp only [Fo.setK]
      by_cases e : i = q
      · simp only [if_pos e, Uk, htk]
        simp
      · rw [if_neg e]
        show ((Uk G p q A B k).kids i).filter _ = _
        simp only [Uk, if_neg e]
        by_cases e3 : i = p
        · simp only [if_pos e3]
          rw [hdr]
          have hnc : c ∉ (G.kids p).drop (k + 1) := by
            have h1 := (List.drop_sublist k (G.kids p)).nodup hnd
            rw [hdr] at h1
            exact (List.nodup_cons.1 h1).1
          rw [List.filter_cons_of_neg (by simp)]
          exact filt_all fun z hz hzc => hnc (by rw [← List.mem_singleton.1 hzc]; exact hz)
        · simp only [if_neg e3]
          refine filt_all fun z hz hzc => ?_
          have := List.mem_singleton.1 hzc
          subst this
          have := (h.ok.kid hz).1
          rw [hcu.1] at this
          exact e3 (Option.some.inj this).symm
  rw [e2] at s2
  exact s2
theorem Uk_ok (h : Uw G p q A B) : ∀ k, k ≤ (G.kids p).length → (Uk G p q A B k).ok
  | 0, _ => by rw [Uk0 h.hq]; exact h.ok
  | k + 1, hk => by
    obtain ⟨c, hc⟩ := get_lt (l := G.kids p) (k := k) (by omega)
    exact (Uk_step h (Uk_ok h k (by omega)) hc).2.okF
theorem Uk_klen (h : Uw G p q A B) (hm : G.m ≤ 1000) (hk : k ≤ (G.kids p).length) (i : Nat) : ((Uk G p q A B k).kids i).length ≤ 1000 := by
  have hok := Uk_ok h k hk
  have h1 := (hok.nd i).length_le_of_subset (l₂ := List.range G.m) (fun z hz => List.mem_range.2 (hok.kid hz).2)
  rw [List.length_range] at h1
  omega
theorem puts_eq (h : Uw G p q A B) (hm : G.m ≤ 1000) (l : List (Option Nat)) (i : Int) : ∀ d k : Nat, (G.kids p).length - k = d → k ≤ (G.kids p).length →
    loopO m_spec_unwrapped_1_0 (l, i, some p, some q, (A.length : Int), (G.kids p).map some, (k : Int), (Uk G p q A B k).kst P) = some (l, i, some p, (Uk G p q A B (G.kids p).length).kst P) := by
  have hkl := fun i => Uk_klen h hm (k := 0) (Nat.zero_le _) i
  rw [Uk0 h.hq] at hkl
  have hp := hkl p
  have hqq := hkl q
  rw [h.hq] at hqq
  simp only [List.length_append, List.length_cons] at hqq
  intro d
  induction d with
  | zero =>
    intro k hd hk
    obtain rfl : k = (G.kids p).length := by omega
    refine loopO_out ?_
    simp only [m_spec_unwrapped_1_0, cond_dec]
    rw [if_neg (by simp)]
  | succ d ih =>
    intro k hd hk
    obtain ⟨c, hc⟩ := get_lt (l := G.kids p) (k := k) (by omega)
    obtain ⟨s1, s2⟩ := Uk_step h (Uk_ok h k hk) hc
    have hg : ((G.kids p).map some)[k]? = some (some c) := by rw [List.getElem?_map, hc]; rfl
    have hcut := cut_eq (P := P) s1 (by have := Uk_klen h hm hk p; omega)
    have hput := put_eq (P := P) hcut s2 (by have := Uk_klen h hm (k := k + 1) (by omega) q; omega)
    have e1 : ((A ++ (G.kids p).take k).length : Int) = (A.length : Int) + (k : Int) := by simp; omega
    rw [e1] at hput
    have step : m_spec_unwrapped_1_0 (l, i, some p, some q, (A.length : Int), (G.kids p).map some, (k : Int), (Uk G p q A B k).kst P) = some (.nx (l, i, some p, some q, (A.length : Int), (G.kids p).map some, ((k + 1 : Nat) : Int), (Uk G p q A B (k + 1)).kst P)) := by
      simp only [m_spec_unwrapped_1_0, cond_dec, atI_nat, Int.toNat_natCast, hg, bind_some]
      rw [if_pos (by simp; omega), w64 (n := (A.length : Int) + (k : Int)) (by omega) (by omega), hput, bind_some, w64 (by omega) (by omega)]
      rfl
    rw [loopO_nx step]
    exact ih (k + 1) (by omega) (by omega)
end
def unw (G : Fo) (p q : Nat) (A B : List Nat) : Fo := (Uk G p q A B (G.kids p).length).off [p]
structure Ud (t : List Node) (G : Fo) : Prop where
  ok : G.ok
  m : G.m = t.length
  ord : ∀ x y, y ∈ G.kids x → x < y
section
variable {t : List Node} {G : Fo} {P : Nat → Int × Node} {p q : Nat} {A B : List Nat}
theorem Ud.uw (h : Ud t G) (hu : G.up p = some q) : ∃ A B, Uw G p q A B := by
  obtain ⟨h1, h2⟩ := h.ok.up hu
  obtain ⟨A, B, e⟩ := List.append_of_mem h2
  have h3 := h.ord q p h2
  exact ⟨A, B, h.ok, e, by omega, fun c hc => by have := h.ord p c hc; omega⟩
theorem unw_up (h : Uw G p q A B) (i : Nat) : (unw G p q A B).up i = if i = p then none else if i ∈ G.kids p then some q else G.up i := by
  simp only [unw, Fo.off, Uk, List.mem_singleton, List.take_length]
theorem unw_kids (h : Uw G p q A B) {x y : Nat} (hy : y ∈ (unw G p q A B).kids x) : (x = q ∧ y ∈ G.kids p) ∨ y ∈ G.kids x := by
  have h1 : y ∈ (Uk G p q A B (G.kids p).length).kids x := (List.mem_filter.1 hy).1
  simp only [Uk, List.take_length, List.drop_length] at h1
  by_cases e : x = q
  · rw [if_pos e] at h1
    subst e
    rw [h.hq]
    simp only [List.mem_append, List.mem_cons] at h1 ⊢
    rcases h1 with (h1 | h1) | h1 | h1
    · exact .inr (.inl h1)
    · exact .inl ⟨trivial, h1⟩
    · exact .inr (.inr (.inl h1))
    · exact .inr (.inr (.inr h1))
  · rw [if_neg e] at h1
    by_cases e2 : x = p
    · rw [if_pos e2] at h1; cases h1
    · rw [if_neg e2] at h1; exact .inr h1
theorem Ud.step (h : Ud t G) (hw : Uw G p q A B) : Ud t (unw G p q A B) := by
  refine ⟨off_ok (Uk_ok hw _ (Nat.le_refl _)), h.m, fun x y hy => ?_⟩
  rcases unw_kids hw hy with ⟨rfl, h1⟩ | h1
  · have h2 := h.ord p y h1
    have h3 := h.ord x p (by rw [hw.hq]; simp)
    omega
  · exact h.ord x y h1
def unwAll : Fo → List Nat → Option Fo
  | G, [] => some G
  | G, p :: l => match G.up p with
    | none => none
    | some q => unwAll (unw G p q ((G.kids q).takeWhile fun c => decide (c ≠ p)) (((G.kids q).dropWhile fun c => decide (c ≠ p)).drop 1)) l
theorem tw_split {p : Nat} : ∀ {l A B : List Nat}, l = A ++ p :: B → p ∉ A → (l.takeWhile fun c => decide (c ≠ p)) = A ∧ ((l.dropWhile fun c => decide (c ≠ p)).drop 1) = B
  | _, [], B, rfl, _ => by simp
  | _, a :: A, B, rfl, h => by
    simp only [List.mem_cons, not_or] at h
    have ha : a ≠ p := fun e => h.1 e.symm
    obtain ⟨h1, h2⟩ := tw_split (l := A ++ p :: B) rfl h.2
    simp only [List.cons_append, List.takeWhile_cons, List.dropWhile_cons, decide_eq_true ha, if_true]
    exact ⟨by rw [h1], h2⟩
theorem Uw.pA (h : Uw G p q A B) : p ∉ A := fun hm => by
  have := h.ok.nd q
  rw [h.hq, List.nodup_append] at this
  exact this.2.2 p hm p (by simp) rfl
theorem unwAll_cons (h : Uw G p q A B) (l : List Nat) : unwAll G (p :: l) = unwAll (unw G p q A B) l := by
  obtain ⟨h1, h2⟩ := tw_split h.hq h.pA
  simp only [unwAll, h.up.1, h1, h2]
theorem unws_eq {l : List Nat} (hl : l.length ≤ 1000) (hn : l.Nodup) (ht : t.length ≤ 1000) : ∀ (d j : Nat) (G : Fo), l.length - j = d → j ≤ l.length → Ud t G → (∀ p ∈ l.drop j, ∃ q, G.up p = some q) →
    ∃ H, loopO m_spec_unwrapped_1 (l.map some, (j : Int), G.kst P) = some (H.kst P) ∧ Ud t H ∧ unwAll G (l.drop j) = some H := by
  intro d
  induction d with
  | zero =>
    intro j G hd hj hU _
    obtain rfl : j = l.length := by omega
    refine ⟨G, loopO_out ?_, hU, by rw [List.drop_length]; rfl⟩
    simp only [m_spec_unwrapped_1, cond_dec]
    rw [if_neg (by simp)]
  | succ d ih =>
    intro j G hd hj hU hup
    obtain ⟨p, hp⟩ := get_lt (l := l) (k := j) (by omega)
    have hdr : l.drop j = p :: l.drop (j + 1) := by
      obtain ⟨h1, h2⟩ := List.getElem?_eq_some_iff.1 hp
      rw [← h2]; exact List.drop_eq_getElem_cons h1
    obtain ⟨q, hq⟩ := hup p (by rw [hdr]; simp)
    obtain ⟨A, B, hw⟩ := hU.uw hq
    have hpm := hw.up.2
    have hm : G.m ≤ 1000 := by have := hU.m; omega
    have hg := Fo.kget (F := G) (P := P) hpm
    have hkk : (G.kn1 P p).kids = (G.kids p).map some := rfl
    have hku : (G.kn1 P p).up = some q := hq
    have hkl : ∀ i, (G.kids i).length ≤ 1000 := fun i => by
      have := Uk_klen hw hm (k := 0) (Nat.zero_le _) i
      rwa [Uk0 hw.hq] at this
    have hsp : Sp G (G.setK q (A ++ B) p none) q p A B := ⟨hw.ok, hw.qm, hpm, hq, hw.hq, rfl⟩
    have hpl := place_eq (P := P) hsp (by have := hkl q; omega)
    have hgl : (l.map some)[j]? = some (some p) := by rw [List.getElem?_map, hp]; rfl
    have hput := puts_eq (P := P) hw hm (l.map some) (j : Int) (G.kids p).length 0 rfl (Nat.zero_le _)
    rw [Uk0 hw.hq] at hput
    have hput' : loopO m_spec_unwrapped_1_0 (l.map some, (j : Int), some p, some q, (A.length : Int), (G.kids p).map some, (0 : Int), G.kst P) = _ := hput
    have hcut := cut_off (P := P) (Uk_ok hw _ (Nat.le_refl _)) (c := p) hpm (fun i => by have := Uk_klen hw hm (Nat.le_refl _) i; omega)
    have step : m_spec_unwrapped_1 (l.map some, (j : Int), G.kst P) = some (.nx (l.map some, ((j + 1 : Nat) : Int), (unw G p q A B).kst P)) := by
      simp only [m_spec_unwrapped_1, cond_dec, atI_nat, Int.toNat_natCast, hgl, bind_some, hg, hpl, hkk, hku]
      rw [if_pos (by simp; omega), appL_some (by have := hkl p; simp; omega), bind_some, List.nil_append, hput', bind_some]
      simp only [hcut, bind_some]
      rw [w64 (by omega) (by omega)]
      rfl
    have hnj := (List.drop_sublist j l).nodup hn
    rw [hdr, List.nodup_cons] at hnj
    obtain ⟨H, g1, g2, g3⟩ := ih (j + 1) (unw G p q A B) (by omega) (by omega) (hU.step hw) (fun p' hp' => by
      have hne : p' ≠ p := fun e => hnj.1 (e ▸ hp')
      rw [unw_up hw, if_neg hne]
      split
      · exact ⟨q, rfl⟩
      · exact hup p' (by rw [hdr]; simp [hp']))
    refine ⟨H, by rw [loopO_nx step]; exact g1, g2, ?_⟩
    rw [hdr, unwAll_cons hw]
    exact g3
end
end Go.Proofs.Ytfmlpodcldhgdaa.V
set_option linter.unusedVariables false
set_option linter.unusedSimpArgs false
namespace Go.Proofs.Ytfmlpodcldhgdaa.V
open Go Go.Proofs
abbrev p_goquery_appendWithoutDuplicates_mp : Pt := [(0, .own .np 76), (1, .lst .np), (2, .mp)]
abbrev q_goquery_appendWithoutDuplicates_mp : Pt := [(0, .own .np 76), (1002, .mp)]
abbrev p_goquery_appendWithoutDuplicates_mp_0 : Pt := [(0, .own .np 76), (2, .mp), (23, .lst .np), (24, .int .i64), (25, .int .i64)]
abbrev x_goquery_appendWithoutDuplicates_mp_0 : List (Xt × Pt) := [(.ex 0, [(0, .own .np 76), (2, .mp)])]
noncomputable def m_goquery_appendWithoutDuplicates_mp_0 : Tup p_goquery_appendWithoutDuplicates_mp_0 → Option (Stp (Tup p_goquery_appendWithoutDuplicates_mp_0) (SumT (x_goquery_appendWithoutDuplicates_mp_0.map (·.2)))) := fun (x : List (Option Nat) × List (Option Nat × Bool) × List (Option Nat) × Int × Int) => bif decide (x.2.2.2.2 < x.2.2.2.1) then Option.bind (atI x.2.2.1 x.2.2.2.2) fun (v : Option Nat) => Option.bind (m_goquery_isInSlice (x.1, v)) fun (r : Bool) => bif !r then Option.bind (appL x.1 [v]) fun (r : List (Option Nat)) => some (Stp.nx (r, x.2.1, x.2.2.1, x.2.2.2.1, IntKind.wrap .i64 (x.2.2.2.2 + (1 : Int)))) else some (Stp.nx (x.1, x.2.1, x.2.2.1, x.2.2.2.1, IntKind.wrap .i64 (x.2.2.2.2 + (1 : Int)))) else some (Stp.out (x.1, x.2.1))
abbrev p_goquery_appendWithoutDuplicates_mp_1 : Pt := [(0, .own .np 76), (1, .lst .np), (2, .mp), (47, .al 0), (48, .int .i64), (49, .int .i64)]
abbrev x_goquery_appendWithoutDuplicates_mp_1 : List (Xt × Pt) := [(.ex 2, [(0, .own .np 76), (1, .lst .np), (2, .mp)])]
noncomputable def m_goquery_appendWithoutDuplicates_mp_1 : Tup p_goquery_appendWithoutDuplicates_mp_1 → Option (Stp (Tup p_goquery_appendWithoutDuplicates_mp_1) (SumT (x_goquery_appendWithoutDuplicates_mp_1.map (·.2)))) := fun (x : List (Option Nat) × List (Option Nat) × List (Option Nat × Bool) × PUnit × Int × Int) => bif decide (x.2.2.2.2.2 < x.2.2.2.2.1) then Option.bind (atI x.1 x.2.2.2.2.2) fun (x_1 : Option Nat) => Option.bind x.1[Int.toNat x.2.2.2.2.2]? fun (v : Option Nat) => some (Stp.nx (x.1, x.2.1, mput x.2.2.1 v true, (), x.2.2.2.2.1, IntKind.wrap .i64 (x.2.2.2.2.2 + (1 : Int)))) else some (Stp.out (x.1, x.2.1, x.2.2.1))
abbrev p_goquery_appendWithoutDuplicates_mp_2 : Pt := [(0, .own .np 76), (2, .mp), (56, .lst .np), (57, .int .i64), (58, .int .i64)]
abbrev x_goquery_appendWithoutDuplicates_mp_2 : List (Xt × Pt) := [(.ex 4, [(0, .own .np 76), (2, .mp)])]
noncomputable def m_goquery_appendWithoutDuplicates_mp_2 : Tup p_goquery_appendWithoutDuplicates_mp_2 → Option (Stp (Tup p_goquery_appendWithoutDuplicates_mp_2) (SumT (x_goquery_appendWithoutDuplicates_mp_2.map (·.2)))) := fun (x : List (Option Nat) × List (Option Nat × Bool) × List (Option Nat) × Int × Int) => bif decide (x.2.2.2.2 < x.2.2.2.1) then Option.bind (atI x.2.2.1 x.2.2.2.2) fun (v : Option Nat) => bif !mget x.2.1 v then Option.bind (appL x.1 [v]) fun (r : List (Option Nat)) => some (Stp.nx (r, mput x.2.1 v true, x.2.2.1, x.2.2.2.1, IntKind.wrap .i64 (x.2.2.2.2 + (1 : Int)))) else some (Stp.nx (x.1, x.2.1, x.2.2.1, x.2.2.2.1, IntKind.wrap .i64 (x.2.2.2.2 + (1 : Int)))) else some (Stp.out (x.1, x.2.1))
noncomputable def m_goquery_appendWithoutDuplicates_mp : Tup p_goquery_appendWithoutDuplicates_mp → Option (Tup q_goquery_appendWithoutDuplicates_mp) := fun (x : List (Option Nat) × List (Option Nat) × List (Option Nat × Bool)) => Option.bind (loopO m_goquery_appendWithoutDuplicates_mp_2 (x.1, x.2.2, x.2.1, (↑(List.length x.2.1) : Int), (0 : Int))) fun (y : List (Option Nat) × List (Option Nat × Bool)) => some (y.1, y.2)
noncomputable def cx_goquery_appendWithoutDuplicates_mp : Cx := ⟨tb, lookE [(144, e_goquery_isInSlice)], lookS []⟩
theorem ck_goquery_appendWithoutDuplicates_mp : CxOK Try.prog (cx_goquery_appendWithoutDuplicates_mp) := cx_ok tb_ok (.cons ok_goquery_isInSlice Try.call144 .nil)
noncomputable def c_goquery_appendWithoutDuplicates_mp_0 : Code := loopAt (Go.Proofs.Try.f115.body.getD .skip) 0
noncomputable def l_goquery_appendWithoutDuplicates_mp_0 : LEnt := ⟨p_goquery_appendWithoutDuplicates_mp_0, x_goquery_appendWithoutDuplicates_mp_0, loopO (m_goquery_appendWithoutDuplicates_mp_0)⟩
theorem lo_goquery_appendWithoutDuplicates_mp_0 : LOK Try.prog 74 2003 false (l_goquery_appendWithoutDuplicates_mp_0) c_goquery_appendWithoutDuplicates_mp_0 := loop_ok (body := m_goquery_appendWithoutDuplicates_mp_0) (L := lookL []) (ck_goquery_appendWithoutDuplicates_mp) mixed (ls_ok (l := []) (by kernel_rfl) .nil) (by intro x; kernel_rfl) (fun x y h => loopO_iff.1 h)
noncomputable def c_goquery_appendWithoutDuplicates_mp_1 : Code := loopAt (Go.Proofs.Try.f115.body.getD .skip) 1
noncomputable def l_goquery_appendWithoutDuplicates_mp_1 : LEnt := ⟨p_goquery_appendWithoutDuplicates_mp_1, x_goquery_appendWithoutDuplicates_mp_1, loopO (m_goquery_appendWithoutDuplicates_mp_1)⟩
theorem lo_goquery_appendWithoutDuplicates_mp_1 : LOK Try.prog 74 2003 false (l_goquery_appendWithoutDuplicates_mp_1) c_goquery_appendWithoutDuplicates_mp_1 := loop_ok (body := m_goquery_appendWithoutDuplicates_mp_1) (L := lookL []) (ck_goquery_appendWithoutDuplicates_mp) mixed (ls_ok (l := []) (by kernel_rfl) .nil) (by intro x; kernel_rfl) (fun x y h => loopO_iff.1 h)
noncomputable def c_goquery_appendWithoutDuplicates_mp_2 : Code := loopAt (Go.Proofs.Try.f115.body.getD .skip) 2
noncomputable def l_goquery_appendWithoutDuplicates_mp_2 : LEnt := ⟨p_goquery_appendWithoutDuplicates_mp_2, x_goquery_appendWithoutDuplicates_mp_2, loopO (m_goquery_appendWithoutDuplicates_mp_2)⟩
theorem lo_goquery_appendWithoutDuplicates_mp_2 : LOK Try.prog 74 2003 false (l_goquery_appendWithoutDuplicates_mp_2) c_goquery_appendWithoutDuplicates_mp_2 := loop_ok (body := m_goquery_appendWithoutDuplicates_mp_2) (L := lookL []) (ck_goquery_appendWithoutDuplicates_mp) mixed (ls_ok (l := []) (by kernel_rfl) .nil) (by intro x; kernel_rfl) (fun x y h => loopO_iff.1 h)
noncomputable def e_goquery_appendWithoutDuplicates_mp : Ent := ⟨2003, p_goquery_appendWithoutDuplicates_mp, q_goquery_appendWithoutDuplicates_mp, m_goquery_appendWithoutDuplicates_mp⟩
theorem ok_goquery_appendWithoutDuplicates_mp : FnOK Try.prog 115 e_goquery_appendWithoutDuplicates_mp := fn_ok (L := lookL [(0, l_goquery_appendWithoutDuplicates_mp_0), (2, l_goquery_appendWithoutDuplicates_mp_1), (4, l_goquery_appendWithoutDuplicates_mp_2)]) ck_goquery_appendWithoutDuplicates_mp mixed Try.func115 rfl (by kernel_rfl) (by kernel_rfl) (ls_ok (l := [(0, c_goquery_appendWithoutDuplicates_mp_0), (2, c_goquery_appendWithoutDuplicates_mp_1), (4, c_goquery_appendWithoutDuplicates_mp_2)]) (by kernel_rfl) (.cons rfl (lo_goquery_appendWithoutDuplicates_mp_0) (.cons rfl (lo_goquery_appendWithoutDuplicates_mp_1) (.cons rfl (lo_goquery_appendWithoutDuplicates_mp_2) .nil)))) (by intro x; kernel_rfl)
end Go.Proofs.Ytfmlpodcldhgdaa.V
