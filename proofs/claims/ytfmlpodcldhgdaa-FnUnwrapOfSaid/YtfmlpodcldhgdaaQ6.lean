/-
  Plain facts and an evaluator for what a law needs.
-/
import Derived.Test.YtfmlpodcldhgdaaQ5
set_option linter.unusedVariables false
set_option linter.unusedSimpArgs false
namespace Go.Proofs.Ytfmlpodcldhgdaa.V
open Go Go.Proofs
abbrev p_goquery_getChildrenWithSiblingType_1 : Pt := [(0, .np), (1, .fp .int), (2, .fp .np), (3, .fp .np), (NTR, .nsr .h)]
abbrev q_goquery_getChildrenWithSiblingType_1 : Pt := [(0, .np)]
abbrev p_goquery_getChildrenWithSiblingType_1_0 : Pt := [(0, .np), (1, .fp .int), (2, .fp .np), (3, .fp .np), (5, .np), (NTR, .nsr .h)]
abbrev x_goquery_getChildrenWithSiblingType_1_0 : List (Xt × Pt) := [(.rt, [(5, .np), (NTR, .nsr .h)])]
noncomputable def m_goquery_getChildrenWithSiblingType_1_0 : Tup p_goquery_getChildrenWithSiblingType_1_0 → Option (Stp (Tup p_goquery_getChildrenWithSiblingType_1_0) (SumT (x_goquery_getChildrenWithSiblingType_1_0.map (·.2)))) := fun (x : Option Nat × Int × Option Nat × Option Nat × Option Nat × List HN) => bif decide (x.2.1 = (0 : Int)) then bif Option.isNone x.1 then Option.bind x.2.2.1 fun (i : Nat) => Option.bind (some i) fun (i : Nat) => Option.bind x.2.2.2.2.2[i]? fun (h : HN) => bif decide (HN.fst h = x.2.2.2.1) then bif !Option.isNone x.2.2.2.1 then Option.bind x.2.2.2.1 fun (i : Nat) => Option.bind (some i) fun (i : Nat) => Option.bind x.2.2.2.2.2[i]? fun (h : HN) => bif Option.isNone (HN.nxt h) then some (Stp.out (HN.nxt h, x.2.2.2.2.2)) else Option.bind (HN.nxt h) fun (i : Nat) => Option.bind (some i) fun (i : Nat) => Option.bind x.2.2.2.2.2[i]? fun (h_1 : HN) => bif decide (HN.ty h_1 = (3 : Int)) then some (Stp.out (HN.nxt h, x.2.2.2.2.2)) else bif decide (x.2.1 = (4 : Int)) then some (Stp.out (HN.nxt h, x.2.2.2.2.2)) else some (Stp.nx (HN.nxt h, x.2.1, x.2.2.1, x.2.2.2.1, HN.nxt h, x.2.2.2.2.2)) else bif Option.isNone (HN.fst h) then some (Stp.out (HN.fst h, x.2.2.2.2.2)) else Option.bind (HN.fst h) fun (i : Nat) => Option.bind (some i) fun (i : Nat) => Option.bind x.2.2.2.2.2[i]? fun (h_1 : HN) => bif decide (HN.ty h_1 = (3 : Int)) then some (Stp.out (HN.fst h, x.2.2.2.2.2)) else bif decide (x.2.1 = (4 : Int)) then some (Stp.out (HN.fst h, x.2.2.2.2.2)) else some (Stp.nx (HN.fst h, x.2.1, x.2.2.1, x.2.2.2.1, HN.fst h, x.2.2.2.2.2)) else bif Option.isNone (HN.fst h) then some (Stp.out (HN.fst h, x.2.2.2.2.2)) else Option.bind (HN.fst h) fun (i : Nat) => Option.bind (some i) fun (i : Nat) => Option.bind x.2.2.2.2.2[i]? fun (h_1 : HN) => bif decide (HN.ty h_1 = (3 : Int)) then some (Stp.out (HN.fst h, x.2.2.2.2.2)) else bif decide (x.2.1 = (4 : Int)) then some (Stp.out (HN.fst h, x.2.2.2.2.2)) else some (Stp.nx (HN.fst h, x.2.1, x.2.2.1, x.2.2.2.1, HN.fst h, x.2.2.2.2.2)) else Option.bind x.1 fun (i : Nat) => Option.bind (some i) fun (i : Nat) => Option.bind x.2.2.2.2.2[i]? fun (h : HN) => bif decide (HN.nxt h = x.2.2.2.1) then bif !Option.isNone x.2.2.2.1 then Option.bind x.2.2.2.1 fun (i : Nat) => Option.bind (some i) fun (i : Nat) => Option.bind x.2.2.2.2.2[i]? fun (h : HN) => bif Option.isNone (HN.nxt h) then some (Stp.out (HN.nxt h, x.2.2.2.2.2)) else Option.bind (HN.nxt h) fun (i : Nat) => Option.bind (some i) fun (i : Nat) => Option.bind x.2.2.2.2.2[i]? fun (h_1 : HN) => bif decide (HN.ty h_1 = (3 : Int)) then some (Stp.out (HN.nxt h, x.2.2.2.2.2)) else bif decide (x.2.1 = (4 : Int)) then some (Stp.out (HN.nxt h, x.2.2.2.2.2)) else some (Stp.nx (HN.nxt h, x.2.1, x.2.2.1, x.2.2.2.1, HN.nxt h, x.2.2.2.2.2)) else bif Option.isNone (HN.nxt h) then some (Stp.out (HN.nxt h, x.2.2.2.2.2)) else Option.bind (HN.nxt h) fun (i : Nat) => Option.bind (some i) fun (i : Nat) => Option.bind x.2.2.2.2.2[i]? fun (h_1 : HN) => bif decide (HN.ty h_1 = (3 : Int)) then some (Stp.out (HN.nxt h, x.2.2.2.2.2)) else bif decide (x.2.1 = (4 : Int)) then some (Stp.out (HN.nxt h, x.2.2.2.2.2)) else some (Stp.nx (HN.nxt h, x.2.1, x.2.2.1, x.2.2.2.1, HN.nxt h, x.2.2.2.2.2)) else bif Option.isNone (HN.nxt h) then some (Stp.out (HN.nxt h, x.2.2.2.2.2)) else Option.bind (HN.nxt h) fun (i : Nat) => Option.bind (some i) fun (i : Nat) => Option.bind x.2.2.2.2.2[i]? fun (h_1 : HN) => bif decide (HN.ty h_1 = (3 : Int)) then some (Stp.out (HN.nxt h, x.2.2.2.2.2)) else bif decide (x.2.1 = (4 : Int)) then some (Stp.out (HN.nxt h, x.2.2.2.2.2)) else some (Stp.nx (HN.nxt h, x.2.1, x.2.2.1, x.2.2.2.1, HN.nxt h, x.2.2.2.2.2)) else bif decide (x.2.1 = (4 : Int)) then bif Option.isNone x.1 then Option.bind x.2.2.1 fun (i : Nat) => Option.bind (some i) fun (i : Nat) => Option.bind x.2.2.2.2.2[i]? fun (h : HN) => bif decide (HN.fst h = x.2.2.2.1) then bif !Option.isNone x.2.2.2.1 then Option.bind x.2.2.2.1 fun (i : Nat) => Option.bind (some i) fun (i : Nat) => Option.bind x.2.2.2.2.2[i]? fun (h : HN) => bif Option.isNone (HN.nxt h) then some (Stp.out (HN.nxt h, x.2.2.2.2.2)) else Option.bind (HN.nxt h) fun (i : Nat) => Option.bind (some i) fun (i : Nat) => Option.bind x.2.2.2.2.2[i]? fun (h_1 : HN) => bif decide (HN.ty h_1 = (3 : Int)) then some (Stp.out (HN.nxt h, x.2.2.2.2.2)) else bif decide (x.2.1 = (4 : Int)) then some (Stp.out (HN.nxt h, x.2.2.2.2.2)) else some (Stp.nx (HN.nxt h, x.2.1, x.2.2.1, x.2.2.2.1, HN.nxt h, x.2.2.2.2.2)) else bif Option.isNone (HN.fst h) then some (Stp.out (HN.fst h, x.2.2.2.2.2)) else Option.bind (HN.fst h) fun (i : Nat) => Option.bind (some i) fun (i : Nat) => Option.bind x.2.2.2.2.2[i]? fun (h_1 : HN) => bif decide (HN.ty h_1 = (3 : Int)) then some (Stp.out (HN.fst h, x.2.2.2.2.2)) else bif decide (x.2.1 = (4 : Int)) then some (Stp.out (HN.fst h, x.2.2.2.2.2)) else some (Stp.nx (HN.fst h, x.2.1, x.2.2.1, x.2.2.2.1, HN.fst h, x.2.2.2.2.2)) else bif Option.isNone (HN.fst h) then some (Stp.out (HN.fst h, x.2.2.2.2.2)) else Option.bind (HN.fst h) fun (i : Nat) => Option.bind (some i) fun (i : Nat) => Option.bind x.2.2.2.2.2[i]? fun (h_1 : HN) => bif decide (HN.ty h_1 = (3 : Int)) then some (Stp.out (HN.fst h, x.2.2.2.2.2)) else bif decide (x.2.1 = (4 : Int)) then some (Stp.out (HN.fst h, x.2.2.2.2.2)) else some (Stp.nx (HN.fst h, x.2.1, x.2.2.1, x.2.2.2.1, HN.fst h, x.2.2.2.2.2)) else Option.bind x.1 fun (i : Nat) => Option.bind (some i) fun (i : Nat) => Option.bind x.2.2.2.2.2[i]? fun (h : HN) => bif decide (HN.nxt h = x.2.2.2.1) then bif !Option.isNone x.2.2.2.1 then Option.bind x.2.2.2.1 fun (i : Nat) => Option.bind (some i) fun (i : Nat) => Option.bind x.2.2.2.2.2[i]? fun (h : HN) => bif Option.isNone (HN.nxt h) then some (Stp.out (HN.nxt h, x.2.2.2.2.2)) else Option.bind (HN.nxt h) fun (i : Nat) => Option.bind (some i) fun (i : Nat) => Option.bind x.2.2.2.2.2[i]? fun (h_1 : HN) => bif decide (HN.ty h_1 = (3 : Int)) then some (Stp.out (HN.nxt h, x.2.2.2.2.2)) else bif decide (x.2.1 = (4 : Int)) then some (Stp.out (HN.nxt h, x.2.2.2.2.2)) else some (Stp.nx (HN.nxt h, x.2.1, x.2.2.1, x.2.2.2.1, HN.nxt h, x.2.2.2.2.2)) else bif Option.isNone (HN.nxt h) then some (Stp.out (HN.nxt h, x.2.2.2.2.2)) else Option.bind (HN.nxt h) fun (i : Nat) => Option.bind (some i) fun (i : Nat) => Option.bind x.2.2.2.2.2[i]? fun (h_1 : HN) => bif decide (HN.ty h_1 = (3 : Int)) then some (Stp.out (HN.nxt h, x.2.2.2.2.2)) else bif decide (x.2.1 = (4 : Int)) then some (Stp.out (HN.nxt h, x.2.2.2.2.2)) else some (Stp.nx (HN.nxt h, x.2.1, x.2.2.1, x.2.2.2.1, HN.nxt h, x.2.2.2.2.2)) else bif Option.isNone (HN.nxt h) then some (Stp.out (HN.nxt h, x.2.2.2.2.2)) else Option.bind (HN.nxt h) fun (i : Nat) => Option.bind (some i) fun (i : Nat) => Option.bind x.2.2.2.2.2[i]? fun (h_1 : HN) => bif decide (HN.ty h_1 = (3 : Int)) then some (Stp.out (HN.nxt h, x.2.2.2.2.2)) else bif decide (x.2.1 = (4 : Int)) then some (Stp.out (HN.nxt h, x.2.2.2.2.2)) else some (Stp.nx (HN.nxt h, x.2.1, x.2.2.1, x.2.2.2.1, HN.nxt h, x.2.2.2.2.2)) else bif decide (x.2.1 = (-1 : Int)) then bif Option.isNone x.1 then Option.bind x.2.2.2.1 fun (i : Nat) => Option.bind (some i) fun (i : Nat) => Option.bind x.2.2.2.2.2[i]? fun (h : HN) => bif Option.isNone (HN.prv h) then some (Stp.out (HN.prv h, x.2.2.2.2.2)) else Option.bind (HN.prv h) fun (i : Nat) => Option.bind (some i) fun (i : Nat) => Option.bind x.2.2.2.2.2[i]? fun (h_1 : HN) => bif decide (HN.ty h_1 = (3 : Int)) then some (Stp.out (HN.prv h, x.2.2.2.2.2)) else bif decide (x.2.1 = (4 : Int)) then some (Stp.out (HN.prv h, x.2.2.2.2.2)) else some (Stp.nx (HN.prv h, x.2.1, x.2.2.1, x.2.2.2.1, HN.prv h, x.2.2.2.2.2)) else Option.bind x.1 fun (i : Nat) => Option.bind (some i) fun (i : Nat) => Option.bind x.2.2.2.2.2[i]? fun (h : HN) => bif Option.isNone (HN.prv h) then some (Stp.out (HN.prv h, x.2.2.2.2.2)) else Option.bind (HN.prv h) fun (i : Nat) => Option.bind (some i) fun (i : Nat) => Option.bind x.2.2.2.2.2[i]? fun (h_1 : HN) => bif decide (HN.ty h_1 = (3 : Int)) then some (Stp.out (HN.prv h, x.2.2.2.2.2)) else bif decide (x.2.1 = (4 : Int)) then some (Stp.out (HN.prv h, x.2.2.2.2.2)) else some (Stp.nx (HN.prv h, x.2.1, x.2.2.1, x.2.2.2.1, HN.prv h, x.2.2.2.2.2)) else bif decide (x.2.1 = (-2 : Int)) then bif Option.isNone x.1 then Option.bind x.2.2.2.1 fun (i : Nat) => Option.bind (some i) fun (i : Nat) => Option.bind x.2.2.2.2.2[i]? fun (h : HN) => bif Option.isNone (HN.prv h) then some (Stp.out (HN.prv h, x.2.2.2.2.2)) else Option.bind (HN.prv h) fun (i : Nat) => Option.bind (some i) fun (i : Nat) => Option.bind x.2.2.2.2.2[i]? fun (h_1 : HN) => bif decide (HN.ty h_1 = (3 : Int)) then some (Stp.out (HN.prv h, x.2.2.2.2.2)) else bif decide (x.2.1 = (4 : Int)) then some (Stp.out (HN.prv h, x.2.2.2.2.2)) else some (Stp.nx (HN.prv h, x.2.1, x.2.2.1, x.2.2.2.1, HN.prv h, x.2.2.2.2.2)) else Option.bind x.1 fun (i : Nat) => Option.bind (some i) fun (i : Nat) => Option.bind x.2.2.2.2.2[i]? fun (h : HN) => bif Option.isNone (HN.prv h) then some (Stp.out (HN.prv h, x.2.2.2.2.2)) else Option.bind (HN.prv h) fun (i : Nat) => Option.bind (some i) fun (i : Nat) => Option.bind x.2.2.2.2.2[i]? fun (h_1 : HN) => bif decide (HN.ty h_1 = (3 : Int)) then some (Stp.out (HN.prv h, x.2.2.2.2.2)) else bif decide (x.2.1 = (4 : Int)) then some (Stp.out (HN.prv h, x.2.2.2.2.2)) else some (Stp.nx (HN.prv h, x.2.1, x.2.2.1, x.2.2.2.1, HN.prv h, x.2.2.2.2.2)) else bif decide (x.2.1 = (-3 : Int)) then bif Option.isNone x.1 then Option.bind x.2.2.2.1 fun (i : Nat) => Option.bind (some i) fun (i : Nat) => Option.bind x.2.2.2.2.2[i]? fun (h : HN) => bif Option.isNone (HN.prv h) then some (Stp.out (HN.prv h, x.2.2.2.2.2)) else Option.bind (HN.prv h) fun (i : Nat) => Option.bind (some i) fun (i : Nat) => Option.bind x.2.2.2.2.2[i]? fun (h_1 : HN) => bif decide (HN.ty h_1 = (3 : Int)) then some (Stp.out (HN.prv h, x.2.2.2.2.2)) else bif decide (x.2.1 = (4 : Int)) then some (Stp.out (HN.prv h, x.2.2.2.2.2)) else some (Stp.nx (HN.prv h, x.2.1, x.2.2.1, x.2.2.2.1, HN.prv h, x.2.2.2.2.2)) else Option.bind x.1 fun (i : Nat) => Option.bind (some i) fun (i : Nat) => Option.bind x.2.2.2.2.2[i]? fun (h : HN) => bif Option.isNone (HN.prv h) then some (Stp.out (HN.prv h, x.2.2.2.2.2)) else Option.bind (HN.prv h) fun (i : Nat) => Option.bind (some i) fun (i : Nat) => Option.bind x.2.2.2.2.2[i]? fun (h_1 : HN) => bif decide (HN.ty h_1 = (3 : Int)) then some (Stp.out (HN.prv h, x.2.2.2.2.2)) else bif decide (x.2.1 = (4 : Int)) then some (Stp.out (HN.prv h, x.2.2.2.2.2)) else some (Stp.nx (HN.prv h, x.2.1, x.2.2.1, x.2.2.2.1, HN.prv h, x.2.2.2.2.2)) else bif decide (x.2.1 = (1 : Int)) then bif Option.isNone x.1 then Option.bind x.2.2.2.1 fun (i : Nat) => Option.bind (some i) fun (i : Nat) => Option.bind x.2.2.2.2.2[i]? fun (h : HN) => bif Option.isNone (HN.nxt h) then some (Stp.out (HN.nxt h, x.2.2.2.2.2)) else Option.bind (HN.nxt h) fun (i : Nat) => Option.bind (some i) fun (i : Nat) => Option.bind x.2.2.2.2.2[i]? fun (h_1 : HN) => bif decide (HN.ty h_1 = (3 : Int)) then some (Stp.out (HN.nxt h, x.2.2.2.2.2)) else bif decide (x.2.1 = (4 : Int)) then some (Stp.out (HN.nxt h, x.2.2.2.2.2)) else some (Stp.nx (HN.nxt h, x.2.1, x.2.2.1, x.2.2.2.1, HN.nxt h, x.2.2.2.2.2)) else Option.bind x.1 fun (i : Nat) => Option.bind (some i) fun (i : Nat) => Option.bind x.2.2.2.2.2[i]? fun (h : HN) => bif Option.isNone (HN.nxt h) then some (Stp.out (HN.nxt h, x.2.2.2.2.2)) else Option.bind (HN.nxt h) fun (i : Nat) => Option.bind (some i) fun (i : Nat) => Option.bind x.2.2.2.2.2[i]? fun (h_1 : HN) => bif decide (HN.ty h_1 = (3 : Int)) then some (Stp.out (HN.nxt h, x.2.2.2.2.2)) else bif decide (x.2.1 = (4 : Int)) then some (Stp.out (HN.nxt h, x.2.2.2.2.2)) else some (Stp.nx (HN.nxt h, x.2.1, x.2.2.1, x.2.2.2.1, HN.nxt h, x.2.2.2.2.2)) else bif decide (x.2.1 = (2 : Int)) then bif Option.isNone x.1 then Option.bind x.2.2.2.1 fun (i : Nat) => Option.bind (some i) fun (i : Nat) => Option.bind x.2.2.2.2.2[i]? fun (h : HN) => bif Option.isNone (HN.nxt h) then some (Stp.out (HN.nxt h, x.2.2.2.2.2)) else Option.bind (HN.nxt h) fun (i : Nat) => Option.bind (some i) fun (i : Nat) => Option.bind x.2.2.2.2.2[i]? fun (h_1 : HN) => bif decide (HN.ty h_1 = (3 : Int)) then some (Stp.out (HN.nxt h, x.2.2.2.2.2)) else bif decide (x.2.1 = (4 : Int)) then some (Stp.out (HN.nxt h, x.2.2.2.2.2)) else some (Stp.nx (HN.nxt h, x.2.1, x.2.2.1, x.2.2.2.1, HN.nxt h, x.2.2.2.2.2)) else Option.bind x.1 fun (i : Nat) => Option.bind (some i) fun (i : Nat) => Option.bind x.2.2.2.2.2[i]? fun (h : HN) => bif Option.isNone (HN.nxt h) then some (Stp.out (HN.nxt h, x.2.2.2.2.2)) else Option.bind (HN.nxt h) fun (i : Nat) => Option.bind (some i) fun (i : Nat) => Option.bind x.2.2.2.2.2[i]? fun (h_1 : HN) => bif decide (HN.ty h_1 = (3 : Int)) then some (Stp.out (HN.nxt h, x.2.2.2.2.2)) else bif decide (x.2.1 = (4 : Int)) then some (Stp.out (HN.nxt h, x.2.2.2.2.2)) else some (Stp.nx (HN.nxt h, x.2.1, x.2.2.1, x.2.2.2.1, HN.nxt h, x.2.2.2.2.2)) else bif decide (x.2.1 = (3 : Int)) then bif Option.isNone x.1 then Option.bind x.2.2.2.1 fun (i : Nat) => Option.bind (some i) fun (i : Nat) => Option.bind x.2.2.2.2.2[i]? fun (h : HN) => bif Option.isNone (HN.nxt h) then some (Stp.out (HN.nxt h, x.2.2.2.2.2)) else Option.bind (HN.nxt h) fun (i : Nat) => Option.bind (some i) fun (i : Nat) => Option.bind x.2.2.2.2.2[i]? fun (h_1 : HN) => bif decide (HN.ty h_1 = (3 : Int)) then some (Stp.out (HN.nxt h, x.2.2.2.2.2)) else bif decide (x.2.1 = (4 : Int)) then some (Stp.out (HN.nxt h, x.2.2.2.2.2)) else some (Stp.nx (HN.nxt h, x.2.1, x.2.2.1, x.2.2.2.1, HN.nxt h, x.2.2.2.2.2)) else Option.bind x.1 fun (i : Nat) => Option.bind (some i) fun (i : Nat) => Option.bind x.2.2.2.2.2[i]? fun (h : HN) => bif Option.isNone (HN.nxt h) then some (Stp.out (HN.nxt h, x.2.2.2.2.2)) else Option.bind (HN.nxt h) fun (i : Nat) => Option.bind (some i) fun (i : Nat) => Option.bind x.2.2.2.2.2[i]? fun (h_1 : HN) => bif decide (HN.ty h_1 = (3 : Int)) then some (Stp.out (HN.nxt h, x.2.2.2.2.2)) else bif decide (x.2.1 = (4 : Int)) then some (Stp.out (HN.nxt h, x.2.2.2.2.2)) else some (Stp.nx (HN.nxt h, x.2.1, x.2.2.1, x.2.2.2.1, HN.nxt h, x.2.2.2.2.2)) else none
noncomputable def m_goquery_getChildrenWithSiblingType_1 : Tup p_goquery_getChildrenWithSiblingType_1 → Option (Tup q_goquery_getChildrenWithSiblingType_1) := fun (x : Option Nat × Int × Option Nat × Option Nat × List HN) => Option.bind (loopO m_goquery_getChildrenWithSiblingType_1_0 (x.1, x.2.1, x.2.2.1, x.2.2.2.1, none, x.2.2.2.2)) fun (y : Option Nat × List HN) => some y.1
noncomputable def cx_goquery_getChildrenWithSiblingType_1 : Cx := ⟨tb, lookE [], lookS []⟩
theorem ck_goquery_getChildrenWithSiblingType_1 : CxOK Try.prog (cx_goquery_getChildrenWithSiblingType_1) := cx_ok tb_ok .nil
noncomputable def c_goquery_getChildrenWithSiblingType_1_0 : Code := loopAt (Go.Proofs.Try.f152.body.getD .skip) 0
noncomputable def l_goquery_getChildrenWithSiblingType_1_0 : LEnt := ⟨p_goquery_getChildrenWithSiblingType_1_0, x_goquery_getChildrenWithSiblingType_1_0, loopO (m_goquery_getChildrenWithSiblingType_1_0)⟩
theorem lo_goquery_getChildrenWithSiblingType_1_0 : LOK Try.prog 85 0 false (l_goquery_getChildrenWithSiblingType_1_0) c_goquery_getChildrenWithSiblingType_1_0 := loop_ok (body := m_goquery_getChildrenWithSiblingType_1_0) (L := lookL []) (ck_goquery_getChildrenWithSiblingType_1) mixed (ls_ok (l := []) (by kernel_rfl) .nil) (by intro x; kernel_rfl) (fun x y h => loopO_iff.1 h)
noncomputable def e_goquery_getChildrenWithSiblingType_1 : Ent := ⟨0, p_goquery_getChildrenWithSiblingType_1, q_goquery_getChildrenWithSiblingType_1, m_goquery_getChildrenWithSiblingType_1⟩
theorem ok_goquery_getChildrenWithSiblingType_1 : FnOK Try.prog 152 e_goquery_getChildrenWithSiblingType_1 := fn_ok (L := lookL [(0, l_goquery_getChildrenWithSiblingType_1_0)]) ck_goquery_getChildrenWithSiblingType_1 mixed Try.func152 rfl (by kernel_rfl) (by kernel_rfl) (ls_ok (l := [(0, c_goquery_getChildrenWithSiblingType_1_0)]) (by kernel_rfl) (.cons rfl (lo_goquery_getChildrenWithSiblingType_1_0) .nil)) (by intro x; kernel_rfl)
abbrev p_goquery_getChildrenWithSiblingType_n : Pt := [(0, .np), (1, .int .i64), (2, .np), (3, .fnl), (NTR, .nsr .h)]
abbrev q_goquery_getChildrenWithSiblingType_n : Pt := [(0, .own .np 76)]
abbrev p_goquery_getChildrenWithSiblingType_n_0 : Pt := [(3, .fnl), (5, .fp .int), (9, .clo 152 [.int, .np, .np]), (10, .int .i64), (11, .np), (NTR, .nsr .h)]
abbrev x_goquery_getChildrenWithSiblingType_n_0 : List (Xt × Pt) := [(.ex 1, [(3, .fnl), (5, .fp .int), (9, .clo 152 [.int, .np, .np]), (10, .int .i64), (NTR, .nsr .h)])]
noncomputable def m_goquery_getChildrenWithSiblingType_n_0 : Tup p_goquery_getChildrenWithSiblingType_n_0 → Option (Stp (Tup p_goquery_getChildrenWithSiblingType_n_0) (SumT (x_goquery_getChildrenWithSiblingType_n_0.map (·.2)))) := fun (x : PUnit × Int × (Int × Option Nat × Option Nat) × Int × Option Nat × List HN) => bif !Option.isNone x.2.2.2.2.1 then Option.bind (m_goquery_getChildrenWithSiblingType_1 (x.2.2.2.2.1, x.2.2.1.1, x.2.2.1.2.1, x.2.2.1.2.2, x.2.2.2.2.2)) fun (r : Option Nat) => some (Stp.nx ((), x.2.1, (x.2.2.1.1, x.2.2.1.2.1, x.2.2.1.2.2), IntKind.wrap .i64 (x.2.2.2.1 + (1 : Int)), r, x.2.2.2.2.2)) else some (Stp.out ((), x.2.1, (x.2.2.1.1, x.2.2.1.2.1, x.2.2.1.2.2), x.2.2.2.1, x.2.2.2.2.2))
abbrev p_goquery_getChildrenWithSiblingType_n_1 : Pt := [(3, .fnl), (5, .fp .int), (8, .own .np 76), (9, .clo 152 [.int, .np, .np]), (12, .np), (NTR, .nsr .h)]
abbrev x_goquery_getChildrenWithSiblingType_n_1 : List (Xt × Pt) := [(.ex 3, [(8, .own .np 76), (NTR, .nsr .h)]), (.rt, [(8, .own .np 76), (NTR, .nsr .h)])]
noncomputable def m_goquery_getChildrenWithSiblingType_n_1 : Tup p_goquery_getChildrenWithSiblingType_n_1 → Option (Stp (Tup p_goquery_getChildrenWithSiblingType_n_1) (SumT (x_goquery_getChildrenWithSiblingType_n_1.map (·.2)))) := fun (x : PUnit × Int × List (Option Nat) × (Int × Option Nat × Option Nat) × Option Nat × List HN) => bif !Option.isNone x.2.2.2.2.1 then bif decide (x.2.1 = (3 : Int)) then none else bif decide (x.2.1 = (-3 : Int)) then none else Option.bind (appL x.2.2.1 [x.2.2.2.2.1]) fun (r : List (Option Nat)) => bif decide (x.2.1 = (1 : Int)) then some (Stp.out (Sum.inr (r, x.2.2.2.2.2))) else bif decide (x.2.1 = (-1 : Int)) then some (Stp.out (Sum.inr (r, x.2.2.2.2.2))) else Option.bind (m_goquery_getChildrenWithSiblingType_1 (x.2.2.2.2.1, x.2.2.2.1.1, x.2.2.2.1.2.1, x.2.2.2.1.2.2, x.2.2.2.2.2)) fun (r_1 : Option Nat) => some (Stp.nx ((), x.2.1, r, (x.2.2.2.1.1, x.2.2.2.1.2.1, x.2.2.2.1.2.2), r_1, x.2.2.2.2.2)) else some (Stp.out (Sum.inl (x.2.2.1, x.2.2.2.2.2)))
noncomputable def m_goquery_getChildrenWithSiblingType_n : Tup p_goquery_getChildrenWithSiblingType_n → Option (Tup q_goquery_getChildrenWithSiblingType_n) := fun (x : Option Nat × Int × Option Nat × PUnit × List HN) => bif decide (x.2.1 = (0 : Int)) then Option.bind (m_goquery_getChildrenWithSiblingType_1 (none, x.2.1, x.1, x.2.2.1, x.2.2.2.2)) fun (r : Option Nat) => Option.bind (loopO m_goquery_getChildrenWithSiblingType_n_0 ((), x.2.1, (x.2.1, x.1, x.2.2.1), (0 : Int), r, x.2.2.2.2)) fun (y : PUnit × Int × (Int × Option Nat × Option Nat) × Int × List HN) => bif decide ((0 : Int) ≤ y.2.2.2.1 ∧ (0 : Int) ≤ (0 : Int) ∧ y.2.2.2.1 ≤ (1048576 : Int)) then Option.bind (m_goquery_getChildrenWithSiblingType_1 (none, y.2.2.1.1, y.2.2.1.2.1, y.2.2.1.2.2, y.2.2.2.2)) fun (r : Option Nat) => Option.bind (loopO m_goquery_getChildrenWithSiblingType_n_1 ((), y.2.1, List.replicate (Int.toNat (0 : Int)) none, (y.2.2.1.1, y.2.2.1.2.1, y.2.2.1.2.2), r, y.2.2.2.2)) fun (y : List (Option Nat) × List HN ⊕ List (Option Nat) × List HN) => selim (fun (y : List (Option Nat) × List HN) => some y.1) (fun (y : List (Option Nat) × List HN) => some y.1) y else none else bif decide (x.2.1 = (4 : Int)) then Option.bind (m_goquery_getChildrenWithSiblingType_1 (none, x.2.1, x.1, x.2.2.1, x.2.2.2.2)) fun (r : Option Nat) => Option.bind (loopO m_goquery_getChildrenWithSiblingType_n_0 ((), x.2.1, (x.2.1, x.1, x.2.2.1), (0 : Int), r, x.2.2.2.2)) fun (y : PUnit × Int × (Int × Option Nat × Option Nat) × Int × List HN) => bif decide ((0 : Int) ≤ y.2.2.2.1 ∧ (0 : Int) ≤ (0 : Int) ∧ y.2.2.2.1 ≤ (1048576 : Int)) then Option.bind (m_goquery_getChildrenWithSiblingType_1 (none, y.2.2.1.1, y.2.2.1.2.1, y.2.2.1.2.2, y.2.2.2.2)) fun (r : Option Nat) => Option.bind (loopO m_goquery_getChildrenWithSiblingType_n_1 ((), y.2.1, List.replicate (Int.toNat (0 : Int)) none, (y.2.2.1.1, y.2.2.1.2.1, y.2.2.1.2.2), r, y.2.2.2.2)) fun (y : List (Option Nat) × List HN ⊕ List (Option Nat) × List HN) => selim (fun (y : List (Option Nat) × List HN) => some y.1) (fun (y : List (Option Nat) × List HN) => some y.1) y else none else bif decide (x.2.1 = (-2 : Int)) then Option.bind (m_goquery_getChildrenWithSiblingType_1 (none, x.2.1, x.1, x.2.2.1, x.2.2.2.2)) fun (r : Option Nat) => Option.bind (loopO m_goquery_getChildrenWithSiblingType_n_0 ((), x.2.1, (x.2.1, x.1, x.2.2.1), (0 : Int), r, x.2.2.2.2)) fun (y : PUnit × Int × (Int × Option Nat × Option Nat) × Int × List HN) => bif decide ((0 : Int) ≤ y.2.2.2.1 ∧ (0 : Int) ≤ (0 : Int) ∧ y.2.2.2.1 ≤ (1048576 : Int)) then Option.bind (m_goquery_getChildrenWithSiblingType_1 (none, y.2.2.1.1, y.2.2.1.2.1, y.2.2.1.2.2, y.2.2.2.2)) fun (r : Option Nat) => Option.bind (loopO m_goquery_getChildrenWithSiblingType_n_1 ((), y.2.1, List.replicate (Int.toNat (0 : Int)) none, (y.2.2.1.1, y.2.2.1.2.1, y.2.2.1.2.2), r, y.2.2.2.2)) fun (y : List (Option Nat) × List HN ⊕ List (Option Nat) × List HN) => selim (fun (y : List (Option Nat) × List HN) => some y.1) (fun (y : List (Option Nat) × List HN) => some y.1) y else none else bif decide (x.2.1 = (2 : Int)) then Option.bind (m_goquery_getChildrenWithSiblingType_1 (none, x.2.1, x.1, x.2.2.1, x.2.2.2.2)) fun (r : Option Nat) => Option.bind (loopO m_goquery_getChildrenWithSiblingType_n_0 ((), x.2.1, (x.2.1, x.1, x.2.2.1), (0 : Int), r, x.2.2.2.2)) fun (y : PUnit × Int × (Int × Option Nat × Option Nat) × Int × List HN) => bif decide ((0 : Int) ≤ y.2.2.2.1 ∧ (0 : Int) ≤ (0 : Int) ∧ y.2.2.2.1 ≤ (1048576 : Int)) then Option.bind (m_goquery_getChildrenWithSiblingType_1 (none, y.2.2.1.1, y.2.2.1.2.1, y.2.2.1.2.2, y.2.2.2.2)) fun (r : Option Nat) => Option.bind (loopO m_goquery_getChildrenWithSiblingType_n_1 ((), y.2.1, List.replicate (Int.toNat (0 : Int)) none, (y.2.2.1.1, y.2.2.1.2.1, y.2.2.1.2.2), r, y.2.2.2.2)) fun (y : List (Option Nat) × List HN ⊕ List (Option Nat) × List HN) => selim (fun (y : List (Option Nat) × List HN) => some y.1) (fun (y : List (Option Nat) × List HN) => some y.1) y else none else Option.bind (m_goquery_getChildrenWithSiblingType_1 (none, x.2.1, x.1, x.2.2.1, x.2.2.2.2)) fun (r : Option Nat) => Option.bind (loopO m_goquery_getChildrenWithSiblingType_n_1 ((), x.2.1, [], (x.2.1, x.1, x.2.2.1), r, x.2.2.2.2)) fun (y : List (Option Nat) × List HN ⊕ List (Option Nat) × List HN) => selim (fun (y : List (Option Nat) × List HN) => some y.1) (fun (y : List (Option Nat) × List HN) => some y.1) y
noncomputable def cx_goquery_getChildrenWithSiblingType_n : Cx := ⟨tb, lookE [(152, e_goquery_getChildrenWithSiblingType_1)], lookS []⟩
theorem ck_goquery_getChildrenWithSiblingType_n : CxOK Try.prog (cx_goquery_getChildrenWithSiblingType_n) := cx_ok tb_ok (.cons ok_goquery_getChildrenWithSiblingType_1 Try.call152 .nil)
noncomputable def c_goquery_getChildrenWithSiblingType_n_0 : Code := loopAt (Go.Proofs.Try.f148.body.getD .skip) 0
noncomputable def l_goquery_getChildrenWithSiblingType_n_0 : LEnt := ⟨p_goquery_getChildrenWithSiblingType_n_0, x_goquery_getChildrenWithSiblingType_n_0, loopO (m_goquery_getChildrenWithSiblingType_n_0)⟩
theorem lo_goquery_getChildrenWithSiblingType_n_0 : LOK Try.prog 57 0 false (l_goquery_getChildrenWithSiblingType_n_0) c_goquery_getChildrenWithSiblingType_n_0 := loop_ok (body := m_goquery_getChildrenWithSiblingType_n_0) (L := lookL []) (ck_goquery_getChildrenWithSiblingType_n) mixed (ls_ok (l := []) (by kernel_rfl) .nil) (by intro x; kernel_rfl) (fun x y h => loopO_iff.1 h)
noncomputable def c_goquery_getChildrenWithSiblingType_n_1 : Code := loopAt (Go.Proofs.Try.f148.body.getD .skip) 1
noncomputable def l_goquery_getChildrenWithSiblingType_n_1 : LEnt := ⟨p_goquery_getChildrenWithSiblingType_n_1, x_goquery_getChildrenWithSiblingType_n_1, loopO (m_goquery_getChildrenWithSiblingType_n_1)⟩
theorem lo_goquery_getChildrenWithSiblingType_n_1 : LOK Try.prog 57 0 false (l_goquery_getChildrenWithSiblingType_n_1) c_goquery_getChildrenWithSiblingType_n_1 := loop_ok (body := m_goquery_getChildrenWithSiblingType_n_1) (L := lookL []) (ck_goquery_getChildrenWithSiblingType_n) mixed (ls_ok (l := []) (by kernel_rfl) .nil) (by intro x; kernel_rfl) (fun x y h => loopO_iff.1 h)
noncomputable def e_goquery_getChildrenWithSiblingType_n : Ent := ⟨0, p_goquery_getChildrenWithSiblingType_n, q_goquery_getChildrenWithSiblingType_n, m_goquery_getChildrenWithSiblingType_n⟩
theorem ok_goquery_getChildrenWithSiblingType_n : FnOK Try.prog 148 e_goquery_getChildrenWithSiblingType_n := fn_ok (L := lookL [(1, l_goquery_getChildrenWithSiblingType_n_0), (3, l_goquery_getChildrenWithSiblingType_n_1)]) ck_goquery_getChildrenWithSiblingType_n mixed Try.func148 rfl (by kernel_rfl) (by kernel_rfl) (ls_ok (l := [(1, c_goquery_getChildrenWithSiblingType_n_0), (3, c_goquery_getChildrenWithSiblingType_n_1)]) (by kernel_rfl) (.cons rfl (lo_goquery_getChildrenWithSiblingType_n_0) (.cons rfl (lo_goquery_getChildrenWithSiblingType_n_1) .nil))) (by intro x; kernel_rfl)
abbrev p_goquery_getChildrenNodes_1 : Pt := [(0, .int .i64), (1, .np), (2, .fp .int), (NTR, .nsr .h)]
abbrev q_goquery_getChildrenNodes_1 : Pt := [(0, .own .np 76)]
noncomputable def m_goquery_getChildrenNodes_1 : Tup p_goquery_getChildrenNodes_1 → Option (Tup q_goquery_getChildrenNodes_1) := fun (x : Int × Option Nat × Int × List HN) => Option.bind (m_goquery_getChildrenWithSiblingType_n (x.2.1, x.2.2.1, none, (), x.2.2.2)) fun (r : List (Option Nat)) => some r
noncomputable def cx_goquery_getChildrenNodes_1 : Cx := ⟨tb, lookE [(148, e_goquery_getChildrenWithSiblingType_n)], lookS []⟩
theorem ck_goquery_getChildrenNodes_1 : CxOK Try.prog (cx_goquery_getChildrenNodes_1) := cx_ok tb_ok (.cons ok_goquery_getChildrenWithSiblingType_n Try.call148 .nil)
noncomputable def e_goquery_getChildrenNodes_1 : Ent := ⟨0, p_goquery_getChildrenNodes_1, q_goquery_getChildrenNodes_1, m_goquery_getChildrenNodes_1⟩
theorem ok_goquery_getChildrenNodes_1 : FnOK Try.prog 147 e_goquery_getChildrenNodes_1 := fn_ok (L := lookL []) ck_goquery_getChildrenNodes_1 mixed Try.func147 rfl (by kernel_rfl) (by kernel_rfl) (ls_ok (l := []) (by kernel_rfl) .nil) (by intro x; kernel_rfl)
abbrev p_goquery_mapNodes_kids : Pt := [(0, .lst .np), (1, .clo 147 [.int]), (NTR, .nsr .h)]
abbrev q_goquery_mapNodes_kids : Pt := [(0, .own .np 76)]
abbrev p_goquery_mapNodes_kids_0 : Pt := [(1, .clo 147 [.int]), (4, .own .np 76), (5, .mp), (23, .lst .np), (24, .int .i64), (25, .int .i64), (NTR, .nsr .h)]
abbrev x_goquery_mapNodes_kids_0 : List (Xt × Pt) := [(.ex 1, [(4, .own .np 76), (NTR, .nsr .h)])]
noncomputable def m_goquery_mapNodes_kids_0 : Tup p_goquery_mapNodes_kids_0 → Option (Stp (Tup p_goquery_mapNodes_kids_0) (SumT (x_goquery_mapNodes_kids_0.map (·.2)))) := fun (x : Int × List (Option Nat) × List (Option Nat × Bool) × List (Option Nat) × Int × Int × List HN) => bif decide (x.2.2.2.2.2.1 < x.2.2.2.2.1) then Option.bind (atI x.2.2.2.1 x.2.2.2.2.2.1) fun (v : Option Nat) => Option.bind (m_goquery_getChildrenNodes_1 (x.2.2.2.2.2.1, v, x.1, x.2.2.2.2.2.2)) fun (r : List (Option Nat)) => bif decide ((0 : Int) < (↑(List.length r) : Int)) then Option.bind (m_goquery_appendWithoutDuplicates_mp (x.2.1, r, x.2.2.1)) fun (r : List (Option Nat) × List (Option Nat × Bool)) => some (Stp.nx (x.1, r.1, r.2, x.2.2.2.1, x.2.2.2.2.1, IntKind.wrap .i64 (x.2.2.2.2.2.1 + (1 : Int)), x.2.2.2.2.2.2)) else some (Stp.nx (x.1, x.2.1, x.2.2.1, x.2.2.2.1, x.2.2.2.2.1, IntKind.wrap .i64 (x.2.2.2.2.2.1 + (1 : Int)), x.2.2.2.2.2.2)) else some (Stp.out (x.2.1, x.2.2.2.2.2.2))
noncomputable def m_goquery_mapNodes_kids : Tup p_goquery_mapNodes_kids → Option (Tup q_goquery_mapNodes_kids) := fun (x : List (Option Nat) × Int × List HN) => bif decide ((↑(List.length x.1) : Int) = (0 : Int)) then some [] else bif decide ((↑(List.length x.1) : Int) = (1 : Int)) then Option.bind (atI x.1 (0 : Int)) fun (v : Option Nat) => Option.bind (m_goquery_getChildrenNodes_1 ((0 : Int), v, x.2.1, x.2.2)) fun (r : List (Option Nat)) => some r else Option.bind (loopO m_goquery_mapNodes_kids_0 (x.2.1, [], [], x.1, (↑(List.length x.1) : Int), (0 : Int), x.2.2)) fun (y : List (Option Nat) × List HN) => some y.1
noncomputable def cx_goquery_mapNodes_kids : Cx := ⟨tb, lookE [(115, e_goquery_appendWithoutDuplicates_mp), (147, e_goquery_getChildrenNodes_1)], lookS []⟩
theorem ck_goquery_mapNodes_kids : CxOK Try.prog (cx_goquery_mapNodes_kids) := cx_ok tb_ok (.cons ok_goquery_appendWithoutDuplicates_mp Try.call115 (.cons ok_goquery_getChildrenNodes_1 Try.call147 .nil))
noncomputable def c_goquery_mapNodes_kids_0 : Code := loopAt (Go.Proofs.Try.f146.body.getD .skip) 0
noncomputable def l_goquery_mapNodes_kids_0 : LEnt := ⟨p_goquery_mapNodes_kids_0, x_goquery_mapNodes_kids_0, loopO (m_goquery_mapNodes_kids_0)⟩
theorem lo_goquery_mapNodes_kids_0 : LOK Try.prog 43 0 false (l_goquery_mapNodes_kids_0) c_goquery_mapNodes_kids_0 := loop_ok (body := m_goquery_mapNodes_kids_0) (L := lookL []) (ck_goquery_mapNodes_kids) mixed (ls_ok (l := []) (by kernel_rfl) .nil) (by intro x; kernel_rfl) (fun x y h => loopO_iff.1 h)
noncomputable def e_goquery_mapNodes_kids : Ent := ⟨0, p_goquery_mapNodes_kids, q_goquery_mapNodes_kids, m_goquery_mapNodes_kids⟩
theorem ok_goquery_mapNodes_kids : FnOK Try.prog 146 e_goquery_mapNodes_kids := fn_ok (L := lookL [(1, l_goquery_mapNodes_kids_0)]) ck_goquery_mapNodes_kids mixed Try.func146 rfl (by kernel_rfl) (by kernel_rfl) (ls_ok (l := [(1, c_goquery_mapNodes_kids_0)]) (by kernel_rfl) (.cons rfl (lo_goquery_mapNodes_kids_0) .nil)) (by intro x; kernel_rfl)
abbrev p_goquery_getChildrenNodes : Pt := [(0, .lst .np), (1, .int .i64), (NTR, .nsr .h)]
abbrev q_goquery_getChildrenNodes : Pt := [(0, .own .np 76)]
noncomputable def m_goquery_getChildrenNodes : Tup p_goquery_getChildrenNodes → Option (Tup q_goquery_getChildrenNodes) := fun (x : List (Option Nat) × Int × List HN) => Option.bind (m_goquery_mapNodes_kids (x.1, x.2.1, x.2.2)) fun (r : List (Option Nat)) => some r
noncomputable def cx_goquery_getChildrenNodes : Cx := ⟨tb, lookE [(146, e_goquery_mapNodes_kids), (147, e_goquery_getChildrenNodes_1)], lookS []⟩
theorem ck_goquery_getChildrenNodes : CxOK Try.prog (cx_goquery_getChildrenNodes) := cx_ok tb_ok (.cons ok_goquery_mapNodes_kids Try.call146 (.cons ok_goquery_getChildrenNodes_1 Try.call147 .nil))
noncomputable def e_goquery_getChildrenNodes : Ent := ⟨0, p_goquery_getChildrenNodes, q_goquery_getChildrenNodes, m_goquery_getChildrenNodes⟩
theorem ok_goquery_getChildrenNodes : FnOK Try.prog 123 e_goquery_getChildrenNodes := fn_ok (L := lookL []) ck_goquery_getChildrenNodes mixed Try.func123 rfl (by kernel_rfl) (by kernel_rfl) (ls_ok (l := []) (by kernel_rfl) .nil) (by intro x; kernel_rfl)
abbrev p_goquery_getParentNodes : Pt := [(0, .lst .np), (NTR, .nsr .h)]
abbrev q_goquery_getParentNodes : Pt := [(0, .own .np 76)]
abbrev p_goquery_getParentNodes_0 : Pt := [(3, .own .np 76), (4, .mp), (11, .lst .np), (12, .int .i64), (13, .int .i64), (NTR, .nsr .h)]
abbrev x_goquery_getParentNodes_0 : List (Xt × Pt) := [(.ex 0, [(3, .own .np 76), (NTR, .nsr .h)])]
noncomputable def m_goquery_getParentNodes_0 : Tup p_goquery_getParentNodes_0 → Option (Stp (Tup p_goquery_getParentNodes_0) (SumT (x_goquery_getParentNodes_0.map (·.2)))) := fun (x : List (Option Nat) × List (Option Nat × Bool) × List (Option Nat) × Int × Int × List HN) => bif decide (x.2.2.2.2.1 < x.2.2.2.1) then Option.bind (atI x.2.2.1 x.2.2.2.2.1) fun (v : Option Nat) => Option.bind v fun (i : Nat) => Option.bind (some i) fun (i : Nat) => Option.bind x.2.2.2.2.2[i]? fun (h : HN) => bif Option.isNone (HN.par h) then some (Stp.nx (x.1, x.2.1, x.2.2.1, x.2.2.2.1, IntKind.wrap .i64 (x.2.2.2.2.1 + (1 : Int)), x.2.2.2.2.2)) else Option.bind (HN.par h) fun (i : Nat) => Option.bind (some i) fun (i : Nat) => Option.bind x.2.2.2.2.2[i]? fun (h_1 : HN) => bif decide (HN.ty h_1 ≠ (3 : Int)) then some (Stp.nx (x.1, x.2.1, x.2.2.1, x.2.2.2.1, IntKind.wrap .i64 (x.2.2.2.2.1 + (1 : Int)), x.2.2.2.2.2)) else bif mget x.2.1 (HN.par h) then some (Stp.nx (x.1, x.2.1, x.2.2.1, x.2.2.2.1, IntKind.wrap .i64 (x.2.2.2.2.1 + (1 : Int)), x.2.2.2.2.2)) else Option.bind (appL x.1 [HN.par h]) fun (r : List (Option Nat)) => some (Stp.nx (r, mput x.2.1 (HN.par h) true, x.2.2.1, x.2.2.2.1, IntKind.wrap .i64 (x.2.2.2.2.1 + (1 : Int)), x.2.2.2.2.2)) else some (Stp.out (x.1, x.2.2.2.2.2))
noncomputable def m_goquery_getParentNodes : Tup p_goquery_getParentNodes → Option (Tup q_goquery_getParentNodes) := fun (x : List (Option Nat) × List HN) => Option.bind (loopO m_goquery_getParentNodes_0 ([], [], x.1, (↑(List.length x.1) : Int), (0 : Int), x.2)) fun (y : List (Option Nat) × List HN) => some y.1
noncomputable def cx_goquery_getParentNodes : Cx := ⟨tb, lookE [], lookS []⟩
theorem ck_goquery_getParentNodes : CxOK Try.prog (cx_goquery_getParentNodes) := cx_ok tb_ok .nil
noncomputable def c_goquery_getParentNodes_0 : Code := loopAt (Go.Proofs.Try.f121.body.getD .skip) 0
noncomputable def l_goquery_getParentNodes_0 : LEnt := ⟨p_goquery_getParentNodes_0, x_goquery_getParentNodes_0, loopO (m_goquery_getParentNodes_0)⟩
theorem lo_goquery_getParentNodes_0 : LOK Try.prog 43 0 false (l_goquery_getParentNodes_0) c_goquery_getParentNodes_0 := loop_ok (body := m_goquery_getParentNodes_0) (L := lookL []) (ck_goquery_getParentNodes) mixed (ls_ok (l := []) (by kernel_rfl) .nil) (by intro x; kernel_rfl) (fun x y h => loopO_iff.1 h)
noncomputable def e_goquery_getParentNodes : Ent := ⟨0, p_goquery_getParentNodes, q_goquery_getParentNodes, m_goquery_getParentNodes⟩
theorem ok_goquery_getParentNodes : FnOK Try.prog 121 e_goquery_getParentNodes := fn_ok (L := lookL [(0, l_goquery_getParentNodes_0)]) ck_goquery_getParentNodes mixed Try.func121 rfl (by kernel_rfl) (by kernel_rfl) (ls_ok (l := [(0, c_goquery_getParentNodes_0)]) (by kernel_rfl) (.cons rfl (lo_goquery_getParentNodes_0) .nil)) (by intro x; kernel_rfl)
abbrev p_goquery_pushStack_o : Pt := [(0, .fp (.rc .nps [] 2)), (1, .own .np 76)]
abbrev q_goquery_pushStack_o : Pt := [(0, .blkx 74 [.own, .fl .any, .fl .any]), (2000000000, .hown 0 0 .np 76)]
noncomputable def m_goquery_pushStack_o : Tup p_goquery_pushStack_o → Option (Tup q_goquery_pushStack_o) := fun (x : List (Option Nat) × List (Option Nat)) => some (((), (), ()), x.2)
noncomputable def cx_goquery_pushStack_o : Cx := ⟨tb, lookE [], lookS [(1000074, [])]⟩
theorem ck_goquery_pushStack_o : CxOK Try.prog (cx_goquery_pushStack_o) := cx_ok tb_ok .nil
noncomputable def e_goquery_pushStack_o : Ent := ⟨0, p_goquery_pushStack_o, q_goquery_pushStack_o, m_goquery_pushStack_o⟩
theorem ok_goquery_pushStack_o : FnOK Try.prog 114 e_goquery_pushStack_o := fn_ok (L := lookL []) ck_goquery_pushStack_o mixed Try.func114 rfl (by kernel_rfl) (by kernel_rfl) (ls_ok (l := []) (by kernel_rfl) .nil) (by intro x; kernel_rfl)
abbrev p_goquery_Selection_Contents_o : Pt := [(0, .fp (.rc .nps [] 2)), (NT, .ns .h 126 168)]
abbrev q_goquery_Selection_Contents_o : Pt := [(0, .blkx 74 [.own, .fl .any, .fl .any]), (2000000000, .hown 0 0 .np 76), (NT, .ns .h 126 168)]
noncomputable def m_goquery_Selection_Contents_o : Tup p_goquery_Selection_Contents_o → Option (Tup q_goquery_Selection_Contents_o) := fun (x : List (Option Nat) × List HN) => Option.bind (m_goquery_getChildrenNodes (x.1, (4 : Int), x.2)) fun (r : List (Option Nat)) => Option.bind (m_goquery_pushStack_o (x.1, r)) fun (r : (PUnit × PUnit × PUnit) × List (Option Nat)) => some (((), (), ()), r.2, x.2)
noncomputable def cx_goquery_Selection_Contents_o : Cx := ⟨tb, lookE [(123, e_goquery_getChildrenNodes), (114, e_goquery_pushStack_o)], lookS []⟩
theorem ck_goquery_Selection_Contents_o : CxOK Try.prog (cx_goquery_Selection_Contents_o) := cx_ok tb_ok (.cons ok_goquery_getChildrenNodes Try.call123 (.cons ok_goquery_pushStack_o Try.call114 .nil))
noncomputable def e_goquery_Selection_Contents_o : Ent := ⟨0, p_goquery_Selection_Contents_o, q_goquery_Selection_Contents_o, m_goquery_Selection_Contents_o⟩
theorem ok_goquery_Selection_Contents_o : FnOK Try.prog 96 e_goquery_Selection_Contents_o := fn_ok (L := lookL []) ck_goquery_Selection_Contents_o mixed Try.func96 rfl (by kernel_rfl) (by kernel_rfl) (ls_ok (l := []) (by kernel_rfl) .nil) (by intro x; kernel_rfl)
abbrev p_goquery_Selection_Parent : Pt := [(0, .fp (.rc .nps [] 2)), (NT, .ns .h 126 168)]
abbrev q_goquery_Selection_Parent : Pt := [(0, .fp (.rc .nps [] 2)), (NT, .ns .h 126 168)]
noncomputable def m_goquery_Selection_Parent : Tup p_goquery_Selection_Parent → Option (Tup q_goquery_Selection_Parent) := fun (x : List (Option Nat) × List HN) => Option.bind (m_goquery_getParentNodes (x.1, x.2)) fun (r : List (Option Nat)) => Option.bind (m_goquery_pushStack (x.1, r)) fun (r : List (Option Nat)) => some (r, x.2)
noncomputable def cx_goquery_Selection_Parent : Cx := ⟨tb, lookE [(121, e_goquery_getParentNodes), (114, e_goquery_pushStack)], lookS []⟩
theorem ck_goquery_Selection_Parent : CxOK Try.prog (cx_goquery_Selection_Parent) := cx_ok tb_ok (.cons ok_goquery_getParentNodes Try.call121 (.cons ok_goquery_pushStack Try.call114 .nil))
noncomputable def e_goquery_Selection_Parent : Ent := ⟨0, p_goquery_Selection_Parent, q_goquery_Selection_Parent, m_goquery_Selection_Parent⟩
theorem ok_goquery_Selection_Parent : FnOK Try.prog 92 e_goquery_Selection_Parent := fn_ok (L := lookL []) ck_goquery_Selection_Parent mixed Try.func92 rfl (by kernel_rfl) (by kernel_rfl) (ls_ok (l := []) (by kernel_rfl) .nil) (by intro x; kernel_rfl)
abbrev p_goquery_Selection_ReplaceWithSelection_o : Pt := [(0, .fp (.rc .nps [] 2)), (1, .blkx 74 [.own, .fl .any, .fl .any]), (2000000064, .hown 1 0 .np 76), (NT, .ns .h 126 168)]
abbrev q_goquery_Selection_ReplaceWithSelection_o : Pt := [(0, .fp (.rc .nps [] 2)), (NT, .ns .h 126 168)]
noncomputable def m_goquery_Selection_ReplaceWithSelection_o : Tup p_goquery_Selection_ReplaceWithSelection_o → Option (Tup q_goquery_Selection_ReplaceWithSelection_o) := fun (x : List (Option Nat) × (PUnit × PUnit × PUnit) × List (Option Nat) × List HN) => Option.bind (m_goquery_Selection_ReplaceWithNodes (x.1, x.2.2.1, x.2.2.2)) fun (r : List (Option Nat) × List HN) => some (r.1, r.2)
noncomputable def cx_goquery_Selection_ReplaceWithSelection_o : Cx := ⟨tb, lookE [(60, e_goquery_Selection_ReplaceWithNodes)], lookS []⟩
theorem ck_goquery_Selection_ReplaceWithSelection_o : CxOK Try.prog (cx_goquery_Selection_ReplaceWithSelection_o) := cx_ok tb_ok (.cons ok_goquery_Selection_ReplaceWithNodes Try.call60 .nil)
noncomputable def e_goquery_Selection_ReplaceWithSelection_o : Ent := ⟨0, p_goquery_Selection_ReplaceWithSelection_o, q_goquery_Selection_ReplaceWithSelection_o, m_goquery_Selection_ReplaceWithSelection_o⟩
theorem ok_goquery_Selection_ReplaceWithSelection_o : FnOK Try.prog 95 e_goquery_Selection_ReplaceWithSelection_o := fn_ok (L := lookL []) ck_goquery_Selection_ReplaceWithSelection_o mixed Try.func95 rfl (by kernel_rfl) (by kernel_rfl) (ls_ok (l := []) (by kernel_rfl) .nil) (by intro x; kernel_rfl)
abbrev p_goquery_Selection_Unwrap_1 : Pt := [(0, .int .i64), (1, .fp (.rc .nps [] 2)), (NT, .ns .h 126 168)]
abbrev q_goquery_Selection_Unwrap_1 : Pt := [(NT, .ns .h 126 168)]
noncomputable def m_goquery_Selection_Unwrap_1 : Tup p_goquery_Selection_Unwrap_1 → Option (Tup q_goquery_Selection_Unwrap_1) := fun (x : Int × List (Option Nat) × List HN) => Option.bind (atI x.2.1 (0 : Int)) fun (v : Option Nat) => Option.bind v fun (i : Nat) => Option.bind (some i) fun (i : Nat) => Option.bind x.2.2[i]? fun (h : HN) => bif decide (HN.data h ≠ Array.toList (ByteArray.data { data := #[(98 : UInt8), (111 : UInt8), (100 : UInt8), (121 : UInt8)] })) then Option.bind (m_goquery_Selection_Contents_o (x.2.1, x.2.2)) fun (r : (PUnit × PUnit × PUnit) × List (Option Nat) × List HN) => Option.bind (m_goquery_Selection_ReplaceWithSelection_o (x.2.1, ((), (), ()), r.2.1, r.2.2)) fun (r : List (Option Nat) × List HN) => some r.2 else some x.2.2
noncomputable def cx_goquery_Selection_Unwrap_1 : Cx := ⟨tb, lookE [(96, e_goquery_Selection_Contents_o), (95, e_goquery_Selection_ReplaceWithSelection_o)], lookS []⟩
theorem ck_goquery_Selection_Unwrap_1 : CxOK Try.prog (cx_goquery_Selection_Unwrap_1) := cx_ok tb_ok (.cons ok_goquery_Selection_Contents_o Try.call96 (.cons ok_goquery_Selection_ReplaceWithSelection_o Try.call95 .nil))
noncomputable def e_goquery_Selection_Unwrap_1 : Ent := ⟨0, p_goquery_Selection_Unwrap_1, q_goquery_Selection_Unwrap_1, m_goquery_Selection_Unwrap_1⟩
theorem ok_goquery_Selection_Unwrap_1 : FnOK Try.prog 94 e_goquery_Selection_Unwrap_1 := fn_ok (L := lookL []) ck_goquery_Selection_Unwrap_1 mixed Try.func94 rfl (by kernel_rfl) (by kernel_rfl) (ls_ok (l := []) (by kernel_rfl) .nil) (by intro x; kernel_rfl)
abbrev p_goquery_Selection_Each_u : Pt := [(0, .fp (.rc .nps [] 2)), (1, .clo 94 []), (NT, .ns .h 126 168)]
abbrev q_goquery_Selection_Each_u : Pt := [(0, .fp (.rc .nps [] 2)), (NT, .ns .h 126 168)]
abbrev p_goquery_Selection_Each_u_0 : Pt := [(0, .fp (.rc .nps [] 2)), (1, .clo 94 []), (10, .lst .np), (11, .int .i64), (12, .int .i64), (NT, .ns .h 126 168)]
abbrev x_goquery_Selection_Each_u_0 : List (Xt × Pt) := [(.ex 0, [(0, .fp (.rc .nps [] 2)), (NT, .ns .h 126 168)])]
noncomputable def m_goquery_Selection_Each_u_0 : Tup p_goquery_Selection_Each_u_0 → Option (Stp (Tup p_goquery_Selection_Each_u_0) (SumT (x_goquery_Selection_Each_u_0.map (·.2)))) := fun (x : List (Option Nat) × PUnit × List (Option Nat) × Int × Int × List HN) => bif decide (x.2.2.2.2.1 < x.2.2.2.1) then Option.bind (atI x.2.2.1 x.2.2.2.2.1) fun (v : Option Nat) => Option.bind (m_goquery_newSingleSelection (v, ())) fun (r : List (Option Nat)) => Option.bind (m_goquery_Selection_Unwrap_1 (x.2.2.2.2.1, r, x.2.2.2.2.2)) fun (r : List HN) => some (Stp.nx (x.1, (), x.2.2.1, x.2.2.2.1, IntKind.wrap .i64 (x.2.2.2.2.1 + (1 : Int)), r)) else some (Stp.out (x.1, x.2.2.2.2.2))
noncomputable def m_goquery_Selection_Each_u : Tup p_goquery_Selection_Each_u → Option (Tup q_goquery_Selection_Each_u) := fun (x : List (Option Nat) × PUnit × List HN) => Option.bind (loopO m_goquery_Selection_Each_u_0 (x.1, (), x.1, (↑(List.length x.1) : Int), (0 : Int), x.2.2)) fun (y : List (Option Nat) × List HN) => some (y.1, y.2)
noncomputable def cx_goquery_Selection_Each_u : Cx := ⟨tb, lookE [(122, e_goquery_newSingleSelection), (94, e_goquery_Selection_Unwrap_1)], lookS []⟩
theorem ck_goquery_Selection_Each_u : CxOK Try.prog (cx_goquery_Selection_Each_u) := cx_ok tb_ok (.cons ok_goquery_newSingleSelection Try.call122 (.cons ok_goquery_Selection_Unwrap_1 Try.call94 .nil))
noncomputable def c_goquery_Selection_Each_u_0 : Code := loopAt (Go.Proofs.Try.f93.body.getD .skip) 0
noncomputable def l_goquery_Selection_Each_u_0 : LEnt := ⟨p_goquery_Selection_Each_u_0, x_goquery_Selection_Each_u_0, loopO (m_goquery_Selection_Each_u_0)⟩
theorem lo_goquery_Selection_Each_u_0 : LOK Try.prog 28 0 true (l_goquery_Selection_Each_u_0) c_goquery_Selection_Each_u_0 := loop_ok (body := m_goquery_Selection_Each_u_0) (L := lookL []) (ck_goquery_Selection_Each_u) mixed (ls_ok (l := []) (by kernel_rfl) .nil) (by intro x; kernel_rfl) (fun x y h => loopO_iff.1 h)
noncomputable def e_goquery_Selection_Each_u : Ent := ⟨0, p_goquery_Selection_Each_u, q_goquery_Selection_Each_u, m_goquery_Selection_Each_u⟩
theorem ok_goquery_Selection_Each_u : FnOK Try.prog 93 e_goquery_Selection_Each_u := fn_ok (L := lookL [(0, l_goquery_Selection_Each_u_0)]) ck_goquery_Selection_Each_u mixed Try.func93 rfl (by kernel_rfl) (by kernel_rfl) (ls_ok (l := [(0, c_goquery_Selection_Each_u_0)]) (by kernel_rfl) (.cons rfl (lo_goquery_Selection_Each_u_0) .nil)) (by intro x; kernel_rfl)
abbrev p_goquery_Selection_Unwrap : Pt := [(0, .fp (.rc .nps [] 2)), (NT, .ns .h 126 168)]
abbrev q_goquery_Selection_Unwrap : Pt := [(0, .fp (.rc .nps [] 2)), (NT, .ns .h 126 168)]
noncomputable def m_goquery_Selection_Unwrap : Tup p_goquery_Selection_Unwrap → Option (Tup q_goquery_Selection_Unwrap) := fun (x : List (Option Nat) × List HN) => Option.bind (m_goquery_Selection_Parent (x.1, x.2)) fun (r : List (Option Nat) × List HN) => Option.bind (m_goquery_Selection_Each_u (r.1, (), r.2)) fun (r : List (Option Nat) × List HN) => some (x.1, r.2)
noncomputable def cx_goquery_Selection_Unwrap : Cx := ⟨tb, lookE [(92, e_goquery_Selection_Parent), (93, e_goquery_Selection_Each_u)], lookS []⟩
theorem ck_goquery_Selection_Unwrap : CxOK Try.prog (cx_goquery_Selection_Unwrap) := cx_ok tb_ok (.cons ok_goquery_Selection_Parent Try.call92 (.cons ok_goquery_Selection_Each_u Try.call93 .nil))
noncomputable def e_goquery_Selection_Unwrap : Ent := ⟨0, p_goquery_Selection_Unwrap, q_goquery_Selection_Unwrap, m_goquery_Selection_Unwrap⟩
theorem ok_goquery_Selection_Unwrap : FnOK Try.prog 62 e_goquery_Selection_Unwrap := fn_ok (L := lookL []) ck_goquery_Selection_Unwrap mixed Try.func62 rfl (by kernel_rfl) (by kernel_rfl) (ls_ok (l := []) (by kernel_rfl) .nil) (by intro x; kernel_rfl)
abbrev p_impl_UnwrapOf : Pt := [(0, .lst .node), (1, .lst .int), (NT, .ns .h 126 168)]
abbrev q_impl_UnwrapOf : Pt := [(0, .lst .node), (1, .lst .int), (2, .bool), (NT, .ns .h 126 168)]
noncomputable def m_impl_UnwrapOf : Tup p_impl_UnwrapOf → Option (Tup q_impl_UnwrapOf) := fun (x : List Node × List Int × List HN) => Option.bind (m_impl_selected (x.1, x.2.1, x.2.2)) fun (r : (List (Option Nat) × PUnit) × List (Option Nat) × Bool × List HN) => bif !r.2.2.1 then some ([], [], false, r.2.2.2) else Option.bind (m_goquery_Selection_Unwrap (r.2.1, r.2.2.2)) fun (r_1 : List (Option Nat) × List HN) => Option.bind (m_impl_world_ends ((r.1.1, ()), r_1.2)) fun (r : List Node × List Int × List HN) => some (r.1, r.2.1, true, r.2.2)
noncomputable def cx_impl_UnwrapOf : Cx := ⟨tb, lookE [(51, e_impl_selected), (62, e_goquery_Selection_Unwrap), (54, e_impl_world_ends)], lookS []⟩
theorem ck_impl_UnwrapOf : CxOK Try.prog (cx_impl_UnwrapOf) := cx_ok tb_ok (.cons ok_impl_selected Try.call51 (.cons ok_goquery_Selection_Unwrap Try.call62 (.cons ok_impl_world_ends Try.call54 .nil)))
noncomputable def e_impl_UnwrapOf : Ent := ⟨0, p_impl_UnwrapOf, q_impl_UnwrapOf, m_impl_UnwrapOf⟩
theorem ok_impl_UnwrapOf : FnOK Try.prog 36 e_impl_UnwrapOf := fn_ok (L := lookL []) ck_impl_UnwrapOf mixed Try.func36 rfl (by kernel_rfl) (by kernel_rfl) (ls_ok (l := []) (by kernel_rfl) .nil) (by intro x; kernel_rfl)
abbrev p_impl_UnwrapOf_f : Pt := [(0, .lst .node), (1, .lst .int)]
abbrev q_impl_UnwrapOf_f : Pt := [(0, .lst .node), (1, .lst .int), (2, .bool)]
noncomputable def m_impl_UnwrapOf_f : Tup p_impl_UnwrapOf_f → Option (Tup q_impl_UnwrapOf_f) := frT 0 p_impl_UnwrapOf_f q_impl_UnwrapOf_f .h 126 168 (m_impl_UnwrapOf)
noncomputable def e_impl_UnwrapOf_f : Ent := ⟨0, p_impl_UnwrapOf_f, q_impl_UnwrapOf_f, m_impl_UnwrapOf_f⟩
theorem ok_impl_UnwrapOf_f : FnOK Try.prog 36 e_impl_UnwrapOf_f := fresh_ok (np := 0) (p := p_impl_UnwrapOf_f) (q := q_impl_UnwrapOf_f) (m := m_impl_UnwrapOf) ok_impl_UnwrapOf (by kernel_rfl) (by kernel_rfl)
end Go.Proofs.Ytfmlpodcldhgdaa.V
set_option linter.unusedVariables false
set_option linter.unusedSimpArgs false
namespace Go.Proofs.Ytfmlpodcldhgdaa.V
open Go
section
variable {F : Fo} {L : Nat → HN} {p : Nat}
theorem it_first (hF : F.ok) (hp : p < F.m) : m_goquery_getChildrenWithSiblingType_1 (none, 4, some p, none, F.st L) = some (F.kids p)[0]? := by
  have hg := Fo.get (F := F) (L := L) hp
  have hf : (F.mk1 L p).fst = (F.kids p)[0]? := by simp only [Fo.mk1, List.head?_eq_getElem?]
  have step : m_goquery_getChildrenWithSiblingType_1_0 (none, 4, some p, none, none, F.st L) = some (.out ((F.kids p)[0]?, F.st L)) := by
    simp only [m_goquery_getChildrenWithSiblingType_1_0, cond_dec, bind_some, hg, hf, Option.isNone_none, cond_true, Bool.not_true, cond_false]
    rw [if_neg (by decide), if_pos trivial]
    cases hk : (F.kids p)[0]? with
    | none => simp
    | some c =>
      have hc := (hF.kid (List.mem_of_getElem? hk)).2
      have hgc := Fo.get (F := F) (L := L) hc
      rw [if_neg (by simp)]
      simp only [Option.isNone_some, cond_false, bind_some, hgc]
      split <;> rfl
  simp only [m_goquery_getChildrenWithSiblingType_1, loopO_out step, bind_some]
theorem it_next (hF : F.ok) {j c : Nat} (hc : (F.kids p)[j]? = some c) : m_goquery_getChildrenWithSiblingType_1 (some c, 4, some p, none, F.st L) = some (F.kids p)[j + 1]? := by
  obtain ⟨hu, hcm⟩ := hF.kid (List.mem_of_getElem? hc)
  have hg := Fo.get (F := F) (L := L) hcm
  have hf : (F.mk1 L c).nxt = (F.kids p)[j + 1]? := by
    simp only [Fo.mk1, hu, Option.bind_some]
    exact nxtL_get (hF.nd p) hc
  have step : m_goquery_getChildrenWithSiblingType_1_0 (some c, 4, some p, none, none, F.st L) = some (.out ((F.kids p)[j + 1]?, F.st L)) := by
    simp only [m_goquery_getChildrenWithSiblingType_1_0, cond_dec, bind_some, hg, hf, Option.isNone_none, Option.isNone_some, cond_true, Bool.not_true, cond_false]
    rw [if_neg (by decide), if_pos trivial]
    cases hk : (F.kids p)[j + 1]? with
    | none => simp
    | some d =>
      have hd := (hF.kid (List.mem_of_getElem? hk)).2
      have hgd := Fo.get (F := F) (L := L) hd
      rw [if_neg (by simp)]
      simp only [Option.isNone_some, cond_false, bind_some, hgd]
      split <;> rfl
  simp only [m_goquery_getChildrenWithSiblingType_1, loopO_out step, bind_some]
theorem child_eq (hF : F.ok) (hp : p < F.m) (hl : (F.kids p).length ≤ 1000) : m_goquery_getChildrenWithSiblingType_n (some p, 4, none, (), F.st L) = some ((F.kids p).map some) := by
  have count : ∀ d j : Nat, (F.kids p).length - j = d → j ≤ (F.kids p).length → loopO m_goquery_getChildrenWithSiblingType_n_0 ((), 4, (4, some p, none), (j : Int), (F.kids p)[j]?, F.st L) = some ((), 4, (4, some p, none), ((F.kids p).length : Int), F.st L) := by
    intro d
    induction d with
    | zero =>
      intro j hd hj
      obtain rfl : j = (F.kids p).length := by omega
      refine loopO_out ?_
      have : (F.kids p)[(F.kids p).length]? = none := by simp
      simp only [m_goquery_getChildrenWithSiblingType_n_0, this, Option.isNone_none, Bool.not_true, cond_false]
    | succ d ih =>
      intro j hd hj
      obtain ⟨c, hc⟩ := get_lt (l := F.kids p) (k := j) (by omega)
      have step : m_goquery_getChildrenWithSiblingType_n_0 ((), 4, (4, some p, none), (j : Int), (F.kids p)[j]?, F.st L) = some (.nx ((), 4, (4, some p, none), ((j + 1 : Nat) : Int), (F.kids p)[j + 1]?, F.st L)) := by
        simp only [m_goquery_getChildrenWithSiblingType_n_0, hc, Option.isNone_some, Bool.not_false, cond_true, it_next hF hc, bind_some]
        rw [w64 (by omega) (by omega)]
        rfl
      rw [loopO_nx step]
      exact ih (j + 1) (by omega) (by omega)
  have coll : ∀ d j : Nat, (F.kids p).length - j = d → j ≤ (F.kids p).length → loopO m_goquery_getChildrenWithSiblingType_n_1 ((), 4, ((F.kids p).take j).map some, (4, some p, none), (F.kids p)[j]?, F.st L) = some (.inl ((F.kids p).map some, F.st L)) := by
    intro d
    induction d with
    | zero =>
      intro j hd hj
      obtain rfl : j = (F.kids p).length := by omega
      refine loopO_out ?_
      have : (F.kids p)[(F.kids p).length]? = none := by simp
      simp only [m_goquery_getChildrenWithSiblingType_n_1, this, Option.isNone_none, Bool.not_true, cond_false, List.take_length]
    | succ d ih =>
      intro j hd hj
      obtain ⟨c, hc⟩ := get_lt (l := F.kids p) (k := j) (by omega)
      have step : m_goquery_getChildrenWithSiblingType_n_1 ((), 4, ((F.kids p).take j).map some, (4, some p, none), (F.kids p)[j]?, F.st L) = some (.nx ((), 4, ((F.kids p).take (j + 1)).map some, (4, some p, none), (F.kids p)[j + 1]?, F.st L)) := by
        simp only [m_goquery_getChildrenWithSiblingType_n_1, hc, Option.isNone_some, Bool.not_false, cond_true, cond_dec, it_next hF hc]
        rw [if_neg (by decide), if_neg (by decide), appL_some (by simp; omega), bind_some, if_neg (by decide), if_neg (by decide), bind_some, List.take_add_one, hc]
        simp
      rw [loopO_nx step]
      exact ih (j + 1) (by omega) (by omega)
  have c0 := count (F.kids p).length 0 rfl (Nat.zero_le _)
  have c0' : loopO m_goquery_getChildrenWithSiblingType_n_0 ((), 4, (4, some p, none), (0 : Int), (F.kids p)[0]?, F.st L) = _ := c0
  have l0 := coll (F.kids p).length 0 rfl (Nat.zero_le _)
  have l0' : loopO m_goquery_getChildrenWithSiblingType_n_1 ((), 4, List.replicate (Int.toNat 0) none, (4, some p, none), (F.kids p)[0]?, F.st L) = _ := l0
  simp only [m_goquery_getChildrenWithSiblingType_n, cond_dec]
  rw [if_neg (by decide), if_pos trivial]
  simp only [it_first hF hp, bind_some, c0', l0']
  rw [if_pos ⟨by omega, by omega, by omega⟩]
  simp only [it_first hF hp, bind_some, l0', selim]
theorem children_eq (hF : F.ok) (hp : p < F.m) (hl : (F.kids p).length ≤ 1000) : m_goquery_getChildrenNodes ([some p], 4, F.st L) = some ((F.kids p).map some) := by
  have e : atI ([some p] : List (Option Nat)) 0 = some (some p) := rfl
  simp only [m_goquery_getChildrenNodes, m_goquery_mapNodes_kids, m_goquery_getChildrenNodes_1, cond_dec, e, bind_some, child_eq hF hp hl]
  rw [if_neg (by simp), if_pos (by simp)]
  rfl
end
end Go.Proofs.Ytfmlpodcldhgdaa.V
set_option linter.unusedVariables false
set_option linter.unusedSimpArgs false
namespace Go.Proofs.Ytfmlpodcldhgdaa.V
open Go
section
variable {t : List Node} {o : Nat} {ws : List Nat} {a : Int} {ks : List (Option Nat)}
end
end Go.Proofs.Ytfmlpodcldhgdaa.V
set_option linter.unusedVariables false
set_option linter.unusedSimpArgs false
namespace Go.Proofs.Ytfmlpodcldhgdaa.V
open Go Go.Proofs
abbrev p_spec_Attr : Pt := [(0, .el .node), (1, .str)]
abbrev q_spec_Attr : Pt := [(0, .str), (1, .bool)]
abbrev p_spec_Attr_0 : Pt := [(1, .str), (2, .blk .node 44), (6, .int .i64)]
abbrev x_spec_Attr_0 : List (Xt × Pt) := [(.ex 0, []), (.rt, [(4, .str), (5, .bool)])]
noncomputable def m_spec_Attr_0 : Tup p_spec_Attr_0 → Option (Stp (Tup p_spec_Attr_0) (SumT (x_spec_Attr_0.map (·.2)))) := fun (x : List UInt8 × Node × Int) => bif decide (x.2.2 < (↑(List.length (Node.attrs x.2.1)) : Int)) then Option.bind (atI (Node.attrs x.2.1) x.2.2) fun (v : Attr) => bif decide (Attr.key v = x.1) then Option.bind (atI (Node.attrs x.2.1) x.2.2) fun (v : Attr) => some (Stp.out (Sum.inr (Attr.val v, true))) else some (Stp.nx (x.1, { kind := Node.kind x.2.1, tag := Node.tag x.2.1, text := Node.text x.2.1, attrs := Node.attrs x.2.1, size := Node.size x.2.1 }, IntKind.wrap .i64 (x.2.2 + (1 : Int)))) else some (Stp.out (Sum.inl ()))
noncomputable def m_spec_Attr : Tup p_spec_Attr → Option (Tup q_spec_Attr) := fun (x : Node × List UInt8) => Option.bind (loopO m_spec_Attr_0 (x.2, { kind := Node.kind x.1, tag := Node.tag x.1, text := Node.text x.1, attrs := Node.attrs x.1, size := Node.size x.1 }, (0 : Int))) fun (y : PUnit ⊕ List UInt8 × Bool) => selim (fun (y : PUnit) => some ([], false)) (fun (y : List UInt8 × Bool) => some (y.1, y.2)) y
noncomputable def cx_spec_Attr : Cx := ⟨tb, lookE [], lookS []⟩
theorem ck_spec_Attr : CxOK Try.prog (cx_spec_Attr) := cx_ok tb_ok .nil
noncomputable def c_spec_Attr_0 : Code := loopAt (Go.Proofs.Try.f118.body.getD .skip) 0
noncomputable def l_spec_Attr_0 : LEnt := ⟨p_spec_Attr_0, x_spec_Attr_0, loopO (m_spec_Attr_0)⟩
theorem lo_spec_Attr_0 : LOK Try.prog 28 0 false (l_spec_Attr_0) c_spec_Attr_0 := loop_ok (body := m_spec_Attr_0) (L := lookL []) (ck_spec_Attr) mixed (ls_ok (l := []) (by kernel_rfl) .nil) (by intro x; kernel_rfl) (fun x y h => loopO_iff.1 h)
noncomputable def e_spec_Attr : Ent := ⟨0, p_spec_Attr, q_spec_Attr, m_spec_Attr⟩
theorem ok_spec_Attr : FnOK Try.prog 118 e_spec_Attr := fn_ok (L := lookL [(0, l_spec_Attr_0)]) ck_spec_Attr mixed Try.func118 rfl (by kernel_rfl) (by kernel_rfl) (ls_ok (l := [(0, c_spec_Attr_0)]) (by kernel_rfl) (.cons rfl (lo_spec_Attr_0) .nil)) (by intro x; kernel_rfl)
abbrev p_spec_Words : Pt := [(0, .str)]
abbrev q_spec_Words : Pt := [(0, .own .str 9)]
abbrev p_spec_Words_0 : Pt := [(0, .str), (3, .own .str 9), (4, .int .i64), (5, .int .i64)]
abbrev x_spec_Words_0 : List (Xt × Pt) := [(.ex 0, [(3, .own .str 9)])]
noncomputable def m_spec_Words_0 : Tup p_spec_Words_0 → Option (Stp (Tup p_spec_Words_0) (SumT (x_spec_Words_0.map (·.2)))) := fun (x : List UInt8 × List (List UInt8) × Int × Int) => bif decide (x.2.2.2 ≤ (↑(List.length x.1) : Int)) then bif decide (x.2.2.2 < (↑(List.length x.1) : Int)) then Option.bind (atI x.1 x.2.2.2) fun (c : UInt8) => bif decide ((↑(UInt8.toNat c) : Int) ≠ (32 : Int)) then Option.bind (atI x.1 x.2.2.2) fun (c : UInt8) => bif decide ((↑(UInt8.toNat c) : Int) ≠ (9 : Int)) then Option.bind (atI x.1 x.2.2.2) fun (c : UInt8) => bif decide ((↑(UInt8.toNat c) : Int) ≠ (10 : Int)) then Option.bind (atI x.1 x.2.2.2) fun (c : UInt8) => bif decide ((↑(UInt8.toNat c) : Int) ≠ (12 : Int)) then Option.bind (atI x.1 x.2.2.2) fun (c : UInt8) => bif decide ((↑(UInt8.toNat c) : Int) ≠ (13 : Int)) then some (Stp.nx (x.1, x.2.1, x.2.2.1, IntKind.wrap .i64 (x.2.2.2 + (1 : Int)))) else bif decide (x.2.2.1 < x.2.2.2) then Option.bind (subL x.1 x.2.2.1 x.2.2.2) fun (m : List UInt8) => Option.bind (appL x.2.1 [m]) fun (r : List (List UInt8)) => some (Stp.nx (x.1, r, IntKind.wrap .i64 (x.2.2.2 + (1 : Int)), IntKind.wrap .i64 (x.2.2.2 + (1 : Int)))) else some (Stp.nx (x.1, x.2.1, IntKind.wrap .i64 (x.2.2.2 + (1 : Int)), IntKind.wrap .i64 (x.2.2.2 + (1 : Int)))) else bif decide (x.2.2.1 < x.2.2.2) then Option.bind (subL x.1 x.2.2.1 x.2.2.2) fun (m : List UInt8) => Option.bind (appL x.2.1 [m]) fun (r : List (List UInt8)) => some (Stp.nx (x.1, r, IntKind.wrap .i64 (x.2.2.2 + (1 : Int)), IntKind.wrap .i64 (x.2.2.2 + (1 : Int)))) else some (Stp.nx (x.1, x.2.1, IntKind.wrap .i64 (x.2.2.2 + (1 : Int)), IntKind.wrap .i64 (x.2.2.2 + (1 : Int)))) else bif decide (x.2.2.1 < x.2.2.2) then Option.bind (subL x.1 x.2.2.1 x.2.2.2) fun (m : List UInt8) => Option.bind (appL x.2.1 [m]) fun (r : List (List UInt8)) => some (Stp.nx (x.1, r, IntKind.wrap .i64 (x.2.2.2 + (1 : Int)), IntKind.wrap .i64 (x.2.2.2 + (1 : Int)))) else some (Stp.nx (x.1, x.2.1, IntKind.wrap .i64 (x.2.2.2 + (1 : Int)), IntKind.wrap .i64 (x.2.2.2 + (1 : Int)))) else bif decide (x.2.2.1 < x.2.2.2) then Option.bind (subL x.1 x.2.2.1 x.2.2.2) fun (m : List UInt8) => Option.bind (appL x.2.1 [m]) fun (r : List (List UInt8)) => some (Stp.nx (x.1, r, IntKind.wrap .i64 (x.2.2.2 + (1 : Int)), IntKind.wrap .i64 (x.2.2.2 + (1 : Int)))) else some (Stp.nx (x.1, x.2.1, IntKind.wrap .i64 (x.2.2.2 + (1 : Int)), IntKind.wrap .i64 (x.2.2.2 + (1 : Int)))) else bif decide (x.2.2.1 < x.2.2.2) then Option.bind (subL x.1 x.2.2.1 x.2.2.2) fun (m : List UInt8) => Option.bind (appL x.2.1 [m]) fun (r : List (List UInt8)) => some (Stp.nx (x.1, r, IntKind.wrap .i64 (x.2.2.2 + (1 : Int)), IntKind.wrap .i64 (x.2.2.2 + (1 : Int)))) else some (Stp.nx (x.1, x.2.1, IntKind.wrap .i64 (x.2.2.2 + (1 : Int)), IntKind.wrap .i64 (x.2.2.2 + (1 : Int)))) else bif decide (x.2.2.1 < x.2.2.2) then Option.bind (subL x.1 x.2.2.1 x.2.2.2) fun (m : List UInt8) => Option.bind (appL x.2.1 [m]) fun (r : List (List UInt8)) => some (Stp.nx (x.1, r, IntKind.wrap .i64 (x.2.2.2 + (1 : Int)), IntKind.wrap .i64 (x.2.2.2 + (1 : Int)))) else some (Stp.nx (x.1, x.2.1, IntKind.wrap .i64 (x.2.2.2 + (1 : Int)), IntKind.wrap .i64 (x.2.2.2 + (1 : Int)))) else some (Stp.out x.2.1)
noncomputable def m_spec_Words : Tup p_spec_Words → Option (Tup q_spec_Words) := fun (x : List UInt8) => Option.bind (loopO m_spec_Words_0 (x, [], (0 : Int), (0 : Int))) fun (y : List (List UInt8)) => some y
noncomputable def cx_spec_Words : Cx := ⟨tb, lookE [], lookS []⟩
theorem ck_spec_Words : CxOK Try.prog (cx_spec_Words) := cx_ok tb_ok .nil
noncomputable def c_spec_Words_0 : Code := loopAt (Go.Proofs.Try.f119.body.getD .skip) 0
noncomputable def l_spec_Words_0 : LEnt := ⟨p_spec_Words_0, x_spec_Words_0, loopO (m_spec_Words_0)⟩
theorem lo_spec_Words_0 : LOK Try.prog 59 0 false (l_spec_Words_0) c_spec_Words_0 := loop_ok (body := m_spec_Words_0) (L := lookL []) (ck_spec_Words) mixed (ls_ok (l := []) (by kernel_rfl) .nil) (by intro x; kernel_rfl) (fun x y h => loopO_iff.1 h)
noncomputable def e_spec_Words : Ent := ⟨0, p_spec_Words, q_spec_Words, m_spec_Words⟩
theorem ok_spec_Words : FnOK Try.prog 119 e_spec_Words := fn_ok (L := lookL [(0, l_spec_Words_0)]) ck_spec_Words mixed Try.func119 rfl (by kernel_rfl) (by kernel_rfl) (ls_ok (l := [(0, c_spec_Words_0)]) (by kernel_rfl) (.cons rfl (lo_spec_Words_0) .nil)) (by intro x; kernel_rfl)
abbrev p_spec_isWord : Pt := [(0, .lst .str), (1, .str)]
abbrev q_spec_isWord : Pt := [(0, .bool)]
abbrev p_spec_isWord_0 : Pt := [(0, .lst .str), (1, .str), (5, .int .i64)]
abbrev x_spec_isWord_0 : List (Xt × Pt) := [(.ex 0, []), (.rt, [(4, .bool)])]
noncomputable def m_spec_isWord_0 : Tup p_spec_isWord_0 → Option (Stp (Tup p_spec_isWord_0) (SumT (x_spec_isWord_0.map (·.2)))) := fun (x : List (List UInt8) × List UInt8 × Int) => bif decide (x.2.2 < (↑(List.length x.1) : Int)) then Option.bind (atI x.1 x.2.2) fun (v : List UInt8) => bif decide (v = x.2.1) then some (Stp.out (Sum.inr true)) else some (Stp.nx (x.1, x.2.1, IntKind.wrap .i64 (x.2.2 + (1 : Int)))) else some (Stp.out (Sum.inl ()))
noncomputable def m_spec_isWord : Tup p_spec_isWord → Option (Tup q_spec_isWord) := fun (x : List (List UInt8) × List UInt8) => Option.bind (loopO m_spec_isWord_0 (x.1, x.2, (0 : Int))) fun (y : PUnit ⊕ Bool) => selim (fun (y : PUnit) => some false) (fun (y : Bool) => some y) y
noncomputable def cx_spec_isWord : Cx := ⟨tb, lookE [], lookS []⟩
theorem ck_spec_isWord : CxOK Try.prog (cx_spec_isWord) := cx_ok tb_ok .nil
noncomputable def c_spec_isWord_0 : Code := loopAt (Go.Proofs.Try.f120.body.getD .skip) 0
noncomputable def l_spec_isWord_0 : LEnt := ⟨p_spec_isWord_0, x_spec_isWord_0, loopO (m_spec_isWord_0)⟩
theorem lo_spec_isWord_0 : LOK Try.prog 18 0 false (l_spec_isWord_0) c_spec_isWord_0 := loop_ok (body := m_spec_isWord_0) (L := lookL []) (ck_spec_isWord) mixed (ls_ok (l := []) (by kernel_rfl) .nil) (by intro x; kernel_rfl) (fun x y h => loopO_iff.1 h)
noncomputable def e_spec_isWord : Ent := ⟨0, p_spec_isWord, q_spec_isWord, m_spec_isWord⟩
theorem ok_spec_isWord : FnOK Try.prog 120 e_spec_isWord := fn_ok (L := lookL [(0, l_spec_isWord_0)]) ck_spec_isWord mixed Try.func120 rfl (by kernel_rfl) (by kernel_rfl) (ls_ok (l := [(0, c_spec_isWord_0)]) (by kernel_rfl) (.cons rfl (lo_spec_isWord_0) .nil)) (by intro x; kernel_rfl)
abbrev p_spec_within : Pt := [(0, .el .node), (1, .el .node)]
abbrev q_spec_within : Pt := [(0, .bool)]
abbrev p_spec_within_0_0 : Pt := [(2, .blk .node 44), (3, .blk .node 44), (5, .int .i64), (9, .own .str 9), (10, .own .str 9), (11, .int .i64)]
abbrev x_spec_within_0_0 : List (Xt × Pt) := [(.ex 2, [(2, .blk .node 44), (3, .blk .node 44), (5, .int .i64)]), (.rt, [(4, .bool)])]
noncomputable def m_spec_within_0_0 : Tup p_spec_within_0_0 → Option (Stp (Tup p_spec_within_0_0) (SumT (x_spec_within_0_0.map (·.2)))) := fun (x : Node × Node × Int × List (List UInt8) × List (List UInt8) × Int) => bif decide (x.2.2.2.2.2 < (↑(List.length x.2.2.2.1) : Int)) then Option.bind (atI x.2.2.2.1 x.2.2.2.2.2) fun (x_1 : List UInt8) => Option.bind x.2.2.2.1[Int.toNat x.2.2.2.2.2]? fun (v : List UInt8) => Option.bind (m_spec_isWord (x.2.2.2.2.1, v)) fun (r : Bool) => bif !r then some (Stp.out (Sum.inr false)) else some (Stp.nx ({ kind := Node.kind x.1, tag := Node.tag x.1, text := Node.text x.1, attrs := Node.attrs x.1, size := Node.size x.1 }, { kind := Node.kind x.2.1, tag := Node.tag x.2.1, text := Node.text x.2.1, attrs := Node.attrs x.2.1, size := Node.size x.2.1 }, x.2.2.1, x.2.2.2.1, x.2.2.2.2.1, IntKind.wrap .i64 (x.2.2.2.2.2 + (1 : Int)))) else some (Stp.out (Sum.inl ({ kind := Node.kind x.1, tag := Node.tag x.1, text := Node.text x.1, attrs := Node.attrs x.1, size := Node.size x.1 }, { kind := Node.kind x.2.1, tag := Node.tag x.2.1, text := Node.text x.2.1, attrs := Node.attrs x.2.1, size := Node.size x.2.1 }, x.2.2.1)))
abbrev p_spec_within_0 : Pt := [(2, .blk .node 44), (3, .blk .node 44), (5, .int .i64)]
abbrev x_spec_within_0 : List (Xt × Pt) := [(.ex 0, []), (.rt, [(4, .bool)])]
noncomputable def m_spec_within_0 : Tup p_spec_within_0 → Option (Stp (Tup p_spec_within_0) (SumT (x_spec_within_0.map (·.2)))) := fun (x : Node × Node × Int) => bif decide (x.2.2 < (↑(List.length (Node.attrs x.1)) : Int)) then Option.bind (atI (Node.attrs x.1) x.2.2) fun (v : Attr) => bif decide (Attr.key v = Array.toList (ByteArray.data { data := #[(99 : UInt8), (108 : UInt8), (97 : UInt8), (115 : UInt8), (115 : UInt8)] })) then Option.bind (m_spec_Attr ({ kind := Node.kind x.2.1, tag := Node.tag x.2.1, text := Node.text x.2.1, attrs := Node.attrs x.2.1, size := Node.size x.2.1 }, [(99 : UInt8), (108 : UInt8), (97 : UInt8), (115 : UInt8), (115 : UInt8)])) fun (r : List UInt8 × Bool) => Option.bind (m_spec_Words (Attr.val v)) fun (r_1 : List (List UInt8)) => Option.bind (m_spec_Words r.1) fun (r : List (List UInt8)) => Option.bind (loopO m_spec_within_0_0 ({ kind := Node.kind x.1, tag := Node.tag x.1, text := Node.text x.1, attrs := Node.attrs x.1, size := Node.size x.1 }, { kind := Node.kind x.2.1, tag := Node.tag x.2.1, text := Node.text x.2.1, attrs := Node.attrs x.2.1, size := Node.size x.2.1 }, x.2.2, r_1, r, (0 : Int))) fun (y : Node × Node × Int ⊕ Bool) => selim (fun (y : Node × Node × Int) => some (Stp.nx ({ kind := Node.kind y.1, tag := Node.tag y.1, text := Node.text y.1, attrs := Node.attrs y.1, size := Node.size y.1 }, { kind := Node.kind y.2.1, tag := Node.tag y.2.1, text := Node.text y.2.1, attrs := Node.attrs y.2.1, size := Node.size y.2.1 }, IntKind.wrap .i64 (y.2.2 + (1 : Int))))) (fun (y : Bool) => some (Stp.out (Sum.inr y))) y else Option.bind (m_spec_Attr ({ kind := Node.kind x.2.1, tag := Node.tag x.2.1, text := Node.text x.2.1, attrs := Node.attrs x.2.1, size := Node.size x.2.1 }, Attr.key v)) fun (r : List UInt8 × Bool) => bif !r.2 then some (Stp.out (Sum.inr false)) else bif decide (r.1 ≠ Attr.val v) then some (Stp.out (Sum.inr false)) else some (Stp.nx ({ kind := Node.kind x.1, tag := Node.tag x.1, text := Node.text x.1, attrs := Node.attrs x.1, size := Node.size x.1 }, { kind := Node.kind x.2.1, tag := Node.tag x.2.1, text := Node.text x.2.1, attrs := Node.attrs x.2.1, size := Node.size x.2.1 }, IntKind.wrap .i64 (x.2.2 + (1 : Int)))) else some (Stp.out (Sum.inl ()))
noncomputable def m_spec_within : Tup p_spec_within → Option (Tup q_spec_within) := fun (x : Node × Node) => Option.bind (loopO m_spec_within_0 ({ kind := Node.kind x.1, tag := Node.tag x.1, text := Node.text x.1, attrs := Node.attrs x.1, size := Node.size x.1 }, { kind := Node.kind x.2, tag := Node.tag x.2, text := Node.text x.2, attrs := Node.attrs x.2, size := Node.size x.2 }, (0 : Int))) fun (y : PUnit ⊕ Bool) => selim (fun (y : PUnit) => some true) (fun (y : Bool) => some y) y
noncomputable def cx_spec_within : Cx := ⟨tb, lookE [(118, e_spec_Attr), (119, e_spec_Words), (120, e_spec_isWord)], lookS []⟩
theorem ck_spec_within : CxOK Try.prog (cx_spec_within) := cx_ok tb_ok (.cons ok_spec_Attr Try.call118 (.cons ok_spec_Words Try.call119 (.cons ok_spec_isWord Try.call120 .nil)))
noncomputable def c_spec_within_0_0 : Code := loopAt (loopAt (Go.Proofs.Try.f90.body.getD .skip) 0) 0
noncomputable def l_spec_within_0_0 : LEnt := ⟨p_spec_within_0_0, x_spec_within_0_0, loopO (m_spec_within_0_0)⟩
theorem lo_spec_within_0_0 : LOK Try.prog 67 0 false (l_spec_within_0_0) c_spec_within_0_0 := loop_ok (body := m_spec_within_0_0) (L := lookL []) (ck_spec_within) mixed (ls_ok (l := []) (by kernel_rfl) .nil) (by intro x; kernel_rfl) (fun x y h => loopO_iff.1 h)
noncomputable def c_spec_within_0 : Code := loopAt (Go.Proofs.Try.f90.body.getD .skip) 0
noncomputable def l_spec_within_0 : LEnt := ⟨p_spec_within_0, x_spec_within_0, loopO (m_spec_within_0)⟩
theorem lo_spec_within_0 : LOK Try.prog 67 0 false (l_spec_within_0) c_spec_within_0 := loop_ok (body := m_spec_within_0) (L := lookL [(2, l_spec_within_0_0)]) (ck_spec_within) mixed (ls_ok (l := [(2, c_spec_within_0_0)]) (by kernel_rfl) (.cons rfl (lo_spec_within_0_0) .nil)) (by intro x; kernel_rfl) (fun x y h => loopO_iff.1 h)
noncomputable def e_spec_within : Ent := ⟨0, p_spec_within, q_spec_within, m_spec_within⟩
theorem ok_spec_within : FnOK Try.prog 90 e_spec_within := fn_ok (L := lookL [(0, l_spec_within_0)]) ck_spec_within mixed Try.func90 rfl (by kernel_rfl) (by kernel_rfl) (ls_ok (l := [(0, c_spec_within_0)]) (by kernel_rfl) (.cons rfl (lo_spec_within_0) .nil)) (by intro x; kernel_rfl)
abbrev p_spec_AlikeTrees : Pt := [(0, .lst .node), (1, .lst .node)]
abbrev q_spec_AlikeTrees : Pt := [(0, .bool)]
abbrev p_spec_AlikeTrees_0 : Pt := [(0, .lst .node), (1, .lst .node), (5, .int .i64)]
abbrev x_spec_AlikeTrees_0 : List (Xt × Pt) := [(.ex 0, []), (.rt, [(4, .bool)])]
noncomputable def m_spec_AlikeTrees_0 : Tup p_spec_AlikeTrees_0 → Option (Stp (Tup p_spec_AlikeTrees_0) (SumT (x_spec_AlikeTrees_0.map (·.2)))) := fun (x : List Node × List Node × Int) => bif decide (x.2.2 < (↑(List.length x.1) : Int)) then Option.bind (atI x.1 x.2.2) fun (v : Node) => Option.bind (atI x.2.1 x.2.2) fun (v_1 : Node) => bif decide (Node.kind v ≠ Node.kind v_1) then some (Stp.out (Sum.inr false)) else Option.bind (atI x.1 x.2.2) fun (v : Node) => Option.bind (atI x.2.1 x.2.2) fun (v_2 : Node) => bif decide (Node.tag v ≠ Node.tag v_2) then some (Stp.out (Sum.inr false)) else Option.bind (atI x.1 x.2.2) fun (v : Node) => Option.bind (atI x.2.1 x.2.2) fun (v_3 : Node) => bif decide (Node.text v ≠ Node.text v_3) then some (Stp.out (Sum.inr false)) else Option.bind (atI x.1 x.2.2) fun (v : Node) => Option.bind (atI x.2.1 x.2.2) fun (v_4 : Node) => bif decide (Node.size v ≠ Node.size v_4) then some (Stp.out (Sum.inr false)) else Option.bind (atI x.1 x.2.2) fun (v : Node) => Option.bind (atI x.2.1 x.2.2) fun (v_5 : Node) => Option.bind (m_spec_within ({ kind := Node.kind v, tag := Node.tag v, text := Node.text v, attrs := Node.attrs v, size := Node.size v }, { kind := Node.kind v_5, tag := Node.tag v_5, text := Node.text v_5, attrs := Node.attrs v_5, size := Node.size v_5 })) fun (r : Bool) => bif !r then some (Stp.out (Sum.inr false)) else Option.bind (atI x.2.1 x.2.2) fun (v : Node) => Option.bind (atI x.1 x.2.2) fun (v_6 : Node) => Option.bind (m_spec_within ({ kind := Node.kind v, tag := Node.tag v, text := Node.text v, attrs := Node.attrs v, size := Node.size v }, { kind := Node.kind v_6, tag := Node.tag v_6, text := Node.text v_6, attrs := Node.attrs v_6, size := Node.size v_6 })) fun (r : Bool) => bif !r then some (Stp.out (Sum.inr false)) else some (Stp.nx (x.1, x.2.1, IntKind.wrap .i64 (x.2.2 + (1 : Int)))) else some (Stp.out (Sum.inl ()))
noncomputable def m_spec_AlikeTrees : Tup p_spec_AlikeTrees → Option (Tup q_spec_AlikeTrees) := fun (x : List Node × List Node) => bif decide ((↑(List.length x.1) : Int) ≠ (↑(List.length x.2) : Int)) then some false else Option.bind (loopO m_spec_AlikeTrees_0 (x.1, x.2, (0 : Int))) fun (y : PUnit ⊕ Bool) => selim (fun (y : PUnit) => some true) (fun (y : Bool) => some y) y
noncomputable def cx_spec_AlikeTrees : Cx := ⟨tb, lookE [(90, e_spec_within)], lookS [(6, [(true, 0), (true, 1), (true, 2), (true, 3), (true, 4), (true, 5), (true, 6), (true, 7), (true, 8), (true, 9), (true, 10), (true, 11), (true, 12), (true, 13), (true, 14), (true, 15), (true, 16), (true, 17), (true, 18), (true, 19), (true, 20), (true, 21), (true, 22), (true, 23), (true, 24), (true, 25), (true, 26), (true, 27), (true, 28), (true, 29), (true, 30), (true, 31), (true, 32), (true, 33), (true, 34), (true, 35), (true, 36), (true, 37), (true, 38), (true, 39), (true, 40), (true, 41), (true, 42), (true, 43), (true, 44), (true, 45), (true, 46), (true, 47), (true, 48), (true, 49), (true, 50), (true, 51), (true, 52), (true, 53), (true, 54), (true, 55), (true, 56), (true, 57), (true, 58), (false, 59), (true, 60), (true, 61), (true, 62), (true, 63), (true, 64), (true, 65), (true, 66), (true, 67), (true, 68), (true, 69), (true, 70), (false, 71), (true, 72), (true, 73)])]⟩
theorem ck_spec_AlikeTrees : CxOK Try.prog (cx_spec_AlikeTrees) := cx_ok tb_ok (.cons ok_spec_within Try.call90 .nil)
noncomputable def c_spec_AlikeTrees_0 : Code := loopAt (Go.Proofs.Try.f59.body.getD .skip) 0
noncomputable def l_spec_AlikeTrees_0 : LEnt := ⟨p_spec_AlikeTrees_0, x_spec_AlikeTrees_0, loopO (m_spec_AlikeTrees_0)⟩
theorem lo_spec_AlikeTrees_0 : LOK Try.prog 91 0 false (l_spec_AlikeTrees_0) c_spec_AlikeTrees_0 := loop_ok (body := m_spec_AlikeTrees_0) (L := lookL []) (ck_spec_AlikeTrees) mixed (ls_ok (l := []) (by kernel_rfl) .nil) (by intro x; kernel_rfl) (fun x y h => loopO_iff.1 h)
noncomputable def e_spec_AlikeTrees : Ent := ⟨0, p_spec_AlikeTrees, q_spec_AlikeTrees, m_spec_AlikeTrees⟩
theorem ok_spec_AlikeTrees : FnOK Try.prog 59 e_spec_AlikeTrees := fn_ok (L := lookL [(0, l_spec_AlikeTrees_0)]) ck_spec_AlikeTrees mixed Try.func59 rfl (by kernel_rfl) (by kernel_rfl) (ls_ok (l := [(0, c_spec_AlikeTrees_0)]) (by kernel_rfl) (.cons rfl (lo_spec_AlikeTrees_0) .nil)) (by intro x; kernel_rfl)
end Go.Proofs.Ytfmlpodcldhgdaa.V
set_option linter.unusedVariables false
set_option linter.unusedSimpArgs false
namespace Go.Proofs.Ytfmlpodcldhgdaa.V
open Go Go.Proofs
abbrev p_laws_step7 : Pt := [(0, .int .i64), (1, .lst .int), (2, .lst .int)]
abbrev q_laws_step7 : Pt := [(0, .el (.rc (.int .i64) [.ints, .ints, .str, .str, .strs] 0))]
noncomputable def m_laws_step7 : Tup p_laws_step7 → Option (Tup q_laws_step7) := fun (x : Int × List Int × List Int) => some (x.1, x.2.1, x.2.2, [], [], [])
noncomputable def cx_laws_step7 : Cx := ⟨tb, lookE [], lookS []⟩
theorem ck_laws_step7 : CxOK Try.prog (cx_laws_step7) := cx_ok tb_ok .nil
noncomputable def e_laws_step7 : Ent := ⟨0, p_laws_step7, q_laws_step7, m_laws_step7⟩
theorem ok_laws_step7 : FnOK Try.prog 22 e_laws_step7 := fn_ok (L := lookL []) ck_laws_step7 mixed Try.func22 rfl (by kernel_rfl) (by kernel_rfl) (ls_ok (l := []) (by kernel_rfl) .nil) (by intro x; kernel_rfl)
end Go.Proofs.Ytfmlpodcldhgdaa.V
set_option linter.unusedVariables false
set_option linter.unusedSimpArgs false
namespace Go.Proofs.Ytfmlpodcldhgdaa.V
open Go
section
variable {t : List Node} {o p : Nat} {ws A B : List Nat} {n : Nat}
theorem big_ex : ∃ n, big = n ∧ 1000000 ≤ n := ⟨big, rfl, by unfold big; omega⟩
theorem Ht.sub {K K' : Nat → List Nat} (h : ∀ x y, y ∈ K' x → y ∈ K x) : ∀ {n x : Nat}, Ht K n x → Ht K' n x
  | 0, _, hh => hh
  | n + 1, x, hh => fun y hy => Ht.sub h (hh y (h x y hy))
end
end Go.Proofs.Ytfmlpodcldhgdaa.V
set_option linter.unusedVariables false
set_option linter.unusedSimpArgs false
namespace Go.Proofs.Ytfmlpodcldhgdaa.V
open Go
end Go.Proofs.Ytfmlpodcldhgdaa.V
set_option linter.unusedVariables false
set_option linter.unusedSimpArgs false
namespace Go.Proofs.Ytfmlpodcldhgdaa.V
open Go
theorem F2.split_r {α β : Type} {R : α → β → Prop} : ∀ {A : List β} {b : β} {B : List β} {l : List α}, F2 R l (A ++ b :: B) → ∃ A' a B', l = A' ++ a :: B' ∧ F2 R A' A ∧ R a b ∧ F2 R B' B
  | [], _, _, _, .cons h t => ⟨[], _, _, rfl, .nil, h, t⟩
  | _ :: A, b, B, _, .cons h t => by
    obtain ⟨A', a, B', e, h1, h2, h3⟩ := F2.split_r (A := A) t
    exact ⟨_ :: A', a, B', by rw [e]; rfl, .cons h h1, h2, h3⟩
theorem F2.mem_l {α β : Type} {R : α → β → Prop} : ∀ {l : List α} {m : List β} {a : α}, F2 R l m → a ∈ l → ∃ b ∈ m, R a b
  | _, _, _, .cons h t, ha => by
    rcases List.mem_cons.1 ha with rfl | ha
    · exact ⟨_, by simp, h⟩
    · obtain ⟨b, hb, hr⟩ := F2.mem_l t ha
      exact ⟨b, by simp [hb], hr⟩
theorem F2.refl {α : Type} {R : α → α → Prop} : ∀ {l : List α}, (∀ a ∈ l, R a a) → F2 R l l
  | [], _ => .nil
  | a :: l, h => .cons (h a (by simp)) (F2.refl fun b hb => h b (by simp [hb]))
def CpR (F : Fo) (R : Nat → Nat → Prop) (K : Nat → List Nat) (lo hi : Nat) : Nat → Nat → Nat → Prop
  | 0, _, _ => False
  | n + 1, c, x => (lo ≤ c ∧ c < hi) ∧ R c x ∧ F2 (CpR F R K lo hi n) (F.kids c) (K x)
theorem CpR.mono {F G : Fo} {R S : Nat → Nat → Prop} {K K' : Nat → List Nat} {lo hi lo' hi' : Nat} {Q : Nat → Prop} (hlo : lo' ≤ lo) (hhi : hi ≤ hi') (hk : ∀ i, lo ≤ i → i < hi → G.kids i = F.kids i) (hr : ∀ i y, lo ≤ i → i < hi → Q y → R i y → S i y) (hK : ∀ y, Q y → K' y = K y) (hQ : ∀ y, Q y → ∀ z ∈ K y, Q z) : ∀ {n c x : Nat}, Q x → CpR F R K lo hi n c x → CpR G S K' lo' hi' n c x
  | 0, _, _, _, h => h
  | n + 1, c, x, hx, ⟨⟨h1, h2⟩, h3, h4⟩ => by
    refine ⟨⟨by omega, by omega⟩, hr c x h1 h2 hx h3, ?_⟩
    rw [hk c h1 h2, hK x hx]
    exact h4.imp fun a b _ hb h => CpR.mono hlo hhi hk hr hK hQ (hQ x hx b hb) h
def KD (t : List Node) (D : Nat → List Nat) (i : Nat) : List Nat := if i < t.length then D i else ((FT t).kids (i - t.length)).map fun y => t.length + y
def It (t : List Node) (C : Nat → Nat → Prop) (c y : Nat) : Prop := (y < t.length ∧ c = y) ∨ (t.length ≤ y ∧ t.length ≤ c ∧ C c (y - t.length))
structure Rz (t : List Node) (G : Fo) (C : Nat → Nat → Prop) (D : Nat → List Nat) : Prop where
  ok : G.ok
  le : t.length ≤ G.m
  inc : ∀ c, t.length ≤ c → ∀ y ∈ G.kids c, c < y
  kid : ∀ i, i < t.length → F2 (It t C) (G.kids i) (D i)
section
variable {t : List Node} {G H : Fo} {C C' : Nat → Nat → Prop} {D : Nat → List Nat} {p x : Nat} {A B l : List Nat} {A' B' l' : List Nat}
theorem It.imp (h : ∀ c y, t.length ≤ c → C c y → C' c y) {c y : Nat} (hi : It t C c y) : It t C' c y := Or.imp id (fun ⟨h1, h2, h3⟩ => ⟨h1, h2, h _ _ h2 h3⟩) hi
theorem Rz.hang (h : Rz t G C D) (hp : p < t.length) (hk : G.kids p = A ++ B) (hA : F2 (It t C') A A') (hB : F2 (It t C') B B') (hl : F2 (It t C') l l') (h1 : ∀ c ∈ l, c < G.m ∧ G.up c = none ∧ p ≠ c) (hn : l.Nodup) (hC : ∀ c y, t.length ≤ c → C c y → C' c y) : Rz t (G.hang p A l B) C' (upd D p (A' ++ l' ++ B')) := by
  refine ⟨hang_ok h.ok (Nat.lt_of_lt_of_le hp h.le) hk l h1 hn, h.le, fun c hc y hy => ?_, fun i hi => ?_⟩
  · have : c ≠ p := by omega
    simp only [Fo.hang, if_neg this] at hy
    exact h.inc c hc y hy
  · simp only [Fo.hang, upd]
    by_cases e : i = p
    · rw [if_pos e, if_pos e]
      exact (hA.append hl).append hB
    · rw [if_neg e, if_neg e]
      exact (h.kid i hi).imp fun a b _ _ hi => hi.imp hC
theorem Rz.off (h : Rz t G C D) (hl : ∀ c ∈ l, c < t.length) (hC : ∀ c y, t.length ≤ c → C c y → C' c y) : Rz t (G.off l) C' (fun i => (D i).filter fun j => decide (j ∉ l)) := by
  refine ⟨off_ok h.ok, h.le, fun c hc y hy => h.inc c hc y ((List.mem_filter.1 hy).1), fun i hi => ?_⟩
  refine F2.filter (fun a b hab => ?_) ((h.kid i hi).imp fun a b _ _ hi => hi.imp hC)
  rcases hab with ⟨h1, h2⟩ | ⟨h1, h2, h3⟩
  · rw [h2]
  · have e1 : a ∉ l := fun h => by have := hl a h; omega
    have e2 : b ∉ l := fun h => by have := hl b h; omega
    simp [e1, e2]
theorem Rz.at (h : Rz t G C D) (hp : p < t.length) (hx : x < t.length) (hD : D p = A' ++ x :: B') : ∃ A B, G.kids p = A ++ x :: B ∧ F2 (It t C) A A' ∧ F2 (It t C) B B' := by
  have h1 := h.kid p hp
  rw [hD] at h1
  obtain ⟨A, a, B, e, h2, h3, h4⟩ := F2.split_r h1
  rcases h3 with ⟨_, rfl⟩ | ⟨h3, _⟩
  · exact ⟨A, B, e, h2, h4⟩
  · omega
end
end Go.Proofs.Ytfmlpodcldhgdaa.V
set_option linter.unusedVariables false
set_option linter.unusedSimpArgs false
namespace Go.Proofs.Ytfmlpodcldhgdaa.V
open Go
theorem flat_f2 {α β γ : Type} {R : α → β → Prop} {f : α → List γ} {g : β → List γ} (h : ∀ a b, R a b → f a = g b) : ∀ {l : List α} {m : List β}, F2 R l m → l.flatMap f = m.flatMap g
  | _, _, .nil => rfl
  | _, _, .cons hr t => by rw [List.flatMap_cons, List.flatMap_cons, h _ _ hr, flat_f2 h t]
theorem flat_ren {α β γ : Type} {f : β → List γ} {s : α → β} : ∀ {l : List α}, (l.map s).flatMap f = l.flatMap fun a => f (s a)
  | [] => rfl
  | a :: l => by rw [List.map_cons, List.flatMap_cons, List.flatMap_cons, flat_ren]
structure Lb (a b : Node) : Prop where
  kind : a.kind = b.kind
  tag : a.tag = b.tag
  text : a.text = b.text
  attrs : a.attrs = b.attrs
def NdR (t : List Node) (N0 : Nat → Node) (i : Nat) : Node := if i < t.length then N0 i else N0 (i - t.length)
section
variable {t : List Node} {G : Fo} {C : Nat → Nat → Prop} {D : Nat → List Nat} {R : Nat → Nat → Prop} {N N0 : Nat → Node} {lo hi : Nat}
theorem nodes_cpR (hN : ∀ c y, R c y → Lb (N c) (N0 y)) : ∀ {k c x : Nat}, CpR G R (FT t).kids lo hi k c x → ∀ m, nodesF G.kids N m c = nodesF (KD t D) (NdR t N0) m (t.length + x)
  | 0, _, _, h, _ => h.elim
  | k + 1, c, x, _, 0 => rfl
  | k + 1, c, x, ⟨h1, h2, h3⟩, m + 1 => by
    obtain ⟨e1, e2, e3, e4⟩ := hN c x h2
    have hn : NdR t N0 (t.length + x) = N0 x := by
      unfold NdR
      rw [if_neg (by omega)]
      congr 1
      omega
    have hk : KD t D (t.length + x) = ((FT t).kids x).map fun y => t.length + y := by
      unfold KD
      rw [if_neg (by omega)]
      congr 2
      omega
    have hf : (G.kids c).flatMap (nodesF G.kids N m) = (KD t D (t.length + x)).flatMap (nodesF (KD t D) (NdR t N0) m) := by
      rw [hk, flat_ren]
      exact flat_f2 (R := CpR G R (FT t).kids lo hi k) (g := fun a => nodesF (KD t D) (NdR t N0) m (t.length + a)) (fun a b hab => nodes_cpR hN hab m) h3
    simp only [nodesF, hn, hf, e1, e2, e3, e4]
theorem nodesR (h : Rz t G C D) (hC : ∀ c y, t.length ≤ c → C c y → ∃ k, CpR G R (FT t).kids lo hi k c y) (hN : ∀ c y, R c y → Lb (N c) (N0 y)) (hNo : ∀ i, i < t.length → Lb (N i) (N0 i)) : ∀ (m c y : Nat), It t C c y → nodesF G.kids N m c = nodesF (KD t D) (NdR t N0) m y
  | 0, _, _, _ => rfl
  | m + 1, c, y, hi => by
    rcases hi with ⟨h1, rfl⟩ | ⟨h1, h2, h3⟩
    · obtain ⟨e1, e2, e3, e4⟩ := hNo c h1
      have hn : NdR t N0 c = N0 c := if_pos h1
      have hk : KD t D c = D c := if_pos h1
      have hf : (G.kids c).flatMap (nodesF G.kids N m) = (KD t D c).flatMap (nodesF (KD t D) (NdR t N0) m) := by
        rw [hk]
        exact flat_f2 (fun a b hab => nodesR h hC hN hNo m a b hab) (h.kid c h1)
      simp only [nodesF, hn, hf, e1, e2, e3, e4]
    · obtain ⟨k, hk⟩ := hC _ _ h2 h3
      have := nodes_cpR (D := D) hN hk (m + 1)
      rw [this, show t.length + (y - t.length) = y by omega]
def rkR (t : List Node) (G : Fo) (r : Nat → Nat) (i : Nat) : Nat := if i < t.length then r i + G.m + 1 else G.m - i
theorem Rz.rank (h : Rz t G C D) {r : Nat → Nat} (hr : ∀ i, i < t.length → ∀ y ∈ D i, y < t.length → r y < r i) : ∀ x y, y ∈ G.kids x → rkR t G r y < rkR t G r x := fun x y hy => by
  unfold rkR
  have hym := (h.ok.kid hy).2
  by_cases e : x < t.length
  · rw [if_pos e]
    obtain ⟨b, hb, hi⟩ := (h.kid x e).mem_l hy
    rcases hi with ⟨h1, rfl⟩ | ⟨h1, h2, _⟩
    · rw [if_pos h1]
      have := hr x e y hb h1
      omega
    · rw [if_neg (by omega)]
      omega
  · have := h.inc x (by omega) y hy
    rw [if_neg e, if_neg (by omega)]
    omega
theorem Rz.ht (h : Rz t G C D) {r : Nat → Nat} (hr : ∀ i, i < t.length → ∀ y ∈ D i, y < t.length → r y < r i) (hb : ∀ i, r i ≤ 400) (hm : G.m ≤ 900000) {n : Nat} (hn : 1000000 ≤ n) (x : Nat) : Ht G.kids n x := by
  refine ht_rank (h.rank hr) n x ?_
  unfold rkR
  have := hb x
  split <;> omega
theorem Rz.nodup (h : Rz t G C D) {r : Nat → Nat} (hr : ∀ i, i < t.length → ∀ y ∈ D i, y < t.length → r y < r i) (n x : Nat) : (idsF G.kids n x).Nodup := ids_nodup h.ok (h.rank hr) n x
theorem Rz.len (h : Rz t G C D) {r : Nat → Nat} (hr : ∀ i, i < t.length → ∀ y ∈ D i, y < t.length → r y < r i) (n : Nat) {x : Nat} (hx : x < G.m) : (idsF G.kids n x).length ≤ G.m := ids_len h.ok (h.rank hr) n hx
end
theorem putP_get {P : Nat → Int × Node} {T : Nat} : ∀ {l : List Nat} {k : Nat} {A : List Int}, A.length = T → l.Nodup → (∀ z ∈ l, (z < T ∧ (P z).1 = (z : Int)) ∨ (P z).1 = -1 ∧ T ≤ z) → ∀ i, i < T → (putP P l k A)[i]? = if i ∈ l then some ((k + l.idxOf i : Nat) : Int) else A[i]?
  | [], _, _, _, _, _, i, _ => by simp [putP]
  | z :: l, k, A, hA, hn, hP, i, hi => by
    have hn2 := List.nodup_cons.1 hn
    simp only [putP]
    have hget : (if 0 ≤ (P z).1 ∧ (P z).1 < (A.length : Int) then A.set (P z).1.toNat (k : Int) else A)[i]? = if i = z then some (k : Int) else A[i]? := by
      rcases hP z (by simp) with ⟨h1, h2⟩ | ⟨h1, h2⟩
      · rw [if_pos (by rw [h2]; omega), h2, Int.toNat_natCast]
        by_cases e : i = z
        · subst e
          rw [if_pos rfl, List.getElem?_set_self (by omega)]
        · rw [if_neg e, List.getElem?_set_ne (fun h => e h.symm)]
      · rw [if_neg (fun h => by omega), if_neg (by omega)]
    have hlen : (if 0 ≤ (P z).1 ∧ (P z).1 < (A.length : Int) then A.set (P z).1.toNat (k : Int) else A).length = T := by split <;> simp [hA]
    rw [putP_get (l := l) (k := k + 1) hlen hn2.2 (fun w hw => hP w (by simp [hw])) i hi, hget]
    by_cases e : i = z
    · subst e
      rw [if_neg hn2.1, if_pos rfl, if_pos List.mem_cons_self]
      simp
    · have e1 : (z == i) = false := by simpa using fun h => e h.symm
      rw [if_neg e, List.idxOf_cons, e1]
      by_cases e2 : i ∈ l
      · rw [if_pos e2, if_pos (List.mem_cons_of_mem _ e2)]
        congr 2
        show k + 1 + l.idxOf i = k + (l.idxOf i + 1)
        omega
      · rw [if_neg e2, if_neg (fun h => (List.mem_cons.1 h).elim e e2)]
theorem putP_all {P : Nat → Int × Node} {T : Nat} {l : List Nat} (hn : l.Nodup) (hP : ∀ z ∈ l, (z < T ∧ (P z).1 = (z : Int)) ∨ (P z).1 = -1 ∧ T ≤ z) : putP P l 0 (List.replicate T (-1)) = (List.range T).map (posL l) := by
  refine List.ext_getElem? fun i => ?_
  by_cases hi : i < T
  · rw [putP_get (T := T) (by simp) hn hP i hi, List.getElem?_map, List.getElem?_range hi]
    simp only [Option.map_some, posL]
    by_cases e : i ∈ l
    · rw [if_pos e, if_pos e]; simp
    · rw [if_neg e, if_neg e, List.getElem?_replicate, if_pos hi]
  · rw [List.getElem?_eq_none (by rw [putP_len]; simp; omega), List.getElem?_eq_none (by simp; omega)]
end Go.Proofs.Ytfmlpodcldhgdaa.V
set_option linter.unusedVariables false
set_option linter.unusedSimpArgs false
namespace Go.Proofs.Ytfmlpodcldhgdaa.V
open Go
theorem Words_ex (s : List UInt8) (hs : s.length ≤ 1000000) : ∃ r, m_spec_Words s = some r ∧ r.length ≤ 1000001 := by
  obtain ⟨y, h1, h2⟩ := loopO_rule (body := m_spec_Words_0) (fun x => ∃ (out : List (List UInt8)) (f i : Nat), x = (s, out, (f : Int), (i : Int)) ∧ f ≤ i ∧ i ≤ s.length + 1 ∧ out.length ≤ i) (fun _ y => y.length ≤ 1000001) (fun x => ((s.length : Int) + 1 - x.2.2.2).toNat) (fun x hx => by
    obtain ⟨out, f, i, rfl, hf, hi, ho⟩ := hx
    by_cases hle : i ≤ s.length
    · have e1 : IntKind.wrap .i64 ((i : Int) + 1) = ((i + 1 : Nat) : Int) := by rw [w64 (by omega) (by omega)]; rfl
      have hnx : ∀ (out' : List (List UInt8)) (f' : Nat), f' ≤ i + 1 → out'.length ≤ i + 1 → ∃ y : List UInt8 × List (List UInt8) × Int × Int, (s, out', (f' : Int), ((i + 1 : Nat) : Int)) = y ∧ (∃ (out : List (List UInt8)) (f i : Nat), y = (s, out, (f : Int), (i : Int)) ∧ f ≤ i ∧ i ≤ s.length + 1 ∧ out.length ≤ i) ∧ ((s.length : Int) + 1 - y.2.2.2).toNat < ((s.length : Int) + 1 - (i : Int)).toNat := fun out' f' h1 h2 => ⟨_, rfl, ⟨out', f', i + 1, rfl, h1, by omega, h2⟩, by simp only; omega⟩
      have stop : ∀ o : Option (Stp (List UInt8 × List (List UInt8) × Int × Int) (List (List UInt8))), o = (if (f : Int) < (i : Int) then Option.bind (subL s (f : Int) (i : Int)) fun m => Option.bind (appL out [m]) fun r => some (.nx (s, r, IntKind.wrap .i64 ((i : Int) + 1), IntKind.wrap .i64 ((i : Int) + 1))) else some (.nx (s, out, IntKind.wrap .i64 ((i : Int) + 1), IntKind.wrap .i64 ((i : Int) + 1)))) → ∃ y, o = some (.nx y) ∧ (∃ (out : List (List UInt8)) (f i : Nat), y = (s, out, (f : Int), (i : Int)) ∧ f ≤ i ∧ i ≤ s.length + 1 ∧ out.length ≤ i) ∧ ((s.length : Int) + 1 - y.2.2.2).toNat < ((s.length : Int) + 1 - (i : Int)).toNat ∧ ∀ b : List (List UInt8), b.length ≤ 1000001 → b.length ≤ 1000001 := fun o ho' => by
        rw [ho', e1]
        split
        · rename_i hlt
          rw [subL_nat2 s (by omega) hle, bind_some, appL_some (by simp; omega), bind_some]
          obtain ⟨y, q1, q2, q3⟩ := hnx (out ++ [(s.take i).drop f]) (i + 1) (Nat.le_refl _) (by simp; omega)
          exact ⟨y, by rw [← q1], q2, q3, fun _ h => h⟩
        · obtain ⟨y, q1, q2, q3⟩ := hnx out (i + 1) (Nat.le_refl _) (by omega)
          exact ⟨y, by rw [← q1], q2, q3, fun _ h => h⟩
      refine .inr ?_
      simp only [m_spec_Words_0, cond_dec, atI_nat]
      rw [if_pos (by omega)]
      by_cases hl : (i : Int) < (s.length : Int)
      · rw [if_pos hl]
        obtain ⟨c, hc⟩ := get_lt (l := s) (k := i) (by omega)
        simp only [hc, bind_some]
        split
        · split
          · split
            · split
              · split
                · rw [e1]
                  obtain ⟨y, q1, q2, q3⟩ := hnx out f (by omega) (by omega)
                  exact ⟨y, by rw [← q1], q2, q3, fun _ h => h⟩
                · exact stop _ rfl
              · exact stop _ rfl
            · exact stop _ rfl
          · exact stop _ rfl
        · exact stop _ rfl
      · rw [if_neg hl]
        exact stop _ rfl
    · refine .inl ⟨out, ?_, by omega⟩
      simp only [m_spec_Words_0, cond_dec]
      rw [if_neg (by omega)]) (s, [], ((0 : Nat) : Int), ((0 : Nat) : Int)) ⟨[], 0, 0, rfl, Nat.le_refl _, Nat.zero_le _, by simp⟩
  have h1' : loopO m_spec_Words_0 (s, [], (0 : Int), (0 : Int)) = some y := h1
  exact ⟨y, by simp only [m_spec_Words, h1', bind_some], h2⟩
theorem isWord_mem {l : List (List UInt8)} {w : List UInt8} (hl : l.length ≤ 2000000) (hw : w ∈ l) : m_spec_isWord (l, w) = some true := by
  have key : ∀ d j : Nat, l.length - j = d → j ≤ l.length → w ∈ l.drop j → loopO m_spec_isWord_0 (l, w, (j : Int)) = some (.inr true) := by
    intro d
    induction d with
    | zero =>
      intro j hd hj hm
      rw [List.drop_of_length_le (by omega)] at hm
      cases hm
    | succ d ih =>
      intro j hd hj hm
      obtain ⟨c, hc⟩ := get_lt (l := l) (k := j) (by omega)
      have hdr : l.drop j = c :: l.drop (j + 1) := by
        obtain ⟨h1, h2⟩ := List.getElem?_eq_some_iff.1 hc
        rw [← h2]; exact List.drop_eq_getElem_cons h1
      by_cases e : c = w
      · refine loopO_out ?_
        simp only [m_spec_isWord_0, cond_dec, atI_nat, hc, bind_some]
        rw [if_pos (by omega), if_pos e]
      · have step : m_spec_isWord_0 (l, w, (j : Int)) = some (.nx (l, w, ((j + 1 : Nat) : Int))) := by
          simp only [m_spec_isWord_0, cond_dec, atI_nat, hc, bind_some]
          rw [if_pos (by omega), if_neg e, w64 (by omega) (by omega)]
          rfl
        rw [loopO_nx step]
        rw [hdr] at hm
        exact ih (j + 1) (by omega) (by omega) ((List.mem_cons.1 hm).resolve_left fun h => e h.symm)
  have h := key l.length 0 rfl (Nat.zero_le _) (by simpa using hw)
  have h' : loopO m_spec_isWord_0 (l, w, (0 : Int)) = _ := h
  simp only [m_spec_isWord, h', bind_some]
  rfl
structure UQ (l : List Attr) : Prop where
  len : l.length ≤ 1000000
  uq : ∀ (i j : Nat) (a b : Attr), j < i → l[i]? = some a → l[j]? = some b → b.key ≠ a.key
  vl : ∀ (i : Nat) (a : Attr), l[i]? = some a → a.val.length ≤ 1000000
theorem Attr_self (v : Node) (h : UQ v.attrs) {i : Nat} {a : Attr} (ha : v.attrs[i]? = some a) : m_spec_Attr (v, a.key) = some (a.val, true) := by
  have hi := (List.getElem?_eq_some_iff.1 ha).1
  have hlen := h.len
  have key : ∀ d j : Nat, i - j = d → j ≤ i → loopO m_spec_Attr_0 (a.key, v, (j : Int)) = some (.inr (a.val, true)) := by
    intro d
    induction d with
    | zero =>
      intro j hd hj
      obtain rfl : j = i := by omega
      refine loopO_out ?_
      simp only [m_spec_Attr_0, cond_dec, atI_nat, ha, bind_some]
      rw [if_pos (by omega)]
      simp
    | succ d ih =>
      intro j hd hj
      obtain ⟨b, hb⟩ := get_lt (l := v.attrs) (k := j) (by omega)
      have hne := h.uq i j a b (by omega) ha hb
      have step : m_spec_Attr_0 (a.key, v, (j : Int)) = some (.nx (a.key, v, ((j + 1 : Nat) : Int))) := by
        simp only [m_spec_Attr_0, cond_dec, atI_nat, hb, bind_some]
        rw [if_pos (by omega), if_neg hne, w64 (by omega) (by omega)]
        rfl
      rw [loopO_nx step]
      exact ih (j + 1) (by omega) (by omega)
  have h0 := key i 0 rfl (Nat.zero_le _)
  have h0' : loopO m_spec_Attr_0 (a.key, ({ kind := v.kind, tag := v.tag, text := v.text, attrs := v.attrs, size := v.size } : Node), (0 : Int)) = _ := h0
  simp only [m_spec_Attr, h0', bind_some]
  rfl
theorem within_self (v : Node) (h : UQ v.attrs) : m_spec_within (v, v) = some true := by
  have hlen := h.len
  have key : ∀ d j : Nat, v.attrs.length - j = d → j ≤ v.attrs.length → loopO m_spec_within_0 (v, v, (j : Int)) = some (.inl ()) := by
    intro d
    induction d with
    | zero =>
      intro j hd hj
      refine loopO_out ?_
      simp only [m_spec_within_0, cond_dec]
      rw [if_neg (by omega)]
    | succ d ih =>
      intro j hd hj
      obtain ⟨a, ha⟩ := get_lt (l := v.attrs) (k := j) (by omega)
      have hat := Attr_self v h ha
      have hat' : m_spec_Attr (({ kind := v.kind, tag := v.tag, text := v.text, attrs := v.attrs, size := v.size } : Node), a.key) = some (a.val, true) := hat
      have step : m_spec_within_0 (v, v, (j : Int)) = some (.nx (v, v, ((j + 1 : Nat) : Int))) := by
        simp only [m_spec_within_0, cond_dec, atI_nat, ha, bind_some]
        rw [if_pos (by omega)]
        split
        · rename_i hk
          obtain ⟨r, hr, hrl⟩ := Words_ex a.val (h.vl j a ha)
          have hat2 := hat'
          rw [hk] at hat2
          rw [show m_spec_Attr (({ kind := v.kind, tag := v.tag, text := v.text, attrs := v.attrs, size := v.size } : Node), ([99, 108, 97, 115, 115] : List UInt8)) = some (a.val, true) from hat2]
          simp only [bind_some, hr]
          have key2 : ∀ d k : Nat, r.length - k = d → k ≤ r.length → loopO m_spec_within_0_0 (v, v, (j : Int), r, r, (k : Int)) = some (.inl (v, v, (j : Int))) := by
            intro d
            induction d with
            | zero =>
              intro k hd hk
              refine loopO_out ?_
              simp only [m_spec_within_0_0, cond_dec]
              rw [if_neg (by omega)]
            | succ d ih =>
              intro k hd hk
              obtain ⟨w, hw⟩ := get_lt (l := r) (k := k) (by omega)
              have step : m_spec_within_0_0 (v, v, (j : Int), r, r, (k : Int)) = some (.nx (v, v, (j : Int), r, r, ((k + 1 : Nat) : Int))) := by
                simp only [m_spec_within_0_0, cond_dec, atI_nat, Int.toNat_natCast, hw, bind_some, isWord_mem (l := r) (by omega) (List.mem_of_getElem? hw)]
                rw [if_pos (by omega), w64 (by omega) (by omega)]
                rfl
              rw [loopO_nx step]
              exact ih (k + 1) (by omega) (by omega)
          have k0 := key2 r.length 0 rfl (Nat.zero_le _)
          have k0' : loopO m_spec_within_0_0 (({ kind := v.kind, tag := v.tag, text := v.text, attrs := v.attrs, size := v.size } : Node), ({ kind := v.kind, tag := v.tag, text := v.text, attrs := v.attrs, size := v.size } : Node), (j : Int), r, r, (0 : Int)) = _ := k0
          rw [k0', bind_some]
          simp only [selim]
          rw [w64 (by omega) (by omega)]
          rfl
        · rw [hat', bind_some]
          simp only [Bool.not_true, cond_false]
          rw [if_neg (by simp), w64 (by omega) (by omega)]
          rfl
      rw [loopO_nx step]
      exact ih (j + 1) (by omega) (by omega)
  have h0 := key v.attrs.length 0 rfl (Nat.zero_le _)
  have h0' : loopO m_spec_within_0 (({ kind := v.kind, tag := v.tag, text := v.text, attrs := v.attrs, size := v.size } : Node), ({ kind := v.kind, tag := v.tag, text := v.text, attrs := v.attrs, size := v.size } : Node), (0 : Int)) = _ := h0
  simp only [m_spec_within, h0', bind_some]
  rfl
theorem alike_refl {l : List Node} (hl : l.length ≤ 1000000) (h : ∀ v ∈ l, UQ v.attrs) : m_spec_AlikeTrees (l, l) = some true := by
  have key : ∀ d j : Nat, l.length - j = d → j ≤ l.length → loopO m_spec_AlikeTrees_0 (l, l, (j : Int)) = some (.inl ()) := by
    intro d
    induction d with
    | zero =>
      intro j hd hj
      refine loopO_out ?_
      simp only [m_spec_AlikeTrees_0, cond_dec]
      rw [if_neg (by omega)]
    | succ d ih =>
      intro j hd hj
      obtain ⟨v, hv⟩ := get_lt (l := l) (k := j) (by omega)
      have hw := within_self v (h v (List.mem_of_getElem? hv))
      have hw' : m_spec_within (({ kind := v.kind, tag := v.tag, text := v.text, attrs := v.attrs, size := v.size } : Node), ({ kind := v.kind, tag := v.tag, text := v.text, attrs := v.attrs, size := v.size } : Node)) = some true := hw
      have step : m_spec_AlikeTrees_0 (l, l, (j : Int)) = some (.nx (l, l, ((j + 1 : Nat) : Int))) := by
        simp only [m_spec_AlikeTrees_0, cond_dec, atI_nat, hv, bind_some, hw', Bool.not_true, cond_false]
        rw [if_pos (by omega), if_neg (by simp), if_neg (by simp), if_neg (by simp), if_neg (by simp), w64 (by omega) (by omega)]
        rfl
      rw [loopO_nx step]
      exact ih (j + 1) (by omega) (by omega)
  have h0 := key l.length 0 rfl (Nat.zero_le _)
  have h0' : loopO m_spec_AlikeTrees_0 (l, l, (0 : Int)) = _ := h0
  simp only [m_spec_AlikeTrees, cond_dec, h0', bind_some]
  rw [if_neg (by simp)]
  rfl
end Go.Proofs.Ytfmlpodcldhgdaa.V
set_option linter.unusedVariables false
set_option linter.unusedSimpArgs false
namespace Go.Proofs.Ytfmlpodcldhgdaa.V
open Go
section
variable {K : Nat → List Nat} {B : Nat → Node} {Q : Nat → Prop} {m0 : Nat}
end
end Go.Proofs.Ytfmlpodcldhgdaa.V
set_option linter.unusedVariables false
set_option linter.unusedSimpArgs false
namespace Go.Proofs.Ytfmlpodcldhgdaa.V
open Go
def parN (t : List Node) (x : Nat) : Nat := (par t x).getD 0
section
variable {t : List Node} {D : Nat → List Nat} {op x y : Nat} {l new : List Nat}
end
section
variable {t : List Node} {G : Fo} {L : Nat → HN} {C C' : Nat → Nat → Prop} {D : Nat → List Nat} {op x y c p : Nat} {A B : List Nat}
theorem Rz.imp (h : Rz t G C D) (hC : ∀ c y, t.length ≤ c → C c y → C' c y) : Rz t G C' D := ⟨h.ok, h.le, h.inc, fun i hi => (h.kid i hi).imp fun _ _ _ _ h => h.imp hC⟩
end
end Go.Proofs.Ytfmlpodcldhgdaa.V
set_option linter.unusedVariables false
set_option linter.unusedSimpArgs false
namespace Go.Proofs.Ytfmlpodcldhgdaa.V
open Go
theorem Ht.congr {K K' : Nat → List Nat} {Q : Nat → Prop} (hK : ∀ y, Q y → K' y = K y) (hQ : ∀ y, Q y → ∀ z ∈ K y, Q z) : ∀ {n x : Nat}, Q x → Ht K n x → Ht K' n x
  | 0, _, _, h => h
  | n + 1, x, hx, h => fun y hy => by
    rw [hK x hx] at hy
    exact Ht.congr hK hQ (hQ x hx y hy) (h y hy)
section
variable {t : List Node} {G H : Fo} {M N : Nat → HN} {D : Nat → List Nat} {op x y c p w : Nat} {A B l ws : List Nat}
end
section
variable {t : List Node} {G : Fo} {M : Nat → HN} {D : Nat → List Nat} {x : Nat} {ws rs : List Nat}
end
section
variable {t : List Node} {G : Fo} {M : Nat → HN} {D : Nat → List Nat} {x : Nat} {ws rs : List Nat}
end
section
variable {t : List Node} {G : Fo} {M : Nat → HN} {D : Nat → List Nat} {x : Nat} {ws rs : List Nat}
end
end Go.Proofs.Ytfmlpodcldhgdaa.V
set_option linter.unusedVariables false
set_option linter.unusedSimpArgs false
namespace Go.Proofs.Ytfmlpodcldhgdaa.V
open Go
section
variable {t : List Node} {ws xs : List Nat} {xl op : Nat} {D : Nat → List Nat} {G : Fo} {M : Nat → HN}
end
end Go.Proofs.Ytfmlpodcldhgdaa.V
set_option linter.unusedVariables false
set_option linter.unusedSimpArgs false
namespace Go.Proofs.Ytfmlpodcldhgdaa.V
open Go
section
variable {t : List Node} {G H : Fo} {P P' : Nat → Int × Node} {D : Nat → List Nat} {op x w p : Nat} {a : Int} {ob : Bool} {A B l ws : List Nat}
end
end Go.Proofs.Ytfmlpodcldhgdaa.V
set_option linter.unusedVariables false
set_option linter.unusedSimpArgs false
namespace Go.Proofs.Ytfmlpodcldhgdaa.V
open Go
section
variable {t : List Node} {ws xs : List Nat} {xl op : Nat} {ks : List (Option Nat)}
end
end Go.Proofs.Ytfmlpodcldhgdaa.V
set_option linter.unusedVariables false
set_option linter.unusedSimpArgs false
namespace Go.Proofs.Ytfmlpodcldhgdaa.V
open Go
theorem nodes_attrs {K : Nat → List Nat} {N : Nat → Node} : ∀ (m y : Nat), ∀ v ∈ nodesF K N m y, ∃ i, v.attrs = (N i).attrs
  | 0, _, v, h => by cases h
  | m + 1, y, v, h => by
    simp only [nodesF] at h
    rcases List.mem_cons.1 h with rfl | h
    · exact ⟨y, rfl⟩
    · obtain ⟨z, _, hz⟩ := List.mem_flatMap.1 h
      exact nodes_attrs m z v hz
theorem uq_nil : UQ [] := ⟨by simp, fun i j a b _ h => by simp at h, fun i a h => by simp at h⟩
theorem uq_bs {t : List Node} (hR : RT t) (i : Nat) : UQ (kn (bs0 t i)).attrs := by
  cases hv : t[i]? with
  | none =>
    have : bs0 t i = base ⟨0, [], [], [], 0⟩ := by simp [bs0, hv]
    rw [this]
    have : (kn (base ⟨0, [], [], [], 0⟩)).attrs = [] := by simp [base, kn]
    rw [this]; exact uq_nil
  | some v =>
    rw [kn_bs0 hR hv]
    have hN := hR.node i v hv
    by_cases h3 : v.kind = 3
    · have hu := hN.k5 h3
      exact ⟨by have := hu.len; show v.attrs.length ≤ _; omega, hu.uq, fun j a ha => by have := (hR.txt i v hv).2 j a ha; omega⟩
    · have : v.attrs = [] := (hN.k4 h3).2
      show UQ v.attrs
      rw [this]; exact uq_nil
theorem sameList_rf (l : List Int) (hl : l.length ≤ 2147483647) : m_spec_SameList (l, l) = some true := by
  simp only [m_spec_SameList, cond_dec]
  first | rw [if_neg (fun h => h rfl)] | rw [if_neg (fun h => h trivial)] | rw [if_neg not_false]
  have h := loop_all (body := m_spec_SameList_0) l (fun _ => true) (fun k => (l, l, (k : Int))) (.inl ()) (.inr false) (fun k u hu => by
    have hk := (List.getElem?_eq_some_iff.1 hu).1
    simp only [m_spec_SameList_0, cond_dec, atI_nat]
    rw [if_pos (by omega), hu]
    simp only [bind_some]
    rw [if_neg (by simp), w64 (by omega) (by omega)]
    rfl) (by
    simp only [m_spec_SameList_0, cond_dec]
    rw [if_neg (by omega)]) 0 (Nat.zero_le _)
  rw [show loopO m_spec_SameList_0 (l, l, (0 : Int)) = _ from h, bind_some]
  simp [selim_l]
section
variable {t : List Node}
end
end Go.Proofs.Ytfmlpodcldhgdaa.V
set_option linter.unusedVariables false
set_option linter.unusedSimpArgs false
namespace Go.Proofs.Ytfmlpodcldhgdaa.V
open Go
section
variable {t : List Node} {p : Nat} {cs A B : List Nat} {n : Nat}
end
end Go.Proofs.Ytfmlpodcldhgdaa.V
set_option linter.unusedVariables false
set_option linter.unusedSimpArgs false
namespace Go.Proofs.Ytfmlpodcldhgdaa.V
open Go
section
variable {t : List Node} {xs : List Nat} {xl w : Nat} {i : Nat}
theorem nodes_congr {K K' : Nat → List Nat} {N N' : Nat → Node} {Q : Nat → Prop} (hK : ∀ y, Q y → K' y = K y) (hN : ∀ y, Q y → Lb (N' y) (N y)) (hQ : ∀ y, Q y → ∀ z ∈ K y, Q z) : ∀ {m y : Nat}, Q y → nodesF K' N' m y = nodesF K N m y
  | 0, _, _ => rfl
  | m + 1, y, hy => by
    obtain ⟨e1, e2, e3, e4⟩ := hN y hy
    have hf : (K' y).flatMap (nodesF K' N' m) = (K y).flatMap (nodesF K N m) := by
      rw [hK y hy]
      exact flat_congr fun z hz => nodes_congr hK hN hQ (hQ y hy z hz)
    simp only [nodesF, hf, e1, e2, e3, e4]
end
end Go.Proofs.Ytfmlpodcldhgdaa.V
set_option linter.unusedVariables false
set_option linter.unusedSimpArgs false
namespace Go.Proofs.Ytfmlpodcldhgdaa.V
open Go Go.Proofs
abbrev p_laws_sure7_u : Pt := [(0, .lst .node), (1, .el (.rc (.int .i64) [.ints, .ints, .str, .str, .strs] 0))]
abbrev q_laws_sure7_u : Pt := [(0, .bool)]
noncomputable def m_laws_sure7_u : Tup p_laws_sure7_u → Option (Tup q_laws_sure7_u) := fun (x : List Node × Int × List Int × List Int × List UInt8 × List UInt8 × List (List UInt8)) => Option.bind (m_spec_Changed_u_f (x.1, [(x.2.1, x.2.2.1, x.2.2.2.1, x.2.2.2.2.1, x.2.2.2.2.2.1, x.2.2.2.2.2.2)])) fun (r : List Node × List Int × Bool) => some r.2.2
noncomputable def cx_laws_sure7_u : Cx := ⟨tb, lookE [(50, e_spec_Changed_u_f)], lookS []⟩
theorem ck_laws_sure7_u : CxOK Try.prog (cx_laws_sure7_u) := cx_ok tb_ok (.cons ok_spec_Changed_u_f Try.call50 .nil)
noncomputable def e_laws_sure7_u : Ent := ⟨0, p_laws_sure7_u, q_laws_sure7_u, m_laws_sure7_u⟩
theorem ok_laws_sure7_u : FnOK Try.prog 21 e_laws_sure7_u := fn_ok (L := lookL []) ck_laws_sure7_u mixed Try.func21 rfl (by kernel_rfl) (by kernel_rfl) (ls_ok (l := []) (by kernel_rfl) .nil) (by intro x; kernel_rfl)
abbrev p_laws_as7_u : Pt := [(0, .lst .node), (1, .el (.rc (.int .i64) [.ints, .ints, .str, .str, .strs] 0)), (2, .lst .node), (3, .lst .int), (4, .bool)]
abbrev q_laws_as7_u : Pt := [(0, .bool)]
noncomputable def m_laws_as7_u : Tup p_laws_as7_u → Option (Tup q_laws_as7_u) := fun (x : List Node × (Int × List Int × List Int × List UInt8 × List UInt8 × List (List UInt8)) × List Node × List Int × Bool) => Option.bind (m_spec_Changed_u_f (x.1, [(x.2.1.1, x.2.1.2.1, x.2.1.2.2.1, x.2.1.2.2.2.1, x.2.1.2.2.2.2.1, x.2.1.2.2.2.2.2)])) fun (r : List Node × List Int × Bool) => bif !r.2.2 then some true else bif x.2.2.2.2 then Option.bind (m_spec_AlikeTrees (x.2.2.1, r.1)) fun (r_1 : Bool) => bif r_1 then Option.bind (m_spec_SameList (x.2.2.2.1, r.2.1)) fun (r : Bool) => some r else some false else some false
noncomputable def cx_laws_as7_u : Cx := ⟨tb, lookE [(50, e_spec_Changed_u_f), (59, e_spec_AlikeTrees), (34, e_spec_SameList)], lookS []⟩
theorem ck_laws_as7_u : CxOK Try.prog (cx_laws_as7_u) := cx_ok tb_ok (.cons ok_spec_Changed_u_f Try.call50 (.cons ok_spec_AlikeTrees Try.call59 (.cons ok_spec_SameList Try.call34 .nil)))
noncomputable def e_laws_as7_u : Ent := ⟨0, p_laws_as7_u, q_laws_as7_u, m_laws_as7_u⟩
theorem ok_laws_as7_u : FnOK Try.prog 31 e_laws_as7_u := fn_ok (L := lookL []) ck_laws_as7_u mixed Try.func31 rfl (by kernel_rfl) (by kernel_rfl) (ls_ok (l := []) (by kernel_rfl) .nil) (by intro x; kernel_rfl)
abbrev p_laws_FnUnwrapOf : Pt := [(0, .lst .node), (1, .lst .int)]
abbrev q_laws_FnUnwrapOf : Pt := [(0, .bool)]
noncomputable def m_laws_FnUnwrapOf : Tup p_laws_FnUnwrapOf → Option (Tup q_laws_FnUnwrapOf) := fun (x : List Node × List Int) => Option.bind (m_laws_zzFits1 x.1) fun (r : Bool) => bif !r then some true else bif decide ((2147483647 : Int) < (↑(List.length x.2) : Int)) then some true else Option.bind (m_laws_step7 ((8 : Int), x.2, [])) fun (r : Int × List Int × List Int × List UInt8 × List UInt8 × List (List UInt8)) => Option.bind (m_laws_sure7_u (x.1, r.1, r.2.1, r.2.2.1, r.2.2.2.1, r.2.2.2.2.1, r.2.2.2.2.2)) fun (r_1 : Bool) => bif !r_1 then some true else Option.bind (m_impl_UnwrapOf_f (x.1, x.2)) fun (r_2 : List Node × List Int × Bool) => Option.bind (m_laws_as7_u (x.1, (r.1, r.2.1, r.2.2.1, r.2.2.2.1, r.2.2.2.2.1, r.2.2.2.2.2), r_2.1, r_2.2.1, r_2.2.2)) fun (r : Bool) => some r
noncomputable def cx_laws_FnUnwrapOf : Cx := ⟨tb, lookE [(13, e_laws_zzFits1), (22, e_laws_step7), (21, e_laws_sure7_u), (36, e_impl_UnwrapOf_f), (31, e_laws_as7_u)], lookS []⟩
theorem ck_laws_FnUnwrapOf : CxOK Try.prog (cx_laws_FnUnwrapOf) := cx_ok tb_ok (.cons ok_laws_zzFits1 Try.call13 (.cons ok_laws_step7 Try.call22 (.cons ok_laws_sure7_u Try.call21 (.cons ok_impl_UnwrapOf_f Try.call36 (.cons ok_laws_as7_u Try.call31 .nil)))))
noncomputable def e_laws_FnUnwrapOf : Ent := ⟨0, p_laws_FnUnwrapOf, q_laws_FnUnwrapOf, m_laws_FnUnwrapOf⟩
theorem ok_laws_FnUnwrapOf : FnOK Try.prog 11 e_laws_FnUnwrapOf := fn_ok (L := lookL []) ck_laws_FnUnwrapOf mixed Try.func11 rfl (by kernel_rfl) (by kernel_rfl) (ls_ok (l := []) (by kernel_rfl) .nil) (by intro x; kernel_rfl)
end Go.Proofs.Ytfmlpodcldhgdaa.V
set_option linter.unusedVariables false
set_option linter.unusedSimpArgs false
namespace Go.Proofs.Ytfmlpodcldhgdaa.V
open Go
def ddp : List Nat → List Nat → List Nat
  | acc, [] => acc
  | acc, p :: l => ddp (if p ∈ acc then acc else acc ++ [p]) l
theorem ddp_snoc {p : Nat} : ∀ {l acc : List Nat}, ddp acc (l ++ [p]) = if p ∈ ddp acc l then ddp acc l else ddp acc l ++ [p]
  | [], _ => rfl
  | a :: l, acc => by simp only [List.cons_append, ddp]; exact ddp_snoc
theorem ddp_nodup : ∀ {l acc : List Nat}, acc.Nodup → (ddp acc l).Nodup
  | [], _, h => h
  | p :: l, acc, h => by
    simp only [ddp]
    refine ddp_nodup ?_
    split
    · exact h
    · rename_i hp
      rw [List.nodup_append]
      exact ⟨h, by simp, fun a ha b hb e => hp (by rw [← List.mem_singleton.1 hb, ← e]; exact ha)⟩
theorem ddp_mem {z : Nat} : ∀ {l acc : List Nat}, z ∈ ddp acc l → z ∈ acc ∨ z ∈ l
  | [], _, h => .inl h
  | p :: l, acc, h => by
    simp only [ddp] at h
    rcases ddp_mem h with h | h
    · split at h
      · exact .inl h
      · rcases List.mem_append.1 h with h | h
        · exact .inl h
        · exact .inr (by rw [List.mem_singleton.1 h]; simp)
    · exact .inr (by simp [h])
theorem ddp_len : ∀ {l acc : List Nat}, (ddp acc l).length ≤ acc.length + l.length
  | [], _ => by simp [ddp]
  | p :: l, acc => by
    simp only [ddp]
    refine Nat.le_trans ddp_len ?_
    split <;> simp <;> omega
def Okp (t : List Node) (x : Nat) : Prop := ∃ (p q : Nat) (v : Node), par t x = some p ∧ par t p = some q ∧ t[p]? = some v ∧ v.kind = 3 ∧ v.tag ≠ [98, 111, 100, 121]
section
variable {t : List Node}
theorem there_eq (on l : List Nat) (i : Int) (p : Nat) (S : List KN) (hl : l.length ≤ 1000000) : ∀ (d k : Nat) (b : Bool), l.length - k = d → k ≤ l.length →
    loopO m_spec_unwrapped_0_0 (on.map some, l.map some, i, some p, b, (k : Int), S) = some (on.map some, l.map some, i, some p, b || decide (p ∈ l.drop k), S) := by
  intro d
  induction d with
  | zero =>
    intro k b hd hk
    obtain rfl : k = l.length := by omega
    refine loopO_out ?_
    simp only [m_spec_unwrapped_0_0, cond_dec]
    rw [if_neg (by simp), List.drop_length]
    simp
  | succ d ih =>
    intro k b hd hk
    obtain ⟨c, hc⟩ := get_lt (l := l) (k := k) (by omega)
    have hg : (l.map some)[k]? = some (some c) := by rw [List.getElem?_map, hc]; rfl
    have hdr : l.drop k = c :: l.drop (k + 1) := by
      obtain ⟨h1, h2⟩ := List.getElem?_eq_some_iff.1 hc
      rw [← h2]; exact List.drop_eq_getElem_cons h1
    cases b with
    | true =>
      have step : m_spec_unwrapped_0_0 (on.map some, l.map some, i, some p, true, (k : Int), S) = some (.nx (on.map some, l.map some, i, some p, true, ((k + 1 : Nat) : Int), S)) := by
        simp only [m_spec_unwrapped_0_0, cond_dec, cond_true]
        rw [if_pos (by simp; omega), w64 (by omega) (by omega)]
        rfl
      rw [loopO_nx step, ih (k + 1) true (by omega) (by omega)]
      simp
    | false =>
      have step : m_spec_unwrapped_0_0 (on.map some, l.map some, i, some p, false, (k : Int), S) = some (.nx (on.map some, l.map some, i, some p, decide (c = p), ((k + 1 : Nat) : Int), S)) := by
        simp only [m_spec_unwrapped_0_0, cond_dec, cond_false, atI_nat, Int.toNat_natCast, hg, bind_some]
        rw [if_pos (by simp; omega), w64 (by omega) (by omega)]
        simp
      rw [loopO_nx step, ih (k + 1) _ (by omega) (by omega), hdr]
      have : decide (p ∈ c :: l.drop (k + 1)) = (decide (c = p) || decide (p ∈ l.drop (k + 1))) := by
        by_cases e : c = p
        · simp [e]
        · have e' : ¬ p = c := fun h => e h.symm
          simp [e, e']
      rw [this]
      simp
theorem unwrapped_ex (hR : RT t) {on : List Nat} (ho : ∀ x ∈ on, x < t.length) (hl : on.length ≤ 200) :
    ∃ b S', m_spec_unwrapped (on.map some, (FT t).kst (P0 t)) = some (b, S') ∧ (b = true → (∀ x ∈ on, Okp t x) ∧ ∃ H, S' = H.kst (P0 t) ∧ Ud t H ∧ unwAll (FT t) (ddp [] (on.map (parN t))) = some H) := by
  have hlen := hR.len
  have hUd : Ud t (FT t) := ⟨FT_ok hR, rfl, fun x y hy => (kid_facts hR hy).1⟩
  obtain ⟨y, h1, h2⟩ := loop_each (body := m_spec_unwrapped_0) (st := fun k => (on.map some, (ddp [] ((on.take k).map (parN t))).map some, (k : Int), (FT t).kst (P0 t))) (n := on.length) (good := .inl ((ddp [] (on.map (parN t))).map some, (FT t).kst (P0 t))) (bad := .inr (false, (FT t).kst (P0 t)))
    (p := fun i => ∀ x, on[i]? = some x → Okp t x) (fun i hi => by
      obtain ⟨x, hx⟩ := get_lt hi
      have hxl := ho x (List.mem_of_getElem? hx)
      have hgx := Fo.kget (F := FT t) (P := P0 t) (i := x) hxl
      have hg : (on.map some)[i]? = some (some x) := by rw [List.getElem?_map, hx]; rfl
      have hux : ((FT t).kn1 (P0 t) x).up = par t x := if_pos hxl
      simp only [m_spec_unwrapped_0, cond_dec, atI_nat, hg, bind_some, hgx, hux]
      rw [if_pos (by simp; omega)]
      cases hp : par t x with
      | none => exact .inl rfl
      | some p =>
        have hpl : p < t.length := by have := (par_some hp).1; omega
        have hgp := Fo.kget (F := FT t) (P := P0 t) (i := p) hpl
        have hup : ((FT t).kn1 (P0 t) p).up = par t p := if_pos hpl
        obtain ⟨v, hv⟩ := get_lt hpl
        have hnp : ((FT t).kn1 (P0 t) p).n = v := by show (P0 t p).2 = v; simp [P0, nd0, hv]
        simp only [Option.isNone_some, cond_false, bind_some, hgp, hup, hnp]
        cases hq : par t p with
        | none => exact .inl rfl
        | some q =>
          simp only [Option.isNone_some, cond_false]
          by_cases h3 : v.kind = 3
          · rw [if_neg (by simp [h3])]
            by_cases hb : v.tag = [98, 111, 100, 121]
            · rw [if_pos (by rw [hb])]
              exact .inl rfl
            · rw [if_neg (fun h => hb (by rw [h]))]
              have hdl : (ddp [] ((on.take i).map (parN t))).length ≤ i := Nat.le_trans ddp_len (by simp; omega)
              have ht := there_eq on (ddp [] ((on.take i).map (parN t))) (i : Int) p ((FT t).kst (P0 t)) (by omega) _ 0 false rfl (Nat.zero_le _)
              have ht' : loopO m_spec_unwrapped_0_0 (on.map some, (ddp [] ((on.take i).map (parN t))).map some, (i : Int), some p, false, (0 : Int), (FT t).kst (P0 t)) = _ := ht
              rw [ht', bind_some]
              simp only [List.drop_zero, Bool.false_or]
              have hpx : parN t x = p := by simp [parN, hp]
              have e1 : (on.take (i + 1)).map (parN t) = (on.take i).map (parN t) ++ [p] := by rw [List.take_add_one, hx]; simp [hpx]
              refine .inr ⟨?_, fun x' hx' => by
                rw [hx] at hx'
                cases hx'
                exact ⟨p, q, v, hp, hq, hv, h3, hb⟩⟩
              rw [e1, ddp_snoc]
              by_cases hm : p ∈ ddp [] ((on.take i).map (parN t))
              · rw [if_pos hm, decide_eq_true hm, w64 (by omega) (by omega)]
                rfl
              · rw [if_neg hm, decide_eq_false hm]
                simp only [Bool.not_false, cond_true]
                rw [appL_some (by rw [List.length_map, List.length_singleton]; omega), bind_some, w64 (by omega) (by omega)]
                simp
          · rw [if_pos h3]; exact .inl rfl) (by
      simp only [m_spec_unwrapped_0, cond_dec]
      rw [if_neg (by simp), List.take_of_length_le (Nat.le_refl _)]) 0 (Nat.zero_le _)
  have h1' : loopO m_spec_unwrapped_0 (on.map some, [], (0 : Int), (FT t).kst (P0 t)) = some y := h1
  simp only [m_spec_unwrapped, h1', bind_some]
  rcases h2 with rfl | ⟨rfl, h3⟩
  · exact ⟨_, _, rfl, fun h => by cases h⟩
  · have hok : ∀ x ∈ on, Okp t x := fun x hx => by
      obtain ⟨k, hk⟩ := List.mem_iff_getElem?.1 hx
      exact h3 k (Nat.zero_le _) (List.getElem?_eq_some_iff.1 hk).1 x hk
    have hdl := ddp_len (l := on.map (parN t)) (acc := [])
    rw [List.length_map] at hdl
    obtain ⟨H, g1, g2, g3⟩ := unws_eq (P := P0 t) (l := ddp [] (on.map (parN t))) (by simp at hdl; omega) (ddp_nodup (by simp)) (by omega) _ 0 (FT t) rfl (Nat.zero_le _) hUd (fun p hp => by
      rw [List.drop_zero] at hp
      rcases ddp_mem hp with hp | hp
      · cases hp
      · obtain ⟨x, hx, rfl⟩ := List.mem_map.1 hp
        obtain ⟨p, q, v, k1, k2, k3, _⟩ := hok x hx
        have hpx : parN t x = p := by simp [parN, k1]
        have hpl := (List.getElem?_eq_some_iff.1 k3).1
        rw [hpx]
        exact ⟨q, by simp only [FT, if_pos hpl]; exact k2⟩)
    have g1' : loopO m_spec_unwrapped_1 ((ddp [] (on.map (parN t))).map some, (0 : Int), (FT t).kst (P0 t)) = _ := g1
    rw [List.drop_zero] at g3
    simp only [selim, g1', bind_some]
    exact ⟨_, _, rfl, fun _ => ⟨hok, H, rfl, g2, g3⟩⟩
theorem Ud.rk {H : Fo} (h : Ud t H) : ∀ x y, y ∈ H.kids x → (fun i => t.length - i) y < (fun i => t.length - i) x := fun x y hy => by
  have h1 := h.ord x y hy
  have h2 := (h.ok.kid hy).2
  rw [h.m] at h2
  show t.length - y < t.length - x
  omega
theorem Ud.ht {H : Fo} (h : Ud t H) (hR : RT t) {n : Nat} (hn : 1000000 ≤ n) (x : Nat) : Ht H.kids n x := by
  have := hR.len
  refine ht_rank h.rk n x ?_
  show t.length - x < n
  omega
theorem Ud.nodup {H : Fo} (h : Ud t H) (n : Nat) : (idsF H.kids n 0).Nodup := ids_nodup h.ok h.rk n 0
theorem Ud.len {H : Fo} (h : Ud t H) (hR : RT t) (n : Nat) : (idsF H.kids n 0).length ≤ t.length := by
  have := ids_len h.ok h.rk n (x := 0) (by rw [h.m]; exact hR.pos)
  rwa [h.m] at this
theorem Ud.listed {H : Fo} (h : Ud t H) (hR : RT t) {n : Nat} (hn : 1000000 ≤ n) : m_spec_knot_listed n (some 0, [], List.replicate t.length (-1), H.kst (P0 t)) = some (tree t H n, spots t H n, H.kst (P0 t)) := by
  have hlen := hR.len
  have hl := h.len hR n
  have h0 : 0 < H.m := by rw [h.m]; exact hR.pos
  rw [listed_eq (P := P0 t) h.ok n 0 [] (List.replicate t.length (-1)) h0 (h.ht hR hn 0) (by simp; omega) (by simp; omega), List.nil_append, List.length_nil]
  have e1 : nodesF H.kids (fun i => (P0 t i).2) n 0 = tree t H n := nodes_congr (K := H.kids) (N := fun i => kn (bs0 t i)) (Q := fun y => y < t.length) (fun _ _ => rfl) (fun y hy => by
    obtain ⟨v, hv⟩ := get_lt hy
    show Lb (nd0 t y) (kn (bs0 t y))
    rw [kn_bs0 hR hv]
    have : nd0 t y = v := by simp [nd0, hv]
    rw [this]
    exact ⟨rfl, rfl, rfl, rfl⟩) (fun y _ z hz => by have := (h.ok.kid hz).2; rwa [h.m] at this) hR.pos
  have e2 : putP (P0 t) (idsF H.kids n 0) 0 (List.replicate t.length (-1)) = spots t H n := putP_all (h.nodup n) fun z hz => by
    have := ids_lt h.ok n 0 h0 z hz
    rw [h.m] at this
    exact .inl ⟨this, rfl⟩
  rw [e1, e2]
theorem fillu_eq (a : Int) (b : Bool) (S : List KN) (ks : List (Option Nat)) {m : Nat} (hm : m ≤ 1000000) : ∀ d j : Nat, m - j = d → j ≤ m → loopO m_spec_Changed_u_1 (((), a, b), List.replicate j (-1) ++ List.replicate (m - j) 0, (j : Int), S, ks) = some (((), a, b), List.replicate m (-1), S, ks) := by
  intro d
  induction d with
  | zero =>
    intro j hd hj
    obtain rfl : j = m := by omega
    refine loopO_out ?_
    simp only [m_spec_Changed_u_1, cond_dec]
    rw [if_neg (by simp)]
    simp
  | succ d ih =>
    intro j hd hj
    have hg : (List.replicate j (-1) ++ List.replicate (m - j) 0 : List Int)[j]? = some 0 := by
      rw [List.getElem?_append_right (by simp), List.length_replicate, Nat.sub_self, List.getElem?_replicate, if_pos (by omega)]
    have hs : (List.replicate j (-1) ++ List.replicate (m - j) 0 : List Int).set j (-1) = List.replicate (j + 1) (-1) ++ List.replicate (m - (j + 1)) 0 := by
      rw [List.set_append_right _ _ (by simp)]
      rw [show m - j = (m - (j + 1)) + 1 by omega, List.replicate_succ]
      simp only [List.length_replicate, Nat.sub_self, List.set_cons_zero]
      rw [List.replicate_succ', List.append_assoc]
      rfl
    have step : m_spec_Changed_u_1 (((), a, b), List.replicate j (-1) ++ List.replicate (m - j) 0, (j : Int), S, ks) = some (.nx (((), a, b), List.replicate (j + 1) (-1) ++ List.replicate (m - (j + 1)) 0, ((j + 1 : Nat) : Int), S, ks)) := by
      simp only [m_spec_Changed_u_1, cond_dec, atI_nat, hg, bind_some, Int.toNat_natCast, hs]
      rw [if_pos (by simp; omega), w64 (by omega) (by omega)]
      rfl
    rw [loopO_nx step]
    exact ih (j + 1) (by omega) (by omega)
theorem changedU (hf : fits1 t = true) {on : List Int} (hl : on.length ≤ 2147483647) {n : Nat} (hb : big = n) (hn : 1000000 ≤ n) :
    ∃ out at' b, m_spec_Changed_u_f (t, [(8, on, [], [], [], [])]) = some (out, at', b) ∧
      (b = true → RT t ∧ ∃ (l : List Nat) (H : Fo), on = intsN l ∧ Ds t l ∧ (∀ x ∈ l, Okp t x) ∧ Ud t H ∧ unwAll (FT t) (ddp [] (l.map (parN t))) = some H ∧ out = tree t H n ∧ at' = spots t H n) := by
  obtain ⟨b0, h0, h0'⟩ := Right_ex t hf
  suffices h : ∃ out at' b S, m_spec_Changed_u (t, [(8, on, [], [], [], [])], []) = some (out, at', b, S) ∧ (b = true → RT t ∧ ∃ (l : List Nat) (H : Fo), on = intsN l ∧ Ds t l ∧ (∀ x ∈ l, Okp t x) ∧ Ud t H ∧ unwAll (FT t) (ddp [] (l.map (parN t))) = some H ∧ out = tree t H n ∧ at' = spots t H n) by
    obtain ⟨out, at', b, S, g1, g2⟩ := h
    refine ⟨out, at', b, ?_, g2⟩
    show (m_spec_Changed_u (t, [(8, on, [], [], [], [])], [])).map _ = _
    rw [g1]; rfl
  simp only [m_spec_Changed_u, h0, bind_some, cond_dec]
  cases b0 with
  | false => exact ⟨_, _, _, _, rfl, fun h => by cases h⟩
  | true =>
    have hR := h0' rfl
    have hlen := hR.len
    simp only [Bool.not_true, cond_false, knots_eq hR, bind_some]
    have hstep : ∃ b S, m_spec_forest_step_u (((), (t.length : Int), false), (8, on, [], [], [], []), (List.range t.length).map some, (FT t).kst (P0 t)) = some (b, ((), (t.length : Int), false), (List.range t.length).map some, S) ∧
        (b = true → ∃ (l : List Nat) (H : Fo), on = intsN l ∧ Ds t l ∧ (∀ x ∈ l, Okp t x) ∧ S = H.kst (P0 t) ∧ Ud t H ∧ unwAll (FT t) (ddp [] (l.map (parN t))) = some H) := by
      obtain ⟨r1, b1, h1, h1'⟩ := chosen_nat (t.length : Int) false (on := on) (n := t.length) hl
      obtain ⟨r2, b2, h2, h2'⟩ := chosen_nat (t.length : Int) false (on := []) (n := t.length) (by simp)
      simp only [m_spec_forest_step_u, h1, h2, bind_some, cond_dec]
      cases b1 with
      | false => exact ⟨_, _, rfl, fun h => by cases h⟩
      | true =>
        cases b2 with
        | false => exact ⟨_, _, rfl, fun h => by cases h⟩
        | true =>
          obtain ⟨l1, e1, rfl, g1, g2⟩ := h1' rfl
          have hD : Ds t l1 := ⟨fun c hc => (g1 c hc).2, g2⟩
          have hll := hD.len hlen
          simp only [Bool.not_true, cond_false]
          by_cases e0 : ((l1.map some).length : Int) = 0
          · rw [if_pos e0]; exact ⟨_, _, rfl, fun h => by cases h⟩
          · rw [if_neg e0, if_neg (by decide), if_neg (by decide), if_neg (by decide), if_neg (by decide), if_neg (by decide), if_neg (by decide), if_neg (by decide), if_pos trivial]
            obtain ⟨b, S, q1, q2⟩ := unwrapped_ex hR hD.bd hll
            rw [q1, bind_some]
            refine ⟨_, _, rfl, fun hb => ?_⟩
            obtain ⟨k1, H, k2, k3, k4⟩ := q2 hb
            exact ⟨l1, H, e1, hD, k1, k2, k3, k4⟩
    obtain ⟨b1, S, h1, h1'⟩ := hstep
    have hat : atI [((8 : Int), on, ([] : List Int), ([] : List UInt8), ([] : List UInt8), ([] : List (List UInt8)))] (0 : Int) = some (8, on, [], [], [], []) := rfl
    cases b1 with
    | false =>
      have st : m_spec_Changed_u_0 (t, [(8, on, [], [], [], [])], ((), (t.length : Int), false), (0 : Int), (FT t).kst (P0 t), (List.range t.length).map some) = some (.out (.inr ([], [], false, S))) := by
        simp only [m_spec_Changed_u_0, cond_dec, hat, bind_some, h1]
        rw [if_pos (by simp)]
        rfl
      rw [loopO_out st]
      exact ⟨_, _, _, _, rfl, fun h => by cases h⟩
    | true =>
      obtain ⟨l, H, e1, e2, e3, rfl, e4, e5⟩ := h1' rfl
      have st : m_spec_Changed_u_0 (t, [(8, on, [], [], [], [])], ((), (t.length : Int), false), (0 : Int), (FT t).kst (P0 t), (List.range t.length).map some) = some (.nx (t, [(8, on, [], [], [], [])], ((), (t.length : Int), false), (1 : Int), H.kst (P0 t), (List.range t.length).map some)) := by
        simp only [m_spec_Changed_u_0, cond_dec, hat, bind_some, h1]
        rw [if_pos (by simp)]
        rfl
      have st2 : m_spec_Changed_u_0 (t, [(8, on, [], [], [], [])], ((), (t.length : Int), false), (1 : Int), H.kst (P0 t), (List.range t.length).map some) = some (.out (.inl (t, ((), (t.length : Int), false), H.kst (P0 t), (List.range t.length).map some))) := by
        simp only [m_spec_Changed_u_0, cond_dec]
        rw [if_neg (by simp)]
      have hfill := fillu_eq (t.length : Int) false (H.kst (P0 t)) ((List.range t.length).map some) (m := t.length) (by omega) t.length 0 rfl (Nat.zero_le _)
      have hfill' : loopO m_spec_Changed_u_1 (((), (t.length : Int), false), List.replicate (Int.toNat (t.length : Int)) (0 : Int), (0 : Int), H.kst (P0 t), (List.range t.length).map some) = some (((), (t.length : Int), false), List.replicate t.length (-1), H.kst (P0 t), (List.range t.length).map some) := hfill
      have hz : ((List.range t.length).map some)[0]? = some (some 0) := by
        rw [List.getElem?_map, List.getElem?_range hR.pos]; rfl
      rw [loopO_nx st, loopO_out st2, bind_some]
      simp only [selim]
      rw [if_pos ⟨by omega, by omega, by omega⟩, hfill', bind_some]
      simp only [atI_zero, hz, bind_some, show Int.toNat 0 = 0 from rfl, hb, e4.listed hR hn]
      exact ⟨_, _, _, _, rfl, fun _ => ⟨hR, l, H, e1, e2, e3, e4, e5, rfl, rfl⟩⟩
end
end Go.Proofs.Ytfmlpodcldhgdaa.V
set_option linter.unusedVariables false
set_option linter.unusedSimpArgs false
namespace Go.Proofs.Ytfmlpodcldhgdaa.V
open Go
section
variable {t : List Node} {G : Fo} {L : Nat → HN} {p q : Nat} {A B : List Nat}
theorem mvd_unw (h : Uw G p q A B) : (mvd G q (A ++ [p]) (G.kids p) B).off [p] = unw G p q A B := by
  have hA : ∀ z ∈ A, z ∉ G.kids p := fun z hz hc => (h.dis hc).1 hz
  have hB : ∀ z ∈ B, z ∉ G.kids p := fun z hz hc => (h.dis hc).2 hz
  have hpk : p ∉ G.kids p := fun hc => (h.nk p hc).2 rfl
  refine Fo.ext rfl (fun i => ?_) (fun i => ?_)
  · rw [unw_up h]
    simp only [Fo.off, mvd, Fo.hang, List.mem_singleton]
    by_cases e : i = p
    · rw [if_pos e, if_pos e]
    · rw [if_neg e, if_neg e]
      split <;> rfl
  · show ((mvd G q (A ++ [p]) (G.kids p) B).kids i).filter _ = ((Uk G p q A B (G.kids p).length).kids i).filter _
    simp only [mvd, Fo.hang, Uk, List.take_length, List.drop_length]
    by_cases e : i = q
    · rw [if_pos e, if_pos e]
      have e1 : (A ++ [p]).filter (fun j => decide (j ∉ G.kids p)) = A ++ [p] := filt_all fun z hz => by
        rcases List.mem_append.1 hz with hz | hz
        · exact hA z hz
        · rw [List.mem_singleton.1 hz]; exact hpk
      have e2 : [p].filter (fun j => decide (j ∉ [p])) = [] := by simp
      rw [e1, filt_all hB, List.filter_append, List.filter_append, List.filter_append, List.filter_append, List.filter_append, e2, List.filter_cons_of_neg (by simp)]
      simp
    · rw [if_neg e, if_neg e]
      by_cases e2 : i = p
      · rw [if_pos e2, e2]
        have : (((G.off (G.kids p)).kids p).filter fun j => decide (j ∉ [p])) = [] := by
          show (((G.kids p).filter fun j => decide (j ∉ G.kids p)).filter _) = []
          have e3 : (G.kids p).filter (fun j => decide (j ∉ G.kids p)) = [] := by
            rw [List.filter_eq_nil_iff]
            intro z hz
            simp [hz]
          rw [e3]; rfl
        rw [this]; rfl
      · rw [if_neg e2]
        have : (G.off (G.kids p)).kids i = G.kids i := filt_all fun z hz hc => by
          have h1 := (h.ok.kid hz).1
          have h2 := (h.ok.kid hc).1
          rw [h1] at h2
          exact e2 (Option.some.inj h2)
        rw [this]
theorem unwrap1 (h : Uw G p q A B) (hm : G.m ≤ 1000) (hb : (L p).data ≠ [98, 111, 100, 121]) (i : Int) : m_goquery_Selection_Unwrap_1 (i, [some p], G.st L) = some ((unw G p q A B).st L) := by
  have hpm := h.up.2
  have hkl : (G.kids p).length ≤ 1000 := by
    have := Uk_klen h hm (k := 0) (Nat.zero_le _) p
    rwa [Uk0 h.hq] at this
  have hg := Fo.get (F := G) (L := L) hpm
  have hd : (G.mk1 L p).data = (L p).data := rfl
  have e : atI ([some p] : List (Option Nat)) 0 = some (some p) := rfl
  have haft := after_eq (F := G) (L := L) (p := q) (x := p) (A := A) (B := B) (cs := G.kids p) h.ok h.qm (by rw [h.hq]; simp) (fun d hd => ⟨(h.ok.kid hd).2, fun e => (h.nk d hd).1 e.symm, fun e => (h.nk d hd).2 e.symm⟩) (h.ok.nd p) (by omega)
  have hk1 : ∀ d ∈ G.kids p, d < G.m ∧ q ≠ d := fun d hd => ⟨(h.ok.kid hd).2, fun e => (h.nk d hd).1 e.symm⟩
  have hmo := mvd_ok (F := G) (p := q) (A := A ++ [p]) (B := B) (l := G.kids p) h.ok h.qm (by rw [h.hq]; simp) hk1 (h.ok.nd p)
  have hrem := remove1 (L := L) hmo (x := p) hpm
  rw [mvd_unw h] at hrem
  simp only [m_goquery_Selection_Unwrap_1, e, bind_some, hg, hd, cond_dec]
  rw [if_pos (by first | exact hb | exact fun h => hb (by rw [h]; first | rfl | decide))]
  simp only [m_goquery_Selection_Contents_o, m_goquery_pushStack_o, children_eq h.ok hpm hkl, bind_some, m_goquery_Selection_ReplaceWithSelection_o, m_goquery_Selection_ReplaceWithNodes, haft, hrem]
theorem each_eq {l : List Nat} (hl : l.length ≤ 1000) (hn : l.Nodup) (ht : t.length ≤ 1000) (hb : ∀ p ∈ l, (L p).data ≠ [98, 111, 100, 121]) : ∀ (d j : Nat) (G : Fo), l.length - j = d → j ≤ l.length → Ud t G → (∀ p ∈ l.drop j, ∃ q, G.up p = some q) →
    ∃ H, loopO m_goquery_Selection_Each_u_0 (l.map some, (), l.map some, (l.length : Int), (j : Int), G.st L) = some (l.map some, H.st L) ∧ Ud t H ∧ unwAll G (l.drop j) = some H := by
  intro d
  induction d with
  | zero =>
    intro j G hd hj hU _
    obtain rfl : j = l.length := by omega
    refine ⟨G, loopO_out ?_, hU, by rw [List.drop_length]; rfl⟩
    simp only [m_goquery_Selection_Each_u_0, cond_dec]
    rw [if_neg (by omega)]
  | succ d ih =>
    intro j G hd hj hU hup
    obtain ⟨p, hp⟩ := get_lt (l := l) (k := j) (by omega)
    have hpm := List.mem_of_getElem? hp
    have hdr : l.drop j = p :: l.drop (j + 1) := by
      obtain ⟨h1, h2⟩ := List.getElem?_eq_some_iff.1 hp
      rw [← h2]; exact List.drop_eq_getElem_cons h1
    obtain ⟨q, hq⟩ := hup p (by rw [hdr]; simp)
    obtain ⟨A, B, hw⟩ := hU.uw hq
    have hm : G.m ≤ 1000 := by have := hU.m; omega
    have hgl : (l.map some)[j]? = some (some p) := by rw [List.getElem?_map, hp]; rfl
    have h1 := unwrap1 (L := L) hw hm (hb p hpm) (j : Int)
    have step : m_goquery_Selection_Each_u_0 (l.map some, (), l.map some, (l.length : Int), (j : Int), G.st L) = some (.nx (l.map some, (), l.map some, (l.length : Int), ((j + 1 : Nat) : Int), (unw G p q A B).st L)) := by
      simp only [m_goquery_Selection_Each_u_0, cond_dec, atI_nat, hgl, bind_some, m_goquery_newSingleSelection, h1]
      rw [if_pos (by omega), w64 (by omega) (by omega)]
      rfl
    have hnj := (List.drop_sublist j l).nodup hn
    rw [hdr, List.nodup_cons] at hnj
    obtain ⟨H, g1, g2, g3⟩ := ih (j + 1) (unw G p q A B) (by omega) (by omega) (hU.step hw) (fun p' hp' => by
      have hne : p' ≠ p := fun e => hnj.1 (e ▸ hp')
      rw [unw_up hw, if_neg hne]
      split
      · exact ⟨q, rfl⟩
      · exact hup p' (by rw [hdr]; simp [hp']))
    refine ⟨H, by rw [loopO_nx step]; exact g1, g2, ?_⟩
    rw [hdr, unwAll_cons hw]
    exact g3
theorem mget_put (l : List (Option Nat × Bool)) (o o' : Option Nat) (b : Bool) : mget (mput l o b) o' = if o' = o then b else mget l o' := by
  induction l with
  | nil => simp only [mput, mget]
  | cons p l ih =>
    obtain ⟨k, v⟩ := p
    simp only [mput]
    by_cases h : o = k
    · subst h
      rw [if_pos rfl]
      simp only [mget]
      by_cases h' : o' = o
      · rw [if_pos h', if_pos h']
      · rw [if_neg h', if_neg h', if_neg h']
    · rw [if_neg h]
      simp only [mget]
      by_cases h' : o' = k
      · subst h'
        rw [if_pos rfl, if_pos rfl, if_neg (fun e => h e.symm)]
      · rw [if_neg h', if_neg h', ih]
theorem bs_el (hR : RT t) {p : Nat} {v : Node} (hv : t[p]? = some v) (h3 : v.kind = 3) : (bs0 t p).ty = 3 ∧ (bs0 t p).data = v.tag := by
  have : bs0 t p = base v := by simp [bs0, hv]
  rw [this]
  simp [base, h3]
theorem parents_eq (hR : RT t) {on : List Nat} (hl : on.length ≤ 200) (hok : ∀ x ∈ on, Okp t x) : m_goquery_getParentNodes (on.map some, (FT t).st (bs0 t)) = some ((ddp [] (on.map (parN t))).map some) := by
  have key : ∀ d j m, on.length - j = d → j ≤ on.length → (∀ p : Nat, mget m (some p) = decide (p ∈ ddp [] ((on.take j).map (parN t)))) → loopO m_goquery_getParentNodes_0 ((ddp [] ((on.take j).map (parN t))).map some, m, on.map some, (on.length : Int), (j : Int), (FT t).st (bs0 t)) = some ((ddp [] (on.map (parN t))).map some, (FT t).st (bs0 t)) := by
    intro d
    induction d with
    | zero =>
      intro j m hd hj _
      obtain rfl : j = on.length := by omega
      refine loopO_out ?_
      simp only [m_goquery_getParentNodes_0, cond_dec]
      rw [if_neg (by omega), List.take_length]
    | succ d ih =>
      intro j m hd hj hm
      obtain ⟨x, hx⟩ := get_lt (l := on) (k := j) (by omega)
      obtain ⟨p, q, v, h1, h2, h3, h4, h5⟩ := hok x (List.mem_of_getElem? hx)
      have hpl := (List.getElem?_eq_some_iff.1 h3).1
      have hxl : x < t.length := by
        by_cases e : x < t.length
        · exact e
        · have hb := par_some h1
          have hs := hR.le hpl
          omega
      have hgx := Fo.get (F := FT t) (L := bs0 t) (i := x) hxl
      have hgp := Fo.get (F := FT t) (L := bs0 t) (i := p) hpl
      have hux : ((FT t).mk1 (bs0 t) x).par = some p := by show (if x < t.length then par t x else none) = _; rw [if_pos hxl, h1]
      have hty : ((FT t).mk1 (bs0 t) p).ty = 3 := (bs_el hR h3 h4).1
      have hg : (on.map some)[j]? = some (some x) := by rw [List.getElem?_map, hx]; rfl
      have hpx : parN t x = p := by simp [parN, h1]
      have e1 : (on.take (j + 1)).map (parN t) = (on.take j).map (parN t) ++ [p] := by rw [List.take_add_one, hx]; simp [hpx]
      have hdl := ddp_len (l := (on.take j).map (parN t)) (acc := [])
      simp only [List.length_nil, List.length_map, List.length_take] at hdl
      by_cases e : p ∈ ddp [] ((on.take j).map (parN t))
      · have step : m_goquery_getParentNodes_0 ((ddp [] ((on.take j).map (parN t))).map some, m, on.map some, (on.length : Int), (j : Int), (FT t).st (bs0 t)) = some (.nx ((ddp [] ((on.take (j + 1)).map (parN t))).map some, m, on.map some, (on.length : Int), ((j + 1 : Nat) : Int), (FT t).st (bs0 t))) := by
          simp only [m_goquery_getParentNodes_0, cond_dec, atI_nat, hg, bind_some, hgx, hux, Option.isNone_some, cond_false, hgp, hty, hm p, decide_eq_true e, cond_true]
          rw [if_pos (by omega), if_neg (by simp), w64 (by omega) (by omega), e1, ddp_snoc, if_pos e]
          rfl
        rw [loopO_nx step]
        exact ih (j + 1) m (by omega) (by omega) (by rw [e1, ddp_snoc, if_pos e]; exact hm)
      · have step : m_goquery_getParentNodes_0 ((ddp [] ((on.take j).map (parN t))).map some, m, on.map some, (on.length : Int), (j : Int), (FT t).st (bs0 t)) = some (.nx ((ddp [] ((on.take (j + 1)).map (parN t))).map some, mput m (some p) true, on.map some, (on.length : Int), ((j + 1 : Nat) : Int), (FT t).st (bs0 t))) := by
          simp only [m_goquery_getParentNodes_0, cond_dec, atI_nat, hg, bind_some, hgx, hux, Option.isNone_some, cond_false, hgp, hty, hm p, decide_eq_false e]
          rw [if_pos (by omega), if_neg (by simp), appL_some (by rw [List.length_map, List.length_singleton]; omega), bind_some, w64 (by omega) (by omega), e1, ddp_snoc, if_neg e]
          simp
        rw [loopO_nx step]
        refine ih (j + 1) _ (by omega) (by omega) (fun p' => ?_)
        rw [mget_put, e1, ddp_snoc, if_neg e, hm p']
        by_cases e2 : p' = p
        · subst e2; simp
        · have : ¬ (some p' = some p) := fun h => e2 (Option.some.inj h)
          rw [if_neg this]
          simp [e2]
  have h0 := key on.length 0 [] rfl (Nat.zero_le _) (fun p => by simp [mget, ddp])
  have h0' : loopO m_goquery_getParentNodes_0 ([], [], on.map some, (((on.map some).length : Nat) : Int), (0 : Int), (FT t).st (bs0 t)) = some ((ddp [] (on.map (parN t))).map some, (FT t).st (bs0 t)) := by rw [List.length_map]; exact h0
  simp only [m_goquery_getParentNodes, h0', bind_some]
theorem unwrapOf_eq (hf : fits1 t = true) (hR : RT t) {l : List Nat} (hD : Ds t l) (hok : ∀ x ∈ l, Okp t x) {n : Nat} (hb : big = n) (hn : 1000000 ≤ n) :
    ∃ H S, m_impl_UnwrapOf (t, intsN l, []) = some (tree t H n, spots t H n, true, S) ∧ Ud t H ∧ unwAll (FT t) (ddp [] (l.map (parN t))) = some H := by
  have hlen := hR.len
  have hll := hD.len hlen
  have hdl := ddp_len (l := l.map (parN t)) (acc := [])
  simp only [List.length_nil, List.length_map] at hdl
  have hUd : Ud t (FT t) := ⟨FT_ok hR, rfl, fun x y hy => (kid_facts hR hy).1⟩
  have hmem : ∀ p ∈ ddp [] (l.map (parN t)), ∃ q v, (FT t).up p = some q ∧ t[p]? = some v ∧ v.kind = 3 ∧ v.tag ≠ [98, 111, 100, 121] := fun p hp => by
    rcases ddp_mem hp with hp | hp
    · cases hp
    · obtain ⟨x, hx, rfl⟩ := List.mem_map.1 hp
      obtain ⟨p, q, v, k1, k2, k3, k4, k5⟩ := hok x hx
      have hpx : parN t x = p := by simp [parN, k1]
      have hpl := (List.getElem?_eq_some_iff.1 k3).1
      rw [hpx]
      exact ⟨q, v, by simp only [FT, if_pos hpl]; exact k2, k3, k4, k5⟩
  obtain ⟨H, g1, g2, g3⟩ := each_eq (t := t) (L := bs0 t) (l := ddp [] (l.map (parN t))) (by omega) (ddp_nodup (by simp)) (by omega) (fun p hp => by
    obtain ⟨q, v, k1, k2, k3, k4⟩ := hmem p hp
    rw [(bs_el hR k2 k3).2]; exact k4) _ 0 (FT t) rfl (Nat.zero_le _) hUd (fun p hp => by
    rw [List.drop_zero] at hp
    obtain ⟨q, v, k1, _⟩ := hmem p hp
    exact ⟨q, k1⟩)
  rw [List.drop_zero] at g3
  refine ⟨H, H.st (bs0 t), ?_, g2, g3⟩
  have g1' : loopO m_goquery_Selection_Each_u_0 ((ddp [] (l.map (parN t))).map some, (), (ddp [] (l.map (parN t))).map some, ((((ddp [] (l.map (parN t))).map some).length : Nat) : Int), (0 : Int), (FT t).st (bs0 t)) = some ((ddp [] (l.map (parN t))).map some, H.st (bs0 t)) := by rw [List.length_map]; exact g1
  have hends := ends_of hR g2.ok g2.m hb (g2.ht hR hn 0) (by have := g2.len hR n; omega)
  simp only [m_impl_UnwrapOf, selected_eq hf hR hD, bind_some, Bool.not_true, cond_false]
  rw [store_st hR]
  simp only [m_goquery_Selection_Unwrap, m_goquery_Selection_Parent, parents_eq hR hll hok, m_goquery_pushStack, m_goquery_Selection_Each_u, g1', bind_some, hends]
end
theorem uq_tree' {t : List Node} (hR : RT t) {H : Fo} {n : Nat} : ∀ v ∈ tree t H n, UQ v.attrs := fun v hv => by
  obtain ⟨i, e⟩ := nodes_attrs n 0 v hv
  rw [e]
  exact uq_bs hR i
theorem fn_unwrapOf (t : List Node) (on : List Int) : m_laws_FnUnwrapOf (t, on) = some true := by
  simp only [m_laws_FnUnwrapOf, zz1, bind_some, m_laws_step7, cond_dec]
  cases hf : fits1 t with
  | false => rfl
  | true =>
    simp only [Bool.not_true, cond_false]
    by_cases hl1 : (2147483647 : Int) < (on.length : Int)
    · rw [if_pos hl1]
    rw [if_neg hl1]
    obtain ⟨n, hb, hn⟩ := big_ex
    obtain ⟨out, at', b, h1, h2⟩ := changedU (t := t) (on := on) hf (by omega) hb hn
    have hs : m_laws_sure7_u (t, 8, on, [], [], [], []) = some b := by simp only [m_laws_sure7_u, h1, bind_some]
    rw [hs, bind_some]
    cases b with
    | false => rfl
    | true =>
      obtain ⟨hR, l, H, rfl, hD, hok, hU, hall, rfl, rfl⟩ := h2 rfl
      have hlen := hR.len
      obtain ⟨H', S, g1, g2, g3⟩ := unwrapOf_eq hf hR hD hok hb hn
      rw [hall] at g3
      cases g3
      have hi' : m_impl_UnwrapOf_f (t, intsN l) = some (tree t H n, spots t H n, true) := by
        show (m_impl_UnwrapOf (t, intsN l, [])).map _ = _
        rw [g1]; rfl
      have htl : (tree t H n).length ≤ 200 := by
        have h1 : (tree t H n).length = (idsF H.kids n 0).length := nodesF_len n 0
        have h2 := hU.len hR n
        omega
      have ha := alike_refl (l := tree t H n) (by omega) (uq_tree' hR)
      have hsl := sameList_rf (spots t H n) (by simp [spots]; omega)
      simp only [Bool.not_true, cond_false, hi', bind_some, m_laws_as7_u, h1, cond_true, ha, hsl]
end Go.Proofs.Ytfmlpodcldhgdaa.V
