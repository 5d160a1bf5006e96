/-
  Kinds of nodes; elements among a node's kids. Plain facts.
-/
import Derived.Test.YtpedmnlpccngiaaDoorPRight
set_option linter.unusedVariables false
set_option linter.unusedSimpArgs false
namespace Go.Proofs.YtpedmnlpccngiaaDoor.V
open Go

def kindN (t : List Node) (i : Nat) : Int := match t[i]? with
  | some v => v.kind
  | none => 0
theorem kind_some {t : List Node} {i : Nat} {v : Node} (h : t[i]? = some v) : kindN t i = v.kind := by simp [kindN, h]
/-- The places of a node's kids that are elements. -/
def elems (t : List Node) (a : Nat) : List Nat := (kidsN t a).filter fun c => kindN t c == 3
end Go.Proofs.YtpedmnlpccngiaaDoor.V
