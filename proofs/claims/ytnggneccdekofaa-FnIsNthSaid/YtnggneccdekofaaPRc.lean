/-
  What the nodes of a grown tree hold. Plain facts.
-/
import Derived.Test.YtnggneccdekofaaPNthC
namespace Go.Proofs.Ytnggneccdekofaa.V
open Go

theorem rc_kind {t : List Node} (hR : RT t) {i : Nat} {v : Node} (hv : t[i]? = some v) {a e : Nat} : (rc t a e i).ty = 3 ↔ v.kind = 3 := by
  have hk := (hR.node i v hv).kd
  have : (rc t a e i).ty = (base v).ty := by simp [rc, bs0, hv]
  rw [this]
  unfold base
  rcases hk with h | h | h | h | h <;> simp [h]
theorem rc_data {t : List Node} {i : Nat} {v : Node} (hv : t[i]? = some v) (h3 : v.kind = 3) {a e : Nat} : (rc t a e i).data = v.tag := by
  simp [rc, bs0, hv, base, h3]
theorem hit_eq {t : List Node} (hR : RT t) {a c : Nat} {v w : Node} (hv : t[a]? = some v) (h3 : v.kind = 3) (hw : t[c]? = some w) (ty : Bool) {e : Nat} :
    hitK t a ty c = (decide ((rc t 0 e c).ty = 3) && (!ty || decide ((rc t 0 e c).data = (rc t 0 e a).data))) := by
  unfold hitK
  rw [kind_some hw, tag_some hw, tag_some hv, rc_data hv h3]
  by_cases hk : w.kind = 3
  · rw [rc_data hw hk, decide_eq_true ((rc_kind hR hw).2 hk), hk]
    have : (w.tag == v.tag) = decide (w.tag = v.tag) := by rw [Bool.eq_iff_iff]; simp
    rw [this]
    rfl
  · rw [decide_eq_false fun h => hk ((rc_kind hR hw).1 h)]
    simp [hk]
end Go.Proofs.Ytnggneccdekofaa.V
