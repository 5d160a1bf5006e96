/-
  What is written of a tree, by the specification. Plain facts.
-/
import Derived.Test.YtpedmnlpccngiaaDoorPHe3
set_option linter.unusedVariables false
set_option linter.unusedSimpArgs false
namespace Go.Proofs.YtpedmnlpccngiaaDoor.V
open Go

theorem name_len {s : List UInt8} (h : m_spec_Name s = some true) : s.length ≤ 40 := by
  simp only [m_spec_Name, cond_dec] at h
  by_cases h0 : (s.length : Int) = 0
  · rw [if_pos h0] at h; cases h
  rw [if_neg h0] at h
  by_cases h1 : (40 : Int) < s.length
  · rw [if_pos h1] at h; cases h
  omega
def attrT (a : Attr) : List UInt8 := 32 :: (a.key ++ ([61, 34] ++ (esc a.val ++ [34])))
def opening (v : Node) : List UInt8 := 60 :: (v.tag ++ (v.attrs.flatMap attrT ++ [62]))
def ren (t : List Node) : Nat → Nat → List UInt8
  | 0, _ => []
  | n + 1, a => match t[a]? with
    | none => []
    | some v => if v.kind = 4 then esc v.text else if v.kind = 5 then [60, 33, 45, 45] ++ v.text ++ [45, 45, 62]
      else opening v ++ ((kidsN t a).flatMap (ren t n) ++ ([60, 47] ++ (v.tag ++ [62])))
/-- The sizes of an element's parts. -/
structure Sm (v : Node) : Prop where
  tag : v.tag.length ≤ 40
  text : v.text.length ≤ 4000
  al : v.attrs.length ≤ 20
  key : ∀ a ∈ v.attrs, a.key.length ≤ 40
  val : ∀ a ∈ v.attrs, a.val.length ≤ 4000
theorem PN.sm {t : List Node} {k : Nat} (hR : RT t) {v : Node} (hv : t[k]? = some v) : Sm v := by
  have hN := hR.node k v hv
  obtain ⟨x1, x2⟩ := hR.txt k v hv
  have hval : ∀ a ∈ v.attrs, a.val.length ≤ 4000 := fun a ha => by
    obtain ⟨j, hj⟩ := List.mem_iff_getElem?.1 ha
    exact x2 j a hj
  by_cases k3 : v.kind = 3
  · refine ⟨name_len (hN.k3 k3).2.2, x1, (hN.k3 k3).2.1, fun a ha => ?_, hval⟩
    obtain ⟨j, hj⟩ := List.mem_iff_getElem?.1 ha
    exact name_len ((hN.k5 k3).nm j a hj)
  · obtain ⟨e1, e2⟩ := hN.k4 k3
    exact ⟨by rw [e1]; simp, x1, by rw [e2]; simp, by rw [e2]; simp, hval⟩
theorem attrT_len {a : Attr} (h1 : a.key.length ≤ 40) (h2 : a.val.length ≤ 4000) : (attrT a).length ≤ 21000 := by
  have := esc_len a.val
  simp only [attrT, List.length_cons, List.length_append, List.length_nil]
  omega
theorem attrs_len : ∀ {l : List Attr}, (∀ a ∈ l, a.key.length ≤ 40) → (∀ a ∈ l, a.val.length ≤ 4000) → (l.flatMap attrT).length ≤ l.length * 21000
  | [], _, _ => by simp
  | a :: l, h1, h2 => by
    have := attrT_len (h1 a (by simp)) (h2 a (by simp))
    have := attrs_len (l := l) (fun b hb => h1 b (by simp [hb])) (fun b hb => h2 b (by simp [hb]))
    rw [List.flatMap_cons, List.length_append, List.length_cons]
    omega
theorem opening_len {v : Node} (h : Sm v) : (opening v).length ≤ 421000 := by
  have := attrs_len h.key h.val
  have := h.al
  have := h.tag
  simp only [opening, List.length_cons, List.length_append, List.length_nil]
  omega
theorem kids_len {t : List Node} {lo hi : Nat} (hL : Lam t lo hi) {g : Nat → List UInt8} (hg : ∀ c, lo ≤ c → c < hi → (g c).length ≤ sz t c * 500000) : ∀ {f k : Nat}, lo ≤ k → k ≤ hi → ((kidsF t f k hi).flatMap g).length ≤ (hi - k) * 500000
  | 0, k, _, _ => by simp [kidsF]
  | f + 1, k, h0, h => by
    rw [kidsF]
    by_cases hk : k < hi
    · obtain ⟨v, _, _, h3, h4⟩ := hL.ok k h0 hk
      have h5 := hg k h0 hk
      have h6 := kids_len hL hg (f := f) (k := k + sz t k) (by omega) h4
      rw [if_pos hk, List.flatMap_cons, List.length_append]
      omega
    · rw [if_neg hk]; simp
theorem ren_len {t : List Node} (hR : RT t) : ∀ (n a : Nat), a < t.length → (ren t n a).length ≤ sz t a * 500000 := by
  intro n
  induction n with
  | zero => intro a ha; simp [ren]
  | succ n ih =>
    intro a ha
    obtain ⟨v, hv, _, h1, hae⟩ := hR.lam.ok a (Nat.zero_le _) ha
    have hS := PN.sm hR hv
    have hLa := hR.lam.sub (Nat.zero_le _) ha
    have hk : ((kidsN t a).flatMap (ren t n)).length ≤ (a + sz t a - (a + 1)) * 500000 := kids_len hLa (fun c _ h2 => ih c (by omega)) (by omega) (by omega)
    simp only [ren, hv]
    have h4 := hS.text
    have h5 := hS.tag
    have h6 := opening_len hS
    have h7 := esc_len v.text
    split
    · omega
    split
    · simp only [List.length_append, List.length_cons, List.length_nil]; omega
    · simp only [List.length_append, List.length_cons, List.length_nil]; omega
theorem opening_loop {v : Node} (hS : Sm v) (hA : NA v.attrs) : ∀ (m k : Nat) (out : List UInt8), k + m = v.attrs.length → out.length + m * 30000 ≤ 1000000000 → loopO m_spec_Opening_0 (v, out, (k : Int)) = some (out ++ (v.attrs.drop k).flatMap attrT) := by
  have hal := hS.al
  intro m
  induction m with
  | zero =>
    intro k out hk hb
    refine loopO_out ?_
    simp only [m_spec_Opening_0, cond_dec]
    rw [if_neg (by omega), List.drop_eq_nil_of_le (by omega)]
    simp
  | succ m ih =>
    intro k out hk hb
    obtain ⟨a, ha⟩ := get_lt (l := v.attrs) (k := k) (by omega)
    have hm := List.mem_of_getElem? ha
    have h1 := hS.key a hm
    have h2 := hS.val a hm
    have h3 := esc_len a.val
    have h4 := attrT_len h1 h2
    have hs : m_spec_Opening_0 (v, out, (k : Int)) = some (.nx (v, out ++ attrT a, ((k + 1 : Nat) : Int))) := by
      simp only [m_spec_Opening_0, cond_dec]
      rw [if_pos (by omega), atI_nat, ha, bind_some, catS_some (by simp; omega), bind_some, catS_some (by simp; omega), bind_some, bind_some, escaped_eq (hA k a ha) h2, bind_some, catS_some (by simp; omega), bind_some, catS_some (by simp; omega), bind_some, catS_some (by simp; omega), bind_some, w64 (by omega) (by omega)]
      simp [attrT]
    rw [loopO_nx hs, ih (k + 1) _ (by omega) (by rw [List.length_append]; omega), drop_at ha, List.flatMap_cons, List.append_assoc]
theorem opening_eq {v : Node} (hS : Sm v) (hA : NA v.attrs) : m_spec_Opening v = some (opening v) := by
  have h1 := hS.tag
  have h2 := hS.al
  have h3 := attrs_len hS.key hS.val
  simp only [m_spec_Opening]
  rw [catS_some (by simp; omega), bind_some]
  have := opening_loop hS hA v.attrs.length 0 ([60] ++ v.tag) (by omega) (by simp; omega)
  rw [show loopO m_spec_Opening_0 ({ kind := v.kind, tag := v.tag, text := v.text, attrs := v.attrs, size := v.size }, [60] ++ v.tag, (0 : Int)) = _ from this, bind_some, catS_some (by simp only [List.length_append, List.drop_zero, List.length_cons, List.length_nil]; omega), bind_some]
  simp [opening]
theorem rendered_eq {t : List Node} (hD : PD t) : ∀ (n a : Nat), 4 ≤ a → a < t.length → sz t a ≤ n → m_spec_Rendered n (t, (a : Int)) = some (ren t n a) := by
  have hR := hD.rt
  have h200 := hR.len
  intro n
  induction n with
  | zero =>
    intro a h4 ha hn
    obtain ⟨_, _, _, h, _⟩ := hR.lam.ok a (Nat.zero_le _) ha
    omega
  | succ n ih =>
    intro a h4a ha hn
    obtain ⟨v, hv, hvs, h1, hae⟩ := hR.lam.ok a (Nat.zero_le _) ha
    have hS := PN.sm hR hv
    have hLa := hR.lam.sub (Nat.zero_le _) ha
    have hk : ((kidsN t a).flatMap (ren t n)).length ≤ (a + sz t a - (a + 1)) * 500000 := kids_len hLa (fun c _ h2 => ren_len hR n c (by omega)) (by omega) (by omega)
    have key : ∀ (f k : Nat) (out : List UInt8), a + 1 ≤ k → k ≤ a + sz t a → a + sz t a ≤ k + f → out.length + (a + sz t a - k) * 500000 ≤ 1000000000 → loopO (m_spec_Rendered_0 (m_spec_Rendered n)) (t, (a : Int), v, out, (k : Int)) = some (v, out ++ (kidsF t f k (a + sz t a)).flatMap (ren t n)) := by
      intro f
      induction f with
      | zero =>
        intro k out k1 k2 k3 hb
        refine loopO_out ?_
        simp only [m_spec_Rendered_0, cond_dec, hvs]
        rw [w64 (by omega) (by omega), if_neg (by omega)]
        simp [kidsF]
      | succ f ihf =>
        intro k out k1 k2 k3 hb
        rw [kidsF]
        by_cases hlt : k < a + sz t a
        · obtain ⟨w, hw, hws, hw1, hwe⟩ := hLa.ok k (by omega) hlt
          have hrl := ren_len hR n k (by omega)
          have hs : m_spec_Rendered_0 (m_spec_Rendered n) (t, (a : Int), v, out, (k : Int)) = some (.nx (t, (a : Int), v, out ++ ren t n k, ((k + sz t k : Nat) : Int))) := by
            simp only [m_spec_Rendered_0, cond_dec, hvs]
            rw [w64 (by omega) (by omega), if_pos (by omega), ih k (by omega) (by omega) (by omega), bind_some, catS_some (by omega), bind_some, atI_nat, hw, bind_some, hws, w64 (by omega) (by omega)]
            rfl
          rw [loopO_nx hs, ihf (k + sz t k) _ (by omega) hwe (by omega) (by rw [List.length_append]; omega), if_pos hlt, List.flatMap_cons, List.append_assoc]
        · refine loopO_out ?_
          simp only [m_spec_Rendered_0, cond_dec, hvs]
          rw [w64 (by omega) (by omega), if_neg (by omega), if_neg hlt]
          simp
    have hb0 : ([] : List UInt8).length + (a + sz t a - (a + 1)) * 500000 ≤ 1000000000 := by
      have : ([] : List UInt8).length = 0 := rfl
      omega
    have hloop := key (sz t a) (a + 1) [] (by omega) (by omega) (by omega) hb0
    rw [List.nil_append] at hloop
    have h5 := hS.text
    have h6 := hS.tag
    have h7 := opening_len hS
    obtain ⟨v', hv', hc⟩ := (hD.pn a h4a ha).out
    obtain rfl : v' = v := by rw [hv] at hv'; exact (Option.some.inj hv').symm
    simp only [m_spec_Rendered, b_spec_Rendered, cond_dec, ren, hv]
    rw [atI_nat, hv, bind_some]
    rcases hc with ⟨k3, _, hA⟩ | ⟨k4, h13⟩ | ⟨k5, _⟩
    · rw [if_neg (by omega), if_neg (by omega), if_neg (by omega), if_neg (by omega), w64 (by omega) (by omega)]
      rw [show loopO (m_spec_Rendered_0 (m_spec_Rendered n)) (t, (a : Int), { kind := v'.kind, tag := v'.tag, text := v'.text, attrs := v'.attrs, size := v'.size }, [], (a : Int) + 1) = _ from hloop, bind_some]
      have hk' : ((kidsF t (sz t a) (a + 1) (a + sz t a)).flatMap (ren t n)).length ≤ (a + sz t a - (a + 1)) * 500000 := hk
      rw [show m_spec_Opening { kind := v'.kind, tag := v'.tag, text := v'.text, attrs := v'.attrs, size := v'.size } = _ from opening_eq hS hA, bind_some]
      simp only
      rw [catS_some (by omega), bind_some, catS_some (by simp only [List.length_append, List.length_cons, List.length_nil]; omega), bind_some, catS_some (by simp only [List.length_append, List.length_cons, List.length_nil]; omega), bind_some, catS_some (by simp only [List.length_append, List.length_cons, List.length_nil]; omega), bind_some]
      simp only [kidsN, List.append_assoc]
    · rw [if_pos k4, if_pos k4, escaped_eq h13 h5, bind_some]
    · rw [if_neg (by omega), if_pos k5, if_neg (by omega), if_pos k5, catS_some (by simp; omega), bind_some, catS_some (by simp; omega), bind_some]
end Go.Proofs.YtpedmnlpccngiaaDoor.V
