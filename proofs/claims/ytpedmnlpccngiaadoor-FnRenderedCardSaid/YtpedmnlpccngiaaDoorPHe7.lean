/-
  FnRendered, FnOuter, as plain functions.
-/
import Derived.Test.YtpedmnlpccngiaaDoorPHe6
import Derived.Test.YtpedmnlpccngiaaDoorLwRen
import Derived.Test.YtpedmnlpccngiaaDoorLwOut
set_option linter.unusedVariables false
set_option linter.unusedSimpArgs false
namespace Go.Proofs.YtpedmnlpccngiaaDoor.V
open Go

theorem hrender_eq {t : List Node} (hD : PD t) {a : Nat} (h4 : 4 ≤ a) (ha : a < t.length) : ∃ b', m_html_Render (((false, ()), ()), some a, [], store t) = some (false, (b', ()), ren t big a) := by
  have h200 := hD.rt.len
  obtain ⟨_, _, _, h1, hae⟩ := hD.rt.lam.ok a (Nat.zero_le _) ha
  have hbig : 200 ≤ big := by have : big = 1099511627776 := rfl; omega
  have hb0 : ([] : List UInt8).length + sz t a * 500000 ≤ 1000000000 := by
    have : ([] : List UInt8).length = 0 := rfl
    omega
  obtain ⟨b', hb'⟩ := render1_eq hD big a false [] h4 ha (by omega) hb0
  refine ⟨b', ?_⟩
  simp only [m_html_Render, m_html_render]
  generalize big = N at hb' ⊢
  rw [hb', bind_some]
  rfl
theorem outerHtml_eq {t : List Node} (hD : PD t) {l : List Int} {a : Nat} (hl : l[0]? = some (a : Int)) (h4 : 4 ≤ a) (ha : a < t.length) : m_goquery_OuterHtml (pts l, store t) = some (ren t big a, false) := by
  have h200 := hD.rt.len
  obtain ⟨_, _, _, h1, hae⟩ := hD.rt.lam.ok a (Nat.zero_le _) ha
  obtain ⟨b', hb'⟩ := hrender_eq hD h4 ha
  have hll := (List.getElem?_eq_some_iff.1 hl).1
  have hrl := ren_len hD.rt big a ha
  have hp : (pts l)[0]? = some (some a) := by rw [pts_get, hl]; rfl
  have hpl : ¬ ((pts l).length : Int) = 0 := by rw [pts_len]; omega
  generalize big = N at hb' hrl ⊢
  simp only [m_goquery_OuterHtml, m_goquery_Render, m_goquery_Selection_Length, m_goquery_Selection_Get, bind_some, cond_dec]
  rw [if_neg hpl, if_neg (by omega), atI_zero, hp, bind_some, bind_some, hb']
  simp only [bind_some, m_strings_Builder_String]
  have : Nat.ble (ren t N a).length 2147483648 = true := by rw [Nat.ble_eq]; omega
  rw [this]
  rfl
theorem renderf (t : List Node) (i : Int) : m_impl_Render_f (t, i) = (m_impl_Render (t, i, [])).map fun r => (r.1, r.2.1) := rfl
theorem outerf (t : List Node) (l : List Int) : m_impl_OuterOf_f (t, l) = (m_impl_OuterOf (t, l, [])).map fun r => (r.1, r.2.1) := rfl
theorem fn_rendered (t : List Node) (i : Int) : m_laws_FnRendered (t, i) = some true := by
  simp only [m_laws_FnRendered, cond_dec, not_cond]
  rw [zz1, bind_some]
  cases hf : fits1 t
  · rfl
  rw [if_pos rfl]
  obtain ⟨b, hb, hb'⟩ := plainDoc_ex t hf
  rw [hb, bind_some]
  cases b
  · rfl
  rw [if_pos rfl]
  have hD := hb' rfl
  have h200 := hD.rt.len
  by_cases h4 : i < 4
  · rw [if_pos h4]
  rw [if_neg h4]
  by_cases hl : (t.length : Int) ≤ i
  · rw [if_pos hl]
  rw [if_neg hl]
  obtain ⟨a, rfl⟩ := Int.eq_ofNat_of_zero_le (a := i) (by omega)
  have h4a : 4 ≤ a := by omega
  have ha : a < t.length := by omega
  have hA : Asc t [(a : Int)] := ⟨fun j v hj => by
    cases j with
    | zero => simp at hj; subst hj; omega
    | succ j => simp at hj, fun j v w _ hw => by simp at hw⟩
  obtain ⟨_, _, _, h1, hae⟩ := hD.rt.lam.ok a (Nat.zero_le _) ha
  have hbig : 200 ≤ big := by have : big = 1099511627776 := rfl; omega
  have hr : m_impl_Render_f (t, (a : Int)) = some (ren t big a, true) := by
    have e1 := outerHtml_eq hD (l := [(a : Int)]) (a := a) rfl h4a ha
    rw [renderf]
    generalize big = N at e1 ⊢
    simp only [m_impl_Render]
    rw [chosen_eq t [(a : Int)] hf hD.rt hA, bind_some]
    simp only [Bool.not_true, cond_false]
    rw [e1]
    rfl
  have hs := rendered_eq hD big a h4a ha (by omega)
  generalize big = N at hr hs ⊢
  rw [hr, bind_some]
  simp only [cond_true]
  rw [hs, bind_some]
  simp
theorem fn_outer (t : List Node) (l : List Int) : m_laws_FnOuter (t, l) = some true := by
  simp only [m_laws_FnOuter, cond_dec, not_cond]
  rw [zz1, bind_some]
  cases hf : fits1 t
  · rfl
  rw [if_pos rfl]
  by_cases hl : (2147483647 : Int) < (l.length : Int)
  · rw [if_pos hl]
  rw [if_neg hl]
  obtain ⟨b, hb, hb'⟩ := plainDoc_ex t hf
  rw [hb, bind_some]
  cases b
  · rfl
  rw [if_pos rfl]
  have hD := hb' rfl
  have h200 := hD.rt.len
  obtain ⟨b, hO, hO'⟩ := order_ex t l (by omega)
  rw [hO, bind_some]
  cases b
  · rfl
  rw [if_pos rfl]
  have hA := hO' rfl
  by_cases h0 : (l.length : Int) = 0
  · rw [if_pos h0]
  rw [if_neg h0]
  obtain ⟨v, hv⟩ := get_lt (l := l) (k := 0) (by omega)
  have hv' : atI l (0 : Int) = some v := by rw [atI_zero]; exact hv
  rw [hv', bind_some]
  by_cases h4 : v < 4
  · rw [if_pos h4]
  rw [if_neg h4]
  have hbd := hA.bd 0 v hv
  obtain ⟨a, rfl⟩ := Int.eq_ofNat_of_zero_le hbd.1
  have h4a : 4 ≤ a := by omega
  have ha : a < t.length := by omega
  obtain ⟨_, _, _, h1, hae⟩ := hD.rt.lam.ok a (Nat.zero_le _) ha
  have hbig : 200 ≤ big := by have : big = 1099511627776 := rfl; omega
  have hr : m_impl_OuterOf_f (t, l) = some (ren t big a, true) := by
    have e1 := outerHtml_eq hD (l := l) (a := a) hv h4a ha
    rw [outerf]
    generalize big = N at e1 ⊢
    simp only [m_impl_OuterOf]
    rw [chosen_eq t l hf hD.rt hA, bind_some]
    simp only [Bool.not_true, cond_false]
    rw [e1]
    rfl
  have hs := rendered_eq hD big a h4a ha (by omega)
  generalize big = N at hr hs ⊢
  rw [hr, bind_some]
  simp only [cond_true]
  rw [bind_some, hs, bind_some]
  simp
end Go.Proofs.YtpedmnlpccngiaaDoor.V
