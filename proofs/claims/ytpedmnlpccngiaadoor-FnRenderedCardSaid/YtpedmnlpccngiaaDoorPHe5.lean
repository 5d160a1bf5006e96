/-
  What is written of a tree, by the program. Plain facts.
-/
import Derived.Test.YtpedmnlpccngiaaDoorPHe4
import Derived.Test.YtpedmnlpccngiaaDoorPKids
import Derived.Test.YtpedmnlpccngiaaDoorPSel
import Derived.Test.YtpedmnlpccngiaaDoorGoqR
set_option linter.unusedVariables false
set_option linter.unusedSimpArgs false
namespace Go.Proofs.YtpedmnlpccngiaaDoor.V
open Go

theorem u8_no {c d : UInt8} (h : c ≠ d) {n : Int} (hn : (d.toNat : Int) = n) : ¬ (c.toNat : Int) = n := fun e => h (by
  have : c.toNat = d.toNat := by exact_mod_cast e.trans hn.symm
  exact UInt8.toNat_inj.1 this)
theorem comment_eq {s : List UInt8} (hs : ∀ c ∈ s, c ≠ 38 ∧ c ≠ 62) (hl : s.length ≤ 4000) (b : Bool) (acc : List UInt8) (ha : acc.length ≤ 1000000000) : ∃ b', m_html_escapeComment (((b, ()), ()), s, acc) = some ((), (b', ()), acc ++ s) := by
  have key : ∀ (m k : Nat), k + m = s.length → loopO m_html_escapeComment_0 (((b, ()), ()), s, (0 : Int), (k : Int), acc) = some (.inl (((b, ()), ()), s, (0 : Int), acc)) := by
    intro m
    induction m with
    | zero =>
      intro k hk
      refine loopO_out ?_
      simp only [m_html_escapeComment_0, cond_dec]
      rw [if_neg (by omega)]
    | succ m ih =>
      intro k hk
      obtain ⟨c, hc⟩ := get_lt (l := s) (k := k) (by omega)
      obtain ⟨n1, n2⟩ := hs c (List.mem_of_getElem? hc)
      have t1 : ¬ (c.toNat : Int) = 38 := u8_no n1 rfl
      have t2 : ¬ (c.toNat : Int) = 62 := u8_no n2 rfl
      have h0 : m_html_escapeComment_0 (((b, ()), ()), s, (0 : Int), (k : Int), acc) = some (.nx (((b, ()), ()), s, (0 : Int), ((k + 1 : Nat) : Int), acc)) := by
        simp only [m_html_escapeComment_0, cond_dec]
        rw [if_pos (by omega), atI_nat, hc, bind_some, if_neg t1, if_neg t2, w64 (by omega) (by omega)]
        rfl
      rw [loopO_nx h0, ih (k + 1) (by omega)]
  simp only [m_html_escapeComment, cond_dec]
  by_cases h0 : (s.length : Int) = 0
  · rw [if_pos h0]
    have : s = [] := List.length_eq_zero_iff.1 (by omega)
    subst this
    exact ⟨b, by simp⟩
  · rw [if_neg h0, show loopO m_html_escapeComment_0 (((b, ()), ()), s, (0 : Int), (0 : Int), acc) = _ from key s.length 0 (by omega), bind_some, selim_l]
    have e2 : subL s (0 : Int) (s.length : Int) = some s := by
      have := subL_nat' s (lo := 0) (hi := s.length) (by omega) (by omega)
      rw [List.take_length, List.drop_zero] at this
      exact this
    simp only
    rw [if_pos (by omega), e2, bind_some, wr_eq _ _ _ (by omega), bind_some]
    exact ⟨true, rfl⟩
theorem prefix_ex (s : List UInt8) : ∃ r, m_strings_HasPrefix (s, [(10 : UInt8)]) = some r := by
  simp only [m_strings_HasPrefix, m_internal_stringslite_HasPrefix, cond_dec]
  by_cases h : ((List.length [(10 : UInt8)] : Nat) : Int) ≤ (s.length : Int)
  · have h' : 1 ≤ s.length := by have : (List.length [(10 : UInt8)]) = 1 := rfl; omega
    have e : subL s (0 : Int) ((List.length [(10 : UInt8)] : Nat) : Int) = some ((s.take 1).drop 0) := subL_nat' s (lo := 0) (hi := 1) (by omega) h'
    rw [if_pos h, e, bind_some]
    exact ⟨_, rfl⟩
  · rw [if_neg h]
    exact ⟨_, rfl⟩
theorem void_all : ((body :: ptags).all fun s => !gmem 3 s) = true := by kernel_rfl
theorem void_no {s : List UInt8} (h : s ∈ body :: ptags) : gmem 3 s = false := by
  have := List.all_eq_true.1 void_all s h
  simpa using this
def words : List (List UInt8) := [[105, 102, 114, 97, 109, 101], [110, 111, 101, 109, 98, 101, 100], [110, 111, 102, 114, 97, 109, 101, 115], [110, 111, 115, 99, 114, 105, 112, 116], [112, 108, 97, 105, 110, 116, 101, 120, 116], [115, 99, 114, 105, 112, 116], [115, 116, 121, 108, 101], [120, 109, 112], [112, 114, 101], [108, 105, 115, 116, 105, 110, 103], [116, 101, 120, 116, 97, 114, 101, 97]]
theorem word_all : ((body :: ptags).all fun s => !words.contains s) = true := by decide
theorem word_no {s w : List UInt8} (h : s ∈ body :: ptags) (hw : w ∈ words) : ¬ s = w := by
  have := List.all_eq_true.1 word_all s h
  rintro rfl
  rw [List.contains_iff_mem.2 hw] at this
  cases this
theorem rc_elt {t : List Node} {e i : Nat} {v : Node} (hv : t[i]? = some v) (h3 : v.kind = 3) : (rc t 0 e i).ty = 3 ∧ (rc t 0 e i).data = v.tag ∧ (rc t 0 e i).ns = [] ∧ (rc t 0 e i).attrs = v.attrs.map hattr := by
  simp [rc, bs0, hv, base, h3]
theorem lit_no {t : List Node} {a : Nat} (ha : a < t.length) {v : Node} (hv : t[a]? = some v) (h3 : v.kind = 3) (ht : v.tag ∈ body :: ptags) : m_html_childTextNodesAreLiteral (some a, store t) = some false := by
  obtain ⟨_, q2, q3, _⟩ := rc_elt (e := t.length) hv h3
  simp only [m_html_childTextNodesAreLiteral, bind_some, store_get ha, cond_dec, q2, q3]
  rw [if_neg (by simp)]
  repeat rw [if_neg (word_no ht (by decide))]
theorem attrs_loop {f : Tup p_html_render1 → Option (Tup q_html_render1)} {v : Node} (hS : Sm v) (a : Nat) (hs : List HN) : ∀ (m k : Nat) (b : Bool) (acc : List UInt8), k + m = v.attrs.length → acc.length + m * 21500 ≤ 1000000000 → ∃ b', loopO (m_html_render1_2 f) (((b, ()), ()), some a, v.attrs.map hattr, (v.attrs.length : Int), (k : Int), hs, acc) = some (.inl (((b', ()), ()), some a, hs, acc ++ (v.attrs.drop k).flatMap attrT)) := by
  have hal := hS.al
  intro m
  induction m with
  | zero =>
    intro k b acc hk hb
    refine ⟨b, loopO_out ?_⟩
    simp only [m_html_render1_2, cond_dec]
    rw [if_neg (by omega), List.drop_eq_nil_of_le (by omega)]
    simp
  | succ m ih =>
    intro k b acc hk hb
    obtain ⟨w, hw⟩ := get_lt (l := v.attrs) (k := k) (by omega)
    have hm := List.mem_of_getElem? hw
    have h1 := hS.key w hm
    have h2 := hS.val w hm
    have h3 := esc_len w.val
    have h4 := attrT_len h1 h2
    have hg : (v.attrs.map hattr)[k]? = some (hattr w) := by rw [List.getElem?_map, hw]; rfl
    obtain ⟨b', hb'⟩ := ih (k + 1) true (acc ++ attrT w) (by omega) (by rw [List.length_append]; omega)
    refine ⟨b', ?_⟩
    have hs : m_html_render1_2 f (((b, ()), ()), some a, v.attrs.map hattr, (v.attrs.length : Int), (k : Int), hs, acc) = some (.nx (((true, ()), ()), some a, v.attrs.map hattr, (v.attrs.length : Int), ((k + 1 : Nat) : Int), hs, acc ++ attrT w)) := by
      simp only [m_html_render1_2, cond_dec]
      rw [if_pos (by omega), atI_nat, hg, bind_some, wb_eq b (n := 32) (c := 32) rfl acc (by omega), bind_some]
      simp only [hattr, nil_bytes, ne_eq, not_true_eq_false, if_false]
      rw [wr_eq _ _ _ (by simp; omega), bind_some]
      simp only
      rw [wr_eq _ _ _ (by simp; omega), bind_some]
      simp only
      rw [escape_eq _ _ _ (by simp; omega), bind_some]
      simp only
      rw [wb_eq true (n := 34) (c := 34) rfl _ (by simp; omega), bind_some, w64 (by omega) (by omega)]
      simp [attrT]
    rw [loopO_nx hs, hb', drop_at hw, List.flatMap_cons, List.append_assoc]
end Go.Proofs.YtpedmnlpccngiaaDoor.V
