/-
  What is written of a tree, by the program: the walk over the tree. Plain facts.
-/
import Derived.Test.YtpedmnlpccngiaaDoorPHe5
set_option linter.unusedVariables false
set_option linter.unusedSimpArgs false
namespace Go.Proofs.YtpedmnlpccngiaaDoor.V
open Go

set_option maxHeartbeats 2000000 in
theorem render1_eq {t : List Node} (hD : PD t) : ∀ (n a : Nat) (b : Bool) (acc : List UInt8), 4 ≤ a → a < t.length → sz t a ≤ n → acc.length + sz t a * 500000 ≤ 1000000000 → ∃ b', m_html_render1 n (((b, ()), ()), some a, acc, store t) = some (false, (b', ()), acc ++ ren t n a) := by
  have hR := hD.rt
  have h200 := hR.len
  intro n
  induction n with
  | zero =>
    intro a b acc h4 ha hn
    obtain ⟨_, _, _, h, _⟩ := hR.lam.ok a (Nat.zero_le _) ha
    omega
  | succ n ih =>
    intro a b acc h4a ha hn hb
    obtain ⟨v, hv, hvs, h1, hae⟩ := hR.lam.ok a (Nat.zero_le _) ha
    have hS := PN.sm hR hv
    have hLa := hR.lam.sub (Nat.zero_le _) ha
    have hkl : ((kidsN t a).flatMap (ren t n)).length ≤ (a + sz t a - (a + 1)) * 500000 := kids_len hLa (fun c _ h2 => ren_len hR n c (by omega)) (by omega) (by omega)
    have loop : ∀ (ks : List Nat) (j : Nat) (b : Bool) (acc : List UInt8), (kidsN t a).drop j = ks → acc.length + (ks.map fun c => sz t c).sum * 500000 ≤ 1000000000 →
        ∃ b', loopO (m_html_render1_4 (m_html_render1 n)) (((b, ()), ()), some a, (kidsN t a)[j]?, store t, acc) = some (.inl (((b', ()), ()), some a, store t, acc ++ ks.flatMap (ren t n))) := by
      intro ks
      induction ks with
      | nil =>
        intro j b acc hd _
        refine ⟨b, loopO_out ?_⟩
        have : (kidsN t a)[j]? = none := List.getElem?_eq_none (by simpa using hd)
        simp only [m_html_render1_4, this, Option.isNone_none, Bool.not_true, cond_false, List.flatMap_nil, List.append_nil]
      | cons c ks ihk =>
        intro j b acc hd hacc
        have hc : (kidsN t a)[j]? = some c := by
          have := List.getElem?_drop (xs := kidsN t a) (i := j) (j := 0)
          rw [hd] at this
          simpa using this.symm
        have hd1 : (kidsN t a).drop (j + 1) = ks := by
          rw [← List.drop_drop, hd]
          rfl
        obtain ⟨hac, hca⟩ := kids_mem hR.lam (Nat.zero_le _) ha (List.mem_of_getElem? hc)
        have hct : c < t.length := by omega
        obtain ⟨_, _, _, _, hce⟩ := hLa.ok c (by omega) hca
        simp only [List.map_cons, List.sum_cons, Nat.add_mul] at hacc
        have hrl := ren_len hR n c hct
        obtain ⟨b1, hb1⟩ := ih c b acc (by omega) hct (by omega) (Nat.le_trans (Nat.add_le_add_left (Nat.le_add_right (sz t c * 500000) _) acc.length) hacc)
        obtain ⟨b2, hb2⟩ := ihk (j + 1) b1 (acc ++ ren t n c) hd1 (by rw [List.length_append]; omega)
        refine ⟨b2, ?_⟩
        have hs : m_html_render1_4 (m_html_render1 n) (((b, ()), ()), some a, (kidsN t a)[j]?, store t, acc) = some (.nx (((b1, ()), ()), some a, (kidsN t a)[j + 1]?, store t, acc ++ ren t n c)) := by
          simp only [m_html_render1_4, hc, Option.isNone_some, Bool.not_false, cond_true]
          rw [hb1, bind_some]
          simp only [Bool.not_false, Bool.not_true, cond_false, bind_some, store_get hct]
          rw [kid_nxt hLa hae hc]
        rw [loopO_nx hs, hb2, List.flatMap_cons, List.append_assoc]
    have hsum : ∀ {f k : Nat}, a ≤ k → k ≤ a + sz t a → ((kidsF t f k (a + sz t a)).map fun c => sz t c).sum ≤ a + sz t a - k := by
      intro f
      induction f with
      | zero => intro k _ _; simp [kidsF]
      | succ f ihf =>
        intro k k1 k2
        rw [kidsF]
        by_cases hlt : k < a + sz t a
        · obtain ⟨w, _, _, w1, w2⟩ := hLa.ok k k1 hlt
          have := ihf (k := k + sz t k) (by omega) w2
          rw [if_pos hlt, List.map_cons, List.sum_cons]
          omega
        · rw [if_neg hlt]; simp
    have hsum' : ((kidsN t a).map fun c => sz t c).sum ≤ a + sz t a - (a + 1) := hsum (by omega) (by omega)
    have h5 := hS.text
    have h6 := hS.tag
    have h7 := opening_len hS
    have h8 := hS.al
    have h9 := esc_len v.text
    obtain ⟨v', hv', hc⟩ := (hD.pn a h4a ha).out
    obtain rfl : v' = v := by rw [hv] at hv'; exact (Option.some.inj hv').symm
    simp only [m_html_render1, b_html_render1, bind_some, store_get ha, cond_dec, ren, hv]
    rcases hc with ⟨k3, htag, hA⟩ | ⟨k4, h13⟩ | ⟨k5, hlet⟩
    · obtain ⟨q1, q2, q3, q4⟩ := rc_elt (e := t.length) hv k3
      rw [q1, q2, q4, if_neg (by decide), if_neg (by decide), if_neg (by decide), if_pos rfl, if_neg (by omega), if_neg (by omega)]
      rw [wb_eq b (n := 60) (c := 60) rfl acc (by omega), bind_some]
      simp only
      rw [wr_eq _ _ _ (by simp only [List.length_append, List.length_cons, List.length_nil]; omega), bind_some]
      simp only [List.length_map]
      obtain ⟨b1, hb1⟩ := attrs_loop (f := m_html_render1 n) hS a (store t) v'.attrs.length 0 true (acc ++ [60] ++ v'.tag) (by omega) (by simp only [List.length_append, List.length_cons, List.length_nil]; omega)
      rw [show loopO (m_html_render1_2 (m_html_render1 n)) (((true, ()), ()), some a, v'.attrs.map hattr, (v'.attrs.length : Int), (0 : Int), store t, acc ++ [60] ++ v'.tag) = _ from hb1, bind_some, selim_l]
      simp only [bind_some, store_get ha, q2, void_no htag, cond_false, List.drop_zero]
      have hol : (acc ++ [60] ++ v'.tag ++ v'.attrs.flatMap attrT ++ [62]).length = acc.length + (opening v').length := by
        simp only [opening, List.length_append, List.length_cons, List.length_nil]; omega
      have hol' : (acc ++ [60] ++ v'.tag ++ v'.attrs.flatMap attrT).length + 1 ≤ 2147483648 := by
        have : (acc ++ [60] ++ v'.tag ++ v'.attrs.flatMap attrT ++ [62]).length = (acc ++ [60] ++ v'.tag ++ v'.attrs.flatMap attrT).length + 1 := by rw [List.length_append]; rfl
        omega
      have hop : acc ++ [60] ++ v'.tag ++ v'.attrs.flatMap attrT ++ [62] = acc ++ opening v' := by simp [opening]
      rw [wb_eq b1 (n := 62) (c := 62) rfl _ hol', bind_some, hop]
      obtain ⟨b2, hb2⟩ := loop (kidsN t a) 0 true (acc ++ opening v') (by simp) (by rw [List.length_append]; omega)
      have hfst := kid_fst hLa hae
      simp only [hfst, lit_no ha hv k3 htag, bind_some, cond_false]
      have tail : ∀ W, W = loopO (m_html_render1_4 (m_html_render1 n)) (((true, ()), ()), some a, (kidsN t a)[0]?, store t, acc ++ opening v') → W = some (.inl (((b2, ()), ()), some a, store t, acc ++ opening v' ++ (kidsN t a).flatMap (ren t n))) := fun W hW => hW.trans hb2
      rw [hb2]
      simp only [bind_some, selim_l]
      have hwl : (acc ++ opening v' ++ (kidsN t a).flatMap (ren t n)).length ≤ 1000000000 := by
        rw [List.length_append, List.length_append]; omega
      rw [wr_eq b2 [60, 47] _ (by simp only [List.length_cons, List.length_nil]; omega)]
      simp only [bind_some, store_get ha, q2]
      rw [wr_eq true v'.tag _ (by simp only [List.length_append, List.length_cons, List.length_nil] at hwl ⊢; omega)]
      simp only [bind_some]
      rw [wb_eq true (n := 62) (c := 62) rfl _ (by simp only [List.length_append, List.length_cons, List.length_nil] at hwl ⊢; omega)]
      simp only [bind_some]
      refine ⟨true, ?_⟩
      have fin : acc ++ opening v' ++ (kidsN t a).flatMap (ren t n) ++ [60, 47] ++ v'.tag ++ [62] = acc ++ (opening v' ++ ((kidsN t a).flatMap (ren t n) ++ ([60, 47] ++ (v'.tag ++ [62])))) := by simp
      rw [fin]
      have w1 : ¬ v'.tag = [112, 114, 101] := word_no htag (by decide)
      have w2 : ¬ v'.tag = [108, 105, 115, 116, 105, 110, 103] := word_no htag (by decide)
      have w3 : ¬ v'.tag = [116, 101, 120, 116, 97, 114, 101, 97] := word_no htag (by decide)
      simp only [if_neg w1, if_neg w2, if_neg w3]
      generalize (some (false, (true, ()), acc ++ (opening v' ++ ((kidsN t a).flatMap (ren t n) ++ ([60, 47] ++ (v'.tag ++ [62])))))) = RR
      cases hk0 : (kidsN t a)[0]? with
      | none => rfl
      | some c =>
        obtain ⟨hac, hca⟩ := kids_mem hR.lam (Nat.zero_le _) ha (List.mem_of_getElem? hk0)
        have hct : c < t.length := by omega
        obtain ⟨r, hr⟩ := prefix_ex (rc t 0 t.length c).data
        simp only [Option.isNone_some, Bool.not_false, cond_true, bind_some, store_get hct]
        rw [hr]
        by_cases hty : (rc t 0 t.length c).ty = 1
        · rw [if_pos hty, bind_some]
          cases r <;> rfl
        · rw [if_neg hty]
    · have hty : (rc t 0 t.length a).ty = 1 := by rw [rc_ty hv, base_ty]; simp [k4]
      have hdt : (rc t 0 t.length a).data = v'.text := by simp [rc, bs0, hv, base, k4]
      rw [hty, hdt, if_neg (by decide), if_pos rfl, if_pos k4, escape_eq _ _ _ (by omega), bind_some]
      exact ⟨true, rfl⟩
    · have hty : (rc t 0 t.length a).ty = 4 := by rw [rc_ty hv, base_ty]; simp [k5]
      have hdt : (rc t 0 t.length a).data = v'.text := by simp [rc, bs0, hv, base, k5]
      rw [hty, hdt, if_neg (by decide), if_neg (by decide), if_neg (by decide), if_neg (by decide), if_pos rfl, if_neg (by omega), if_pos k5]
      rw [wr_eq _ _ _ (by simp only [List.length_cons, List.length_nil]; omega), bind_some]
      simp only
      obtain ⟨b1, hb1⟩ := comment_eq hlet h5 true (acc ++ [60, 33, 45, 45]) (by simp only [List.length_append, List.length_cons, List.length_nil]; omega)
      rw [hb1, bind_some]
      simp only
      rw [wr_eq _ _ _ (by simp only [List.length_append, List.length_cons, List.length_nil]; omega), bind_some]
      exact ⟨true, by simp⟩
end Go.Proofs.YtpedmnlpccngiaaDoor.V
