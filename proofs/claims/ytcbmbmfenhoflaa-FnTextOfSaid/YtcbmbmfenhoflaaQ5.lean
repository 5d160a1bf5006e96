/-
  Plain facts and an evaluator for what a law needs.
-/
import Derived.Test.YtcbmbmfenhoflaaQ4
set_option linter.unusedVariables false
set_option linter.unusedSimpArgs false
namespace Go.Proofs.Ytcbmbmfenhoflaa.V
open Go Go.Proofs
abbrev p_laws_FnTextOf : Pt := [(0, .lst .node), (1, .lst .int)]
abbrev q_laws_FnTextOf : Pt := [(0, .bool)]
noncomputable def m_laws_FnTextOf : Tup p_laws_FnTextOf → Option (Tup q_laws_FnTextOf) := fun (x : List Node × List Int) => Option.bind (m_laws_zzFits1 x.1) fun (r : Bool) => bif !r then some true else bif decide ((2147483647 : Int) < (↑(List.length x.2) : Int)) then some true else Option.bind (m_spec_Right x.1) fun (r : Bool) => bif !r then some true else Option.bind (m_spec_Order (x.1, x.2)) fun (r : Bool) => bif !r then some true else Option.bind (m_spec_TextsOf (x.1, x.2, [], false, [])) fun (r : List UInt8 × Bool) => Option.bind (m_impl_TextOf_f (x.1, x.2)) fun (r_1 : List UInt8 × Bool) => bif r_1.2 then some (decide (r_1.1 = r.1)) else some false
noncomputable def cx_laws_FnTextOf : Cx := ⟨tb, lookE [(6, e_laws_zzFits1), (7, e_spec_Right), (8, e_spec_Order), (9, e_spec_TextsOf), (10, e_impl_TextOf_f)], lookS []⟩
theorem ck_laws_FnTextOf : CxOK Try.prog (cx_laws_FnTextOf) := cx_ok tb_ok (.cons ok_laws_zzFits1 Try.call6 (.cons ok_spec_Right Try.call7 (.cons ok_spec_Order Try.call8 (.cons ok_spec_TextsOf Try.call9 (.cons ok_impl_TextOf_f Try.call10 .nil)))))
noncomputable def e_laws_FnTextOf : Ent := ⟨0, p_laws_FnTextOf, q_laws_FnTextOf, m_laws_FnTextOf⟩
theorem ok_laws_FnTextOf : FnOK Try.prog 3 e_laws_FnTextOf := fn_ok (L := lookL []) ck_laws_FnTextOf mixed Try.func3 rfl (by kernel_rfl) (by kernel_rfl) (ls_ok (l := []) (by kernel_rfl) .nil) (by intro x; kernel_rfl)
end Go.Proofs.Ytcbmbmfenhoflaa.V
set_option linter.unusedVariables false
set_option linter.unusedSimpArgs false
namespace Go.Proofs.Ytcbmbmfenhoflaa.V
open Go
def txt (t : List Node) (k : Nat) : List UInt8 := match t[k]? with
  | some v => if v.kind = 4 then v.text else []
  | none => []
def txts (t : List Node) (a : Nat) : Nat → List UInt8
  | 0 => []
  | n + 1 => txt t a ++ txts t (a + 1) n
theorem txts_add {t : List Node} : ∀ {n a m : Nat}, txts t a (n + m) = txts t a n ++ txts t (a + n) m
  | 0, a, m => by simp [txts]
  | n + 1, a, m => by
    rw [show n + 1 + m = (n + m) + 1 by omega, txts, txts_add, txts, List.append_assoc, show a + 1 + n = a + (n + 1) by omega]
theorem txt_len {t : List Node} (hR : RT t) (k : Nat) : (txt t k).length ≤ 4000 := by
  unfold txt
  cases hv : t[k]? with
  | none => simp
  | some v =>
    simp only
    split
    · exact (hR.txt k v hv).1
    · simp
theorem txts_len {t : List Node} (hR : RT t) : ∀ (n a : Nat), (txts t a n).length ≤ n * 4000
  | 0, _ => by simp [txts]
  | n + 1, a => by
    have h1 := txt_len hR a
    have h2 := txts_len hR n (a + 1)
    rw [txts, List.length_append]
    omega
theorem catS_some {l m : List UInt8} (h : l.length + m.length ≤ 9223372036854775807) : catS l m = some (l ++ m) := by simp [catS, h]
theorem txts_kids {t : List Node} {lo hi : Nat} (hL : Lam t lo hi) : ∀ {f k : Nat}, lo ≤ k → k ≤ hi → hi ≤ k + f → (kidsF t f k hi).flatMap (fun c => txts t c (sz t c)) = txts t k (hi - k)
  | 0, k, _, h, h2 => by
    rw [show hi - k = 0 by omega]
    rfl
  | f + 1, k, h0, h, h2 => by
    rw [kidsF]
    by_cases hk : k < hi
    · obtain ⟨v, _, _, h3, h4⟩ := hL.ok k h0 hk
      rw [if_pos hk, List.flatMap_cons, txts_kids hL (by omega) h4 (by omega), show hi - k = sz t k + (hi - (k + sz t k)) by omega, txts_add]
    · rw [if_neg hk, show hi - k = 0 by omega]
      rfl
theorem texts_in {t : List Node} (hR : RT t) (l : List Int) (i a : Nat) (hi : l[i]? = some (a : Int)) (ha : a < t.length) : ∀ (m k : Nat) (out : List UInt8) (sm : Bool), a ≤ k → k + m = a + sz t a → out.length + m * 4000 ≤ 2000000000 →
    ∃ sm', loopO m_spec_TextsOf_0_0 (t, l, [], false, [], out, sm, (i : Int), (k : Int)) = some (.inl (t, l, [], false, [], out ++ txts t k m, sm', (i : Int))) := by
  obtain ⟨u, hu, hus, _, hue⟩ := hR.lam.ok a (Nat.zero_le _) ha
  have h200 := hR.len
  intro m
  induction m with
  | zero =>
    intro k out sm h1 h2 h3
    refine ⟨sm, ?_⟩
    refine loopO_out ?_
    simp only [m_spec_TextsOf_0_0, cond_dec, atI_nat, hi, bind_some, hu, hus]
    rw [w64 (by omega) (by omega), if_neg (by omega), txts, List.append_nil]
  | succ m ih =>
    intro k out sm h1 h2 h3
    obtain ⟨v, hv⟩ := get_lt (l := t) (k := k) (by omega)
    have hvl := (hR.txt k v hv).1
    have hstep : ∃ sm', m_spec_TextsOf_0_0 (t, l, [], false, [], out, sm, (i : Int), (k : Int)) = some (.nx (t, l, [], false, [], out ++ txt t k, sm', (i : Int), ((k + 1 : Nat) : Int))) := by
      simp only [m_spec_TextsOf_0_0, cond_dec, atI_nat, hi, bind_some, hu, hus, hv, nil_bytes, cond_false, txt]
      rw [w64 (n := (a : Int) + (sz t a : Int)) (by omega) (by omega), if_pos (by omega), w64 (n := (k : Int) + 1) (by omega) (by omega)]
      by_cases h4 : v.kind = 4
      · rw [if_neg (by simp [h4]), if_pos h4, if_neg (by simp)]
        cases sm
        · simp only [cond_false]
          rw [catS_some (by omega)]
          exact ⟨true, rfl⟩
        · simp only [cond_true]
          rw [catS_some (m := []) (by rw [List.length_nil]; omega)]
          simp only [bind_some, List.append_nil]
          rw [catS_some (by omega)]
          exact ⟨true, rfl⟩
      · rw [if_pos h4, if_neg h4, List.append_nil]
        exact ⟨sm, rfl⟩
    obtain ⟨sm1, hs⟩ := hstep
    have hl := txt_len hR k
    obtain ⟨sm2, h⟩ := ih (k + 1) (out ++ txt t k) sm1 (by omega) (by omega) (by rw [List.length_append]; omega)
    refine ⟨sm2, ?_⟩
    rw [loopO_nx hs, h, txts, List.append_assoc]
def selT (t : List Node) (l : List Int) : List UInt8 := l.flatMap fun v => txts t v.toNat (sz t v.toNat)
theorem sz_le {t : List Node} (hR : RT t) {a : Nat} (ha : a < t.length) : sz t a ≤ 200 := by
  obtain ⟨_, _, _, _, h⟩ := hR.lam.ok a (Nat.zero_le _) ha
  have := hR.len
  omega
set_option maxRecDepth 100000 in
theorem textsOf_eq {t : List Node} (hR : RT t) {l : List Int} (hA : Asc t l) : m_spec_TextsOf (t, l, [], false, []) = some (selT t l, true) := by
  have h200 := hR.len
  have hl200 := hA.len
  have key : ∀ (m k : Nat) (out : List UInt8) (sm : Bool), k + m = l.length → out.length + m * 800000 ≤ 1000000000 → loopO m_spec_TextsOf_0 (t, l, [], false, [], out, sm, (k : Int)) = some (.inl (out ++ selT t (l.drop k))) := by
    intro m
    induction m with
    | zero =>
      intro k out sm h1 h2
      refine loopO_out ?_
      simp only [m_spec_TextsOf_0, cond_dec]
      rw [if_neg (by omega), List.drop_eq_nil_of_le (by omega)]
      simp [selT]
    | succ m ih =>
      intro k out sm h1 h2
      obtain ⟨v, hv⟩ := get_lt (l := l) (k := k) (by omega)
      have hb := hA.bd k v hv
      obtain ⟨a, rfl⟩ := Int.eq_ofNat_of_zero_le hb.1
      have ha : a < t.length := by omega
      have hsz := sz_le hR ha
      have hll := txts_len hR (sz t a) a
      have hb1 : out.length + sz t a * 4000 ≤ 2000000000 := by
        have h5 : sz t a * 4000 ≤ 800000 := by omega
        have h6 : (m + 1) * 800000 = m * 800000 + 800000 := Nat.succ_mul ..
        omega
      obtain ⟨sm', h⟩ := texts_in hR l k a hv ha (sz t a) a out sm (by omega) (by omega) hb1
      have hd : l.drop k = (a : Int) :: l.drop (k + 1) := by
        obtain ⟨h1, h2⟩ := List.getElem?_eq_some_iff.1 hv
        rw [← h2]
        exact List.drop_eq_getElem_cons h1
      have hs : m_spec_TextsOf_0 (t, l, [], false, [], out, sm, (k : Int)) = some (.nx (t, l, [], false, [], out ++ txts t a (sz t a), sm', ((k + 1 : Nat) : Int))) := by
        simp only [m_spec_TextsOf_0, cond_dec, atI_nat, hv, bind_some]
        rw [if_pos (by omega), h, bind_some]
        simp only [selim_l]
        rw [w64 (by omega) (by omega)]
        rfl
      rw [loopO_nx hs, ih (k + 1) _ _ (by omega) (by rw [List.length_append]; omega), hd]
      simp [selT]
  simp only [m_spec_TextsOf]
  have hb0 : ([] : List UInt8).length + l.length * 800000 ≤ 1000000000 := by
    have : ([] : List UInt8).length = 0 := rfl
    omega
  have h0 := key l.length 0 [] false (by omega) hb0
  rw [List.drop_zero, List.nil_append] at h0
  rw [show loopO m_spec_TextsOf_0 (t, l, [], false, [], [], false, (0 : Int)) = some (.inl (selT t l)) from h0, bind_some]
  simp [selim_l]
theorem write_eq (b : Bool) (s acc : List UInt8) (h : acc.length + s.length ≤ 2147483648) : m_strings_Builder_WriteString ((b, ()), s, acc) = some ((s.length : Int), false, (true, ()), acc ++ s) := by
  simp only [m_strings_Builder_WriteString, m_strings_Builder_copyCheck, bind_some]
  rw [appL_some h, bind_some]
theorem helper_eq {t : List Node} (hR : RT t) : ∀ (n a : Nat) (b : Bool) (acc : List UInt8), a < t.length → sz t a ≤ n → acc.length + (txts t a (sz t a)).length ≤ 2147483648 →
    ∃ b', m_goquery_Selection_textHelper n ((), some a, (b, ()), acc, store t) = some ((b', ()), acc ++ txts t a (sz t a)) := by
  intro n
  induction n with
  | zero =>
    intro a b acc ha hn
    obtain ⟨_, _, _, h, _⟩ := hR.lam.ok a (Nat.zero_le _) ha
    omega
  | succ n ih =>
    intro a b acc ha hn hl
    obtain ⟨v, hv, _, h1, hae⟩ := hR.lam.ok a (Nat.zero_le _) ha
    have h200 := hR.len
    have hLa := hR.lam.sub (Nat.zero_le _) ha
    have loop : ∀ (ks : List Nat) (j : Nat) (b : Bool) (acc : List UInt8), (kidsN t a).drop j = ks → acc.length + (ks.flatMap fun c => txts t c (sz t c)).length ≤ 2147483648 →
        ∃ b', loopO (m_goquery_Selection_textHelper_0 (m_goquery_Selection_textHelper n)) ((), (b, ()), (kidsN t a)[j]?, store t, acc) = some ((b', ()), store t, acc ++ ks.flatMap fun c => txts t c (sz t c)) := by
      intro ks
      induction ks with
      | nil =>
        intro j b acc hd _
        refine ⟨b, loopO_out ?_⟩
        have : (kidsN t a)[j]? = none := List.getElem?_eq_none (by simpa using hd)
        simp only [m_goquery_Selection_textHelper_0, this, Option.isNone_none, Bool.not_true, cond_false, List.flatMap_nil, List.append_nil]
      | cons c ks ihk =>
        intro j b acc hd hacc
        have hc : (kidsN t a)[j]? = some c := by
          have := List.getElem?_drop (xs := kidsN t a) (i := j) (j := 0)
          rw [hd] at this
          simpa using this.symm
        have hd1 : (kidsN t a).drop (j + 1) = ks := by
          rw [← List.drop_drop, hd]
          rfl
        obtain ⟨hac, hca⟩ := kids_mem hR.lam (Nat.zero_le _) ha (List.mem_of_getElem? hc)
        have hct : c < t.length := by omega
        have hcs := hLa.ok c (by omega) hca
        obtain ⟨_, _, _, _, hce⟩ := hcs
        rw [List.flatMap_cons, List.length_append] at hacc
        obtain ⟨b1, hb1⟩ := ih c b acc hct (by omega) (by omega)
        obtain ⟨b2, hb2⟩ := ihk (j + 1) b1 (acc ++ txts t c (sz t c)) hd1 (by rw [List.length_append]; omega)
        refine ⟨b2, ?_⟩
        have hs : m_goquery_Selection_textHelper_0 (m_goquery_Selection_textHelper n) ((), (b, ()), (kidsN t a)[j]?, store t, acc) = some (.nx ((), (b1, ()), (kidsN t a)[j + 1]?, store t, acc ++ txts t c (sz t c))) := by
          simp only [m_goquery_Selection_textHelper_0, hc, Option.isNone_some, Bool.not_false, cond_true, hb1, bind_some, store_get hct]
          rw [kid_nxt hLa hae hc]
        rw [loopO_nx hs, hb2, List.flatMap_cons, List.append_assoc]
    have hks : (kidsN t a).flatMap (fun c => txts t c (sz t c)) = txts t (a + 1) (sz t a - 1) := by
      have := txts_kids (hi := a + sz t a) (f := sz t a) (k := a + 1) (lo := a) hLa (by omega) (by omega) (by omega)
      rw [show a + sz t a - (a + 1) = sz t a - 1 by omega] at this
      exact this
    have hfst := kid_fst hLa hae
    have hvl := (hR.txt a v hv).1
    have hty : (rc t 0 t.length a).ty = 1 ↔ v.kind = 4 := by
      rw [rc_ty hv, base_ty]
      rcases (hR.node a v hv).kd with h | h | h | h | h <;> simp [h]
    have hsz : txts t a (sz t a) = txt t a ++ txts t (a + 1) (sz t a - 1) := by
      obtain ⟨m, hm⟩ : ∃ m, sz t a = m + 1 := ⟨sz t a - 1, by omega⟩
      rw [hm, txts]
      rfl
    rw [hsz, List.length_append] at hl
    simp only [m_goquery_Selection_textHelper, b_goquery_Selection_textHelper, bind_some, store_get ha, cond_dec]
    by_cases h4 : v.kind = 4
    · rw [if_pos (hty.2 h4)]
      have hdt : (rc t 0 t.length a).data = v.text := by simp [rc, bs0, hv, base, h4]
      have htx : txt t a = v.text := by simp [txt, hv, h4]
      rw [htx] at hl
      rw [hdt, write_eq _ _ _ (by omega), bind_some]
      obtain ⟨b', hb'⟩ := loop (kidsN t a) 0 true (acc ++ v.text) (by simp) (by rw [hks, List.length_append]; omega)
      refine ⟨b', ?_⟩
      simp only
      rw [hfst, hb', bind_some, hks, hsz, htx, List.append_assoc]
    · rw [if_neg (fun h => h4 (hty.1 h))]
      have htx : txt t a = [] := by simp [txt, hv, h4]
      obtain ⟨b', hb'⟩ := loop (kidsN t a) 0 b acc (by simp) (by rw [hks]; omega)
      refine ⟨b', ?_⟩
      rw [hfst, hb', bind_some, hks, hsz, htx, List.nil_append]
theorem text_eq {t : List Node} (hR : RT t) {l : List Int} (hA : Asc t l) : m_goquery_Selection_Text (pts l, store t) = some (selT t l) := by
  have h200 := hR.len
  have hl200 := hA.len
  have key : ∀ (m k : Nat) (b : Bool) (acc : List UInt8), k + m = l.length → acc.length + m * 800000 ≤ 1000000000 → ∃ b', loopO m_goquery_Selection_Text_0 (pts l, (b, ()), pts l, (l.length : Int), (k : Int), store t, acc) = some ((b', ()), store t, acc ++ selT t (l.drop k)) ∧ (acc ++ selT t (l.drop k)).length ≤ 1000000000 := by
    intro m
    induction m with
    | zero =>
      intro k b acc h1 h2
      refine ⟨b, loopO_out ?_, ?_⟩
      · simp only [m_goquery_Selection_Text_0, cond_dec]
        rw [if_neg (by omega), List.drop_eq_nil_of_le (by omega)]
        simp [selT]
      · rw [List.drop_eq_nil_of_le (by omega)]
        simp only [selT, List.flatMap_nil, List.append_nil]
        omega
    | succ m ih =>
      intro k b acc h1 h2
      obtain ⟨v, hv⟩ := get_lt (l := l) (k := k) (by omega)
      have hb := hA.bd k v hv
      obtain ⟨a, rfl⟩ := Int.eq_ofNat_of_zero_le hb.1
      have ha : a < t.length := by omega
      have hsz := sz_le hR ha
      have hll := txts_len hR (sz t a) a
      have hp : (pts l)[k]? = some (some a) := by rw [pts_get, hv]; rfl
      obtain ⟨b1, hb1⟩ := helper_eq hR big a b acc ha (by have : big = 1099511627776 := rfl; omega) (by omega)
      have hd : l.drop k = (a : Int) :: l.drop (k + 1) := by
        obtain ⟨h1, h2⟩ := List.getElem?_eq_some_iff.1 hv
        rw [← h2]
        exact List.drop_eq_getElem_cons h1
      have he : acc ++ selT t (l.drop k) = acc ++ txts t a (sz t a) ++ selT t (l.drop (k + 1)) := by
        rw [hd, List.append_assoc]
        rfl
      obtain ⟨b2, hb2, hle⟩ := ih (k + 1) b1 (acc ++ txts t a (sz t a)) (by omega) (by rw [List.length_append]; omega)
      have hs : m_goquery_Selection_Text_0 (pts l, (b, ()), pts l, (l.length : Int), (k : Int), store t, acc) = some (.nx (pts l, (b1, ()), pts l, (l.length : Int), ((k + 1 : Nat) : Int), store t, acc ++ txts t a (sz t a))) := by
        simp only [m_goquery_Selection_Text_0, cond_dec, atI_nat, hp, bind_some, hb1]
        rw [if_pos (by omega), w64 (by omega) (by omega)]
        rfl
      refine ⟨b2, ?_, ?_⟩
      · rw [loopO_nx hs, hb2, he]
      · rw [he]; exact hle
  simp only [m_goquery_Selection_Text, pts_len]
  have hb0 : ([] : List UInt8).length + l.length * 800000 ≤ 1000000000 := by
    have : ([] : List UInt8).length = 0 := rfl
    omega
  obtain ⟨b', hb', hle⟩ := key l.length 0 false [] (by omega) hb0
  rw [show loopO m_goquery_Selection_Text_0 (pts l, (false, ()), pts l, (l.length : Int), (0 : Int), store t, []) = _ from hb', bind_some]
  rw [List.drop_zero, List.nil_append] at hle ⊢
  simp only [m_strings_Builder_String, bind_some]
  have : Nat.ble (selT t l).length 2147483648 = true := by rw [Nat.ble_eq]; omega
  rw [this, cond_true, bind_some]
theorem textf (t : List Node) (l : List Int) : m_impl_TextOf_f (t, l) = (m_impl_TextOf (t, l, [])).map fun r => (r.1, r.2.1) := rfl
theorem fn_textOf (t : List Node) (l : List Int) : m_laws_FnTextOf (t, l) = some true := by
  simp only [m_laws_FnTextOf, zz1, bind_some, cond_dec, not_cond]
  cases hf : fits1 t
  · rfl
  rw [if_pos rfl]
  split
  · rfl
  · rename_i hl
    obtain ⟨b, hR, hRT⟩ := Right_ex t hf
    rw [hR, bind_some]
    cases b
    · rfl
    · rw [if_pos rfl]
      have hRT := hRT rfl
      obtain ⟨b, hO, hAsc⟩ := order_ex t l (by omega)
      rw [hO, bind_some]
      cases b
      · rfl
      · rw [if_pos rfl]
        have hA := hAsc rfl
        have h0 : m_impl_TextOf_f (t, l) = some (selT t l, true) := by
          rw [textf]
          simp only [m_impl_TextOf, chosen_eq t l hf hRT hA, bind_some, Bool.not_true, cond_false, text_eq hRT hA]
          rfl
        rw [textsOf_eq hRT hA, bind_some, h0]
        simp [bind_some]
end Go.Proofs.Ytcbmbmfenhoflaa.V
