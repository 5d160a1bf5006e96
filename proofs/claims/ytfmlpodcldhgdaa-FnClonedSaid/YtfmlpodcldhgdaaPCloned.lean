/-
  The clones of a selection are the same trees: FnCloned. Plain facts.
-/
import Derived.Test.YtfmlpodcldhgdaaPSel
import Derived.Test.YtfmlpodcldhgdaaPSame
import Derived.Test.YtfmlpodcldhgdaaLwCloned
set_option linter.unusedVariables false
set_option linter.unusedSimpArgs false
namespace Go.Proofs.Ytfmlpodcldhgdaa.V
open Go

theorem forall2_snoc {α β : Type} {R : α → β → Prop} {l : List α} {m : List β} {a : α} {b : β} (h : F2 R l m) (hab : R a b) : F2 R (l ++ [a]) (m ++ [b]) := h.append (.cons hab .nil)
theorem big_ex : ∃ n, big = n ∧ 1000000 ≤ n := ⟨big, rfl, by unfold big; omega⟩
theorem clone_tree {t : List Node} {n : Nat} (hn : 1000000 ≤ n) (hR : RT t) {G : Fo} {M : Nat → HN} (h : Ext (FT t) (bs0 t) G M) {x : Nat} (hx : x < t.length) :
    ∃ H N, m_goquery_cloneNode n (some x, G.st M) = some (some G.m, H.st N) ∧ Ext G M H N ∧ H.up G.m = none ∧ H.m = G.m + sz t x ∧ Cp H N (FT t).kids (bs0 t) G.m H.m n G.m x := by
  have hle := hR.le hx
  have hlen := hR.len
  have hok := FT_ok hR
  obtain ⟨H, N, h1, h2, h3, h4, h5⟩ := clone_eq (K := (FT t).kids) (B := bs0 t) (m0 := t.length) (fun i _ y hy => (hok.kid hy).2) (fun i _ => hok.nd i) (fun i _ => by have := bs0_attrs hR i; omega) n x G M h.ok h.m (fun i hi => by
    obtain ⟨_, a, b⟩ := h.old i hi
    exact ⟨a, b⟩) hx (ht_kids hR n x hx (by omega))
  refine ⟨H, N, h1, h2, h3, ?_, h5⟩
  rw [h4, ← szK_ids, ids_tree hR n x hx (by omega), List.length_range']
theorem Ext.refl {F : Fo} {L : Nat → HN} (h : F.ok) : Ext F L F L := ⟨h, Nat.le_refl _, fun _ _ => ⟨rfl, rfl, rfl⟩, fun i h1 h2 => by omega⟩
structure Cd (n : Nat) (t : List Node) (on : List Int) (j : Nat) (rs : List Nat) (G : Fo) (M : Nat → HN) : Prop where
  ext : Ext (FT t) (bs0 t) G M
  m : G.m ≤ 200 + 200 * j
  cp : F2 (fun c (v : Int) => Cp G M (FT t).kids (bs0 t) 0 G.m n c v.toNat) rs (on.take j)
theorem Asc.at {t : List Node} {on : List Int} (hO : Asc t on) {j : Nat} {v : Int} (hv : on[j]? = some v) : 0 ≤ v ∧ v < t.length := hO.bd j v hv
theorem clones_eq {t : List Node} {n : Nat} (hb : big = n) (hn : 1000000 ≤ n) (hR : RT t) {on : List Int} (hO : Asc t on) : ∃ rs G M, m_goquery_cloneNodes (pts on, (FT t).st (bs0 t)) = some (rs.map some, G.st M) ∧ Cd n t on on.length rs G M := by
  have hlen := hR.len
  have hol := hO.len
  have key : ∀ d j rs G M, on.length - j = d → j ≤ on.length → Cd n t on j rs G M → ∃ rs' G' M', loopO m_goquery_cloneNodes_0 (rs.map some, pts on, (on.length : Int), (j : Int), G.st M) = some (rs'.map some, G'.st M') ∧ Cd n t on on.length rs' G' M' := by
    intro d
    induction d with
    | zero =>
      intro j rs G M hd hj hI
      have : j = on.length := by omega
      subst this
      refine ⟨rs, G, M, loopO_out ?_, hI⟩
      simp only [m_goquery_cloneNodes_0, cond_dec]
      rw [if_neg (by omega)]
    | succ d ih =>
      intro j rs G M hd hj hI
      obtain ⟨v, hv⟩ := get_lt (l := on) (k := j) (by omega)
      obtain ⟨hv0, hv1⟩ := hO.at hv
      have hx : v.toNat < t.length := by omega
      obtain ⟨H, N, e1, e2, e3, e4, e5⟩ := clone_tree hn hR hI.ext hx
      have hle := hR.le hx
      have hrl : rs.length = j := by
        have := forall2_len hI.cp
        simp at this
        omega
      have step : m_goquery_cloneNodes_0 (rs.map some, pts on, (on.length : Int), (j : Int), G.st M) = some (.nx ((rs ++ [G.m]).map some, pts on, (on.length : Int), ((j + 1 : Nat) : Int), H.st N)) := by
        simp only [m_goquery_cloneNodes_0, hb, cond_dec, atI_nat, pts_get, hv, Option.map_some, bind_some, e1]
        rw [if_pos (by omega), appL_some (by simp; omega), bind_some, w64 (by omega) (by omega)]
        simp
      rw [loopO_nx step]
      refine ih (j + 1) _ _ _ (by omega) (by omega) ⟨hI.ext.trans e2, by have := hI.m; omega, ?_⟩
      rw [List.take_add_one, hv]
      refine forall2_snoc (hI.cp.imp fun a b _ _ h => h.mono (Nat.le_refl _) e2.m fun i _ hi => ?_) (e5.mono (Nat.zero_le _) (Nat.le_refl _) fun i _ _ => ⟨rfl, rfl⟩)
      obtain ⟨_, a1, a2⟩ := e2.old i hi
      exact ⟨a1, a2⟩
  obtain ⟨rs, G, M, h1, h2⟩ := key on.length 0 [] (FT t) (bs0 t) rfl (Nat.zero_le _) ⟨Ext.refl (FT_ok hR), by show t.length ≤ _; omega, by simp only [List.take_zero]; exact .nil⟩
  refine ⟨rs, G, M, ?_, h2⟩
  simp only [m_goquery_cloneNodes, pts_len]
  rw [decide_eq_true (by omega), cond_true]
  have h1' : loopO m_goquery_cloneNodes_0 (List.replicate (Int.toNat 0) none, pts on, (on.length : Int), 0, (FT t).st (bs0 t)) = _ := h1
  rw [h1', bind_some]
def subT' (t : List Node) (v : Int) : List Node := (t.drop v.toNat).take (sz t v.toNat)
theorem cloned_eq {t : List Node} (hf : fits1 t = true) (hR : RT t) {on : List Int} (hO : Asc t on) : ∃ S, m_impl_Cloned (t, on, []) = some (on.map (subT' t), true, S) := by
  have hlen := hR.len
  have hol := hO.len
  obtain ⟨n, hb, hn⟩ := big_ex
  obtain ⟨rs, G, M, h1, h2⟩ := clones_eq hb hn hR hO
  have hrl : rs.length = on.length := by
    have := forall2_len h2.cp
    simpa using this.symm
  have hlab : ∀ i, i < G.m → (M i).attrs.length ≤ 1000000 := fun i hi => by
    by_cases e : i < t.length
    · rw [(h2.ext.old i e).2.2]
      have := bs0_attrs hR i
      omega
    · exact h2.ext.lab i (by show t.length ≤ i; omega) hi
  have key : ∀ d j, on.length - j = d → j ≤ on.length → loopO m_impl_Cloned_0 ((on.take j).map (subT' t), rs.map some, (on.length : Int), (j : Int), G.st M) = some (on.map (subT' t), G.st M) := by
    intro d
    induction d with
    | zero =>
      intro j hd hj
      refine loopO_out ?_
      simp only [m_impl_Cloned_0, cond_dec]
      rw [if_neg (by omega), List.take_of_length_le (by omega)]
    | succ d ih =>
      intro j hd hj
      obtain ⟨c, hc⟩ := get_lt (l := rs) (k := j) (by omega)
      have hcp := h2.cp
      rw [List.take_length] at hcp
      obtain ⟨v, hv, hcv⟩ := forall2_get hcp hc
      obtain ⟨hv0, hv1⟩ := hO.at hv
      have hx : v.toNat < t.length := by omega
      have hle := hR.le hx
      have hcm : c < G.m := by
        obtain ⟨n', hn'⟩ : ∃ n', n = n' + 1 := ⟨n - 1, by omega⟩
        subst hn'
        exact hcv.1.2
      have hids : (idsF G.kids n c).length = sz t v.toNat := by rw [ids_cp_len hcv, ids_tree hR n _ hx (by omega), List.length_range']
      have htk := taken_eq h2.ext.ok hlab n c [] [] hcm (ht_cp hcv) (by rw [hids]; simp; omega) (by rw [hids]; simp; omega)
      have hno : nodesF G.kids (fun i => kn (M i)) n c = subT' t v := by rw [nodes_cp hcv, nodes_tree hR n _ hx (by omega)]; rfl
      rw [hno, List.nil_append] at htk
      have step : m_impl_Cloned_0 ((on.take j).map (subT' t), rs.map some, (on.length : Int), (j : Int), G.st M) = some (.nx ((on.take (j + 1)).map (subT' t), rs.map some, (on.length : Int), ((j + 1 : Nat) : Int), G.st M)) := by
        simp only [m_impl_Cloned_0, cond_dec, atI_nat, List.getElem?_map, hc, Option.map_some, bind_some, m_impl_data, hb, htk]
        rw [if_pos (by omega), appL_some (by simp; omega), bind_some, w64 (by omega) (by omega), List.take_add_one, hv]
        simp
      rw [loopO_nx step]
      exact ih (j + 1) (by omega) (by omega)
  refine ⟨G.st M, ?_⟩
  simp only [m_impl_Cloned, chosen_eq t on hf hR hO, bind_some, Bool.not_true, cond_false, m_goquery_Selection_Clone, m_goquery_newEmptySelection_b]
  rw [store_st hR, h1]
  simp only [bind_some, List.length_map]
  have h0 := key on.length 0 rfl (Nat.zero_le _)
  have h0' : loopO m_impl_Cloned_0 ([], rs.map some, (on.length : Int), (0 : Int), G.st M) = _ := h0
  rw [hrl, h0', bind_some]
theorem fn_cloned (t : List Node) (on : List Int) : m_laws_FnCloned (t, on) = some true := by
  simp only [m_laws_FnCloned, zz1, bind_some]
  cases hf : fits1 t with
  | false => rfl
  | true =>
    simp only [Bool.not_true, cond_false, cond_dec]
    by_cases hl : 2147483647 < (on.length : Int)
    · rw [if_pos hl]
    rw [if_neg hl]
    obtain ⟨b, hb, hb'⟩ := Right_ex t hf
    rw [hb, bind_some]
    cases b with
    | false => rfl
    | true =>
      have hR := hb' rfl
      obtain ⟨c, hc, hc'⟩ := order_ex t on (by omega)
      simp only [Bool.not_true, cond_false]
      rw [hc, bind_some]
      cases c with
      | false => rfl
      | true =>
        have hO := hc' rfl
        have hlen := hR.len
        have hol := hO.len
        obtain ⟨S, hS⟩ := cloned_eq hf hR hO
        have hSf : m_impl_Cloned_f (t, on) = some (on.map (subT' t), true) := by
          show (m_impl_Cloned (t, on, [])).map _ = _
          rw [hS]; rfl
        have key : ∀ d j, on.length - j = d → j ≤ on.length → loopO m_laws_FnCloned_0 (t, on, on.map (subT' t), (j : Int)) = some (.inl ()) := by
          intro d
          induction d with
          | zero =>
            intro j hd hj
            refine loopO_out ?_
            simp only [m_laws_FnCloned_0, cond_dec]
            rw [if_neg (by omega)]
          | succ d ih =>
            intro j hd hj
            obtain ⟨v, hv⟩ := get_lt (l := on) (k := j) (by omega)
            obtain ⟨hv0, hv1⟩ := hO.at hv
            obtain ⟨x, rfl⟩ := Int.eq_ofNat_of_zero_le hv0
            have hx : x < t.length := by omega
            have hle := hR.le hx
            have step : m_laws_FnCloned_0 (t, on, on.map (subT' t), (j : Int)) = some (.nx (t, on, on.map (subT' t), ((j + 1 : Nat) : Int))) := by
              simp only [m_laws_FnCloned_0, cond_dec, atI_nat, List.getElem?_map, hv, Option.map_some, bind_some, sub_eq hR hx]
              rw [if_pos (by omega)]
              have : m_spec_SameTree (subT' t (x : Int), (t.drop x).take (sz t x)) = some true := sameTree_refl _ (by simp [subT']; omega) fun i v hi => by
                have h1 : v ∈ t := List.mem_of_mem_drop (List.mem_of_mem_take (List.mem_of_getElem? hi))
                obtain ⟨k, hk⟩ := List.mem_iff_getElem?.1 h1
                have hkd := (hR.node k v hk).kd
                by_cases h3 : v.kind = 3
                · have := ((hR.node k v hk).k3 h3).2.1
                  omega
                · have := ((hR.node k v hk).k4 h3).2
                  rw [this]; simp
              rw [this, bind_some]
              simp only [Bool.not_true, cond_false]
              rw [w64 (by omega) (by omega)]
              rfl
            rw [loopO_nx step]
            exact ih (j + 1) (by omega) (by omega)
        have h0 := key on.length 0 rfl (Nat.zero_le _)
        have h0' : loopO m_laws_FnCloned_0 (t, on, on.map (subT' t), (0 : Int)) = some (.inl ()) := h0
        simp only [Bool.not_true, cond_false]
        have fin : (Option.bind (m_impl_Cloned_f (t, on)) fun (r : List (List Node) × Bool) => cond (!r.2) (some false) (if ¬ ((r.1.length : Int) = (on.length : Int)) then some false else Option.bind (loopO m_laws_FnCloned_0 (t, on, r.1, (0 : Int))) fun y => selim (fun _ => some true) (fun y => some y) y)) = some true := by
          rw [hSf, bind_some]
          simp only [Bool.not_true, cond_false, List.length_map, not_true, if_false]
          rw [h0', bind_some]
          rfl
        by_cases h1 : (0 : Int) < (on.length : Int)
        · rw [if_pos h1]
          obtain ⟨v, hv⟩ := get_lt (l := on) (k := 0) (by omega)
          rw [atI_zero, hv, bind_some]
          by_cases h2 : v = 0
          · rw [if_pos h2]
          · rw [if_neg h2]
            exact fin
        · rw [if_neg h1]
          exact fin
end Go.Proofs.Ytfmlpodcldhgdaa.V
