/-
  Functions: what the evaluator says of a function's code is what a call of it does.
-/
import Derived.Test.YtchhjooifjcnkaaKCode
namespace Go.Proofs.Ytchhjooifjcnkaa.V
open Go K

section
variable {P : Program} {C : Cx} {F F' F1 F0 : Frz} {ι ι' : Gh} {s s' : St} {ρ : List Value} {d : D} {v : Value} {t : Nat} {L0 : List Blk} {h : Array Obj} {L : Nat → Option LEnt}

def resOne (ρ : List Value) : ResultVar → Sem Value
  | .tmp t => pure (ρ.toArray.getD t undef)
  | .cell a t => do loadVar t (← asAddr (ρ.toArray.getD a undef))
theorem resV_sound (hC : CxOK P C) : ∀ {rs : List ResultVar} {s s2 : St} {ds : List D} {F : Frz}, Rel F ι s ρ → Hp h F (lv ι s.ow ++ L0) → resV C s rs = some (s2, ds) → ∃ F' vs, F.le F' ∧ F'.nid = F.nid ∧ Rel F' ι s2 ρ ∧ Hp h F' (lv ι s2.ow ++ L0) ∧ s2.n = s.n ∧ s2.np = s.np ∧ s2.nw = s.nw ∧ F2 (RdV F' ι) ds vs ∧ ∀ w, w.heap = h → (rs.mapM (resOne ρ)).run P w = .ok vs w
  | [], s, s2, ds, F, hr, hm, h0 => by
    cases h0
    exact ⟨F, [], .refl F, rfl, hr, hm, rfl, rfl, rfl, .nil, fun w _ => by simp [List.mapM_nil]⟩
  | .tmp t :: rs, s, s2, ds, F, hr, hm, h0 => by
    simp only [resV] at h0
    split at h0
    · rename_i s' ds' hs'
      cases h0
      obtain ⟨F1, vs, h1, hn, h2, h3, h4, h5, h5', h6, h7⟩ := resV_sound hC hr hm hs'
      refine ⟨F1, ρ.getD t undef :: vs, h1, hn, h2, h3, h4, h5, h5', .cons (h2.sl t) h6, fun w hw => ?_⟩
      rw [List.mapM_cons]
      simp [resOne, h7 w hw]
    · cases h0
  | .cell t T :: rs, s, s2, ds, F, hr, hm, h0 => by
    simp only [resV] at h0
    split at h0
    · rename_i b off hsl
      split at h0
      · rename_i T0 cs hlk
        split at h0
        · rename_i s1 hs1
          split at h0
          · rename_i i hi
            split at h0
            · rename_i T1 cs1 hlk1
              obtain ⟨F1, h1, hn1, h2, h3, h4, h5, h5', _⟩ := freezeAll_seq hr hm hs1
              have hx := hr.sl t
              rw [hsl] at hx
              obtain ⟨B, g1, hx⟩ := hx
              obtain ⟨B', vs1, g2, g3, g4⟩ := h2.look hlk1
              rw [g1] at g2
              cases g2
              have hxe : ev ρ (.tmp t) = .pointer (some ⟨B, 0 + off, none⟩) := by rw [Nat.zero_add]; exact hx
              obtain ⟨v, d, k1, k2, k3⟩ := rdCells_sound (P := P) (s := s1) (L0 := L0) (dst := none) (ty := 0) (p := "") (af := #[]) (gd := none) (o := 0) (ti_ok hC.1 hi) g4 hxe (fun hh hm => by
                obtain ⟨fz, _, this⟩ := (hm.own (B, vs1, BT.c T1) (List.mem_append_left _ (lv_mem hlk1 (by rw [g3]; simp)))).cells
                exact cells_of_row vs1 [] [] 0 (by simpa using this) rfl) h0
              split at k3
              · rename_i s' ds' hs'
                cases k3
                obtain ⟨F2, vs, q1, qn, q2, q3, q4, q5, q5', q6, q7⟩ := resV_sound hC h2 h3 hs'
                refine ⟨F2, v :: vs, h1.trans q1, qn.trans hn1, q2, q3, q4.trans h4, q5.trans h5, q5'.trans h5', .cons (k2.mono q1) q6, fun w hw => ?_⟩
                have hload := (k1 h h3).out w hw
                have hxa : ρ.toArray.getD t undef = .pointer (some ⟨B, off, none⟩) := by
                  have := hxe
                  simpa [ev] using this
                simp only [execOp, hxe, Instr.loadAt, Instr.sureAddr, Nat.zero_add] at hload
                have hl2 : (loadVar T ⟨B, off, none⟩).run P w = .ok v w := by
                  simp only [Sem.run_bind, Sem.run_pure, Result.andThen_ok] at hload
                  cases hres : (loadVar T ⟨B, off, none⟩).run P w with
                  | ok a w' =>
                    rw [hres] at hload
                    simp only [Result.andThen_ok, Result.ok.injEq, Next.value.injEq] at hload
                    rw [hload.1, hload.2]
                  | halt x w' => rw [hres] at hload; simp [Result.andThen] at hload
                rw [List.mapM_cons]
                simp [resOne, hxa, asAddr, hl2, q7 w hw]
              · cases k3
            · cases h0
          · cases h0
        · cases h0
      · cases h0
    · cases h0
theorem run_results {fn : Func} {vs : List Value} {w : World} (h : (fn.results.toList.mapM (resOne ρ)).run P w = .ok vs w) : (results fn ρ.toArray).run P w = .ok (joinV vs) w := by
  have e : results fn ρ.toArray = (do
      let vs ← fn.results.mapM (resOne ρ)
      pure (if h : vs.size = 1 then vs[0] else .tuple vs)) := by
    unfold results
    congr 1
  rw [e, Array.mapM_eq_mapM_toList]
  simp only [map_eq_pure_bind, Sem.run_bind, Sem.run_pure, h, Result.andThen_ok]
  match vs with
  | [] => rfl
  | [v] => rfl
  | a :: b :: vs => rfl
theorem MP.congr {ρ ρ' : Nat → Value} : ∀ {p : Pt} {x : Tup p}, (∀ i ∈ p.map (·.1), ρ' i = ρ i) → MP F ι ρ p x → MP F ι ρ' p x
  | [], _, _, _ => trivial
  | [q], x, h, hm => by
    have := h q.1 (by simp)
    show M1 _ _ _ _ _ _
    rw [this]
    exact hm
  | q :: q' :: ps, x, h, hm => by
    refine ⟨?_, MP.congr (p := q' :: ps) (fun i hi => h i (by simp at hi ⊢; exact .inr hi)) hm.2⟩
    rw [h q.1 (by simp)]
    exact hm.1
theorem frzB_sound {s0 : St} (hr : Rel F ι s ρ) (hm : Hp h F (lv ι s.ow ++ L0)) (h0 : frzB s t = some s0) : ∃ F', F.le F' ∧ F'.nid = F.nid ∧ Rel F' ι s0 ρ ∧ Hp h F' (lv ι s0.ow ++ L0) ∧ s0.n = s.n ∧ s0.np = s.np ∧ s0.nw = s.nw := by
  unfold frzB at h0
  split at h0
  · split at h0
    · rename_i s1 hs1
      obtain ⟨F1, h1, hn1, h2, h3, h4, h5, h6, _⟩ := freezeAll_seq hr hm hs1
      split at h0
      · rename_i T1 ds1 hlk1
        cases hp : ds1.all D.plain with
        | false => rw [hp] at h0; cases h0
        | true =>
          rw [hp] at h0
          cases h0
          obtain ⟨F2, q1, q2, q3, q4, _⟩ := h2.freezeB h3 hlk1 hp
          exact ⟨F2, h1.trans q1, q2.trans hn1, q4, q3, h4, h5, h6⟩
      · cases h0
    · cases h0
  · cases h0
theorem preFrz_sound : ∀ {rs : List ResultVar} {ks : List (Nat × Kd)} {s s0 : St} {F : Frz}, Rel F ι s ρ → Hp h F (lv ι s.ow ++ L0) → preFrz s rs ks = some s0 → ∃ F', F.le F' ∧ F'.nid = F.nid ∧ Rel F' ι s0 ρ ∧ Hp h F' (lv ι s0.ow ++ L0) ∧ s0.n = s.n ∧ s0.np = s.np ∧ s0.nw = s.nw
  | rs, ks, s, s0, F, hr, hm, h0 => by
    unfold preFrz at h0
    split at h0
    · split at h0
      · split at h0
        · rename_i s' hs'
          obtain ⟨F1, h1, h2, h3, h4, h5, h6, h7⟩ := frzB_sound hr hm hs'
          obtain ⟨F2, q1, q2, q3, q4, q5, q6, q7⟩ := preFrz_sound h3 h4 h0
          exact ⟨F2, h1.trans q1, q2.trans h2, q3, q4, q5.trans h5, q6.trans h6, q7.trans h7⟩
        · cases h0
      · exact preFrz_sound hr hm h0
    · exact preFrz_sound hr hm h0
    · cases h0
      exact ⟨F, .refl F, rfl, hr, hm, rfl, rfl, rfl⟩
/-- A function is known, if the evaluator tells what it computes. -/
theorem fn_ok {f : FuncId} {fn : Func} {c : Code} {ent : Ent} (hC : CxOK P C) (hmo : P.follows .mixedOrders = true) (hf : P.funcs[f]? = some fn) (hb : fn.body = some c) (hp : (realK ent.pin == List.range (realK ent.pin).length && nodupB (ent.pin.map (·.1)) && ent.pin.all (fun q => Nat.blt q.1 1000 || !(Nat.blt q.1 NT))) = true) (hn : (Nat.ble (realK ent.pin).length fn.ntmps && Nat.ble fn.ntmps 1000000) = true)
    (hl : LoopsOK (fun i c => ∀ le, L i = some le → LOK P fn.ntmps ent.np (hasNT ent.pout) le c) c 0) (he : ∀ x, evF C L fn c ent x = ent.m x) : FnOK P f ent := by
  simp only [Bool.and_eq_true, beq_iff_eq] at hp
  obtain ⟨⟨hp1, hp2⟩, hp3⟩ := hp
  simp only [Bool.and_eq_true, Nat.ble_eq] at hn
  obtain ⟨hn, hn2⟩ := hn
  intro x r hx F ι h L0 vargs hlen hMP hH
  refine ret_of_tw (ρ := vargs ++ List.replicate (fn.ntmps - vargs.length) undef) hf hb rfl (fun E => ?_)
  have hnd : (ent.pin.map (·.1)).Nodup := nodupB_nodup hp2
  have hMP' : MP F ι (fun i => (vargs ++ List.replicate (fn.ntmps - vargs.length) undef).getD i undef) ent.pin x := hMP.congr fun i hi => by
    obtain ⟨q, hq, rfl⟩ := List.mem_map.1 hi
    have h3 := List.all_eq_true.1 hp3 q hq
    simp only [List.getD_eq_getElem?_getD]
    by_cases hlt : q.1 < vargs.length
    · rw [List.getElem?_append_left hlt]
    · rw [List.getElem?_append_right (by omega), List.getElem?_eq_none (l := vargs) (by omega)]
      by_cases h1 : q.1 < 1000
      · exfalso
        have h4 : q.1 ∈ realK ent.pin := List.mem_filter.2 ⟨List.mem_map.2 ⟨q, hq, rfl⟩, by rw [Nat.blt_eq]; exact h1⟩
        rw [hp1, List.mem_range] at h4
        omega
      · have e1 : Nat.blt q.1 1000 = false := by cases hb : Nat.blt q.1 1000 with
          | false => rfl
          | true => rw [Nat.blt_eq] at hb; omega
        rw [e1, Bool.false_or] at h3
        have h5 : NT ≤ q.1 := by
          cases hb : Nat.blt q.1 NT with
          | true => rw [hb] at h3; cases h3
          | false =>
            rcases Nat.lt_or_ge q.1 NT with h6 | h6
            · rw [← Nat.blt_eq, hb] at h6; cases h6
            · exact h6
        have h6 : NT = 1000000000 := rfl
        rw [List.getElem?_eq_none (by simp; omega)]
  have hi : Inv F (fun t => (ι t).1) L0 fn.ntmps ent.np (hasNT ent.pout) (mkP fn.ntmps ent.np (hasNT ent.pout) ent.pin x) (vargs ++ List.replicate (fn.ntmps - vargs.length) undef) h := ⟨⟨F, ι, .refl F, fun _ => rfl, hMP'.rel hnd (by simp; omega), hH, fun _ _ => rfl⟩, rfl, rfl, rfl⟩
  rw [← he] at hx
  refine evC_sound (L := L) hC hmo c 0 _ _ _ h [] hx hl hi fun e s' ρ' h' hi' h1 => ?_
  unfold decRes at h1
  have hfin : (match preFrz s' fn.results.toList ent.pout with
    | some s => match resV C s fn.results.toList with
      | some (s', ds) => cond (realK ent.pout == List.range ds.length && ent.pout.all (fun q => Nat.blt q.1 1000 || q.1 == NT || (Nat.blt q.1 (1000 + ent.np % 1000) && Nat.ble (1000 + ent.np / 1000) q.1 && q.2.isRef))) (unD (endSt s' ds) ent.pout) none
      | none => none
    | none => none) = some r → ∃ v, (∀ w, At E h' w → (results fn ρ'.toArray).run P w = .ok v w) ∧ Res F ι ent r L0 v h' := by
    intro h2
    split at h2
    · rename_i s1 hs1
      obtain ⟨⟨F0, ι1, hF0, hN0, hr0, hm0, hι1⟩, hn0, hnp0, hnw0⟩ := hi'
      obtain ⟨F1, hF1, hN1, hr1, hm1, hn1, hnp1, hnw1⟩ := preFrz_sound hr0 hm0 hs1
      split at h2
      · rename_i s2 ds hrs
        obtain ⟨F2, vs, q1, qn, q2, q3, q4, q5, q5', q6, q7⟩ := resV_sound hC hr1 hm1 hrs
        have hds := forall2_len q6
        refine ⟨joinV vs, fun w hw => run_results (q7 w hw.1), ?_⟩
        cases hc : (realK ent.pout == List.range ds.length && ent.pout.all (fun q => Nat.blt q.1 1000 || q.1 == NT || (Nat.blt q.1 (1000 + ent.np % 1000) && Nat.ble (1000 + ent.np / 1000) q.1 && q.2.isRef))) with
        | false => rw [hc] at h2; cases h2
        | true =>
          rw [hc] at h2
          simp only [cond_true] at h2
          simp only [Bool.and_eq_true, beq_iff_eq] at hc
          obtain ⟨hc1, hc2⟩ := hc
          -- what is handed back, as slots
          have hsl : ∀ k, RdV F2 ι1 ((endSt s2 ds).sl k) (vX vs ι1 k) := fun k => by
            unfold endSt vX
            by_cases hk : k < 1000
            · have e1 : Nat.blt k 1000 = true := by rw [Nat.blt_eq]; exact hk
              simp only [e1, cond_true, if_pos hk, List.getD_eq_getElem?_getD]
              cases hd : ds[k]? with
              | none => trivial
              | some d =>
                obtain ⟨u, hu, hdu⟩ := forall2_get q6 hd
                rw [hu]
                exact hdu
            · have e1 : Nat.blt k 1000 = false := by cases hb : Nat.blt k 1000 with
                | false => rfl
                | true => rw [Nat.blt_eq] at hb; omega
              simp only [e1, cond_false, if_neg hk]
              by_cases hkN : k = NT
              · subst hkN
                simp
                trivial
              have e2 : (k == NT) = false := by simpa using hkN
              rw [e2, if_neg hkN, cond_false]
              unfold ioD
              split
              · exact .of_w rfl
              · rename_i T cs hlk
                obtain ⟨B, cv, g1, g2, g3⟩ := q2.look hlk
                exact .of_w ⟨B, g1, g1⟩
              · exact .of_w rfl
              · trivial
          obtain ⟨u1, u2⟩ := unD_vals (L0 := L0) ⟨hsl, q2.ow, q2.nd⟩ q3 h2
          have hkey : ∀ q ∈ ent.pout, 1000 ≤ q.1 → q.1 ≠ NT → (ent.np / 1000 ≤ q.1 - 1000 ∧ q.1 - 1000 < ent.np % 1000) ∧ q.2.isRef = true := fun q hq h3 h4 => by
            have h5 := List.all_eq_true.1 hc2 q hq
            have e1 : Nat.blt q.1 1000 = false := by cases hb : Nat.blt q.1 1000 with
              | false => rfl
              | true => rw [Nat.blt_eq] at hb; omega
            have e2 : (q.1 == NT) = false := by simpa using h4
            rw [e1, e2, Bool.false_or, Bool.false_or, Bool.and_eq_true, Bool.and_eq_true, Nat.blt_eq, Nat.ble_eq] at h5
            exact ⟨by omega, h5.2⟩
          refine ⟨F2, _, vs, (hF0.trans hF1).trans q1, fun e => (qn.trans hN1).trans (hN0 e), by rw [hc1]; simp [hds], ?_, rfl, u2, fun k hk h3 h4 => ?_⟩
          · refine u1.congr fun k hk => ?_
            unfold vX
            split
            · rfl
            · split
              · rfl
              · rename_i h3 h4
                obtain ⟨q, hq, rfl⟩ := List.mem_map.1 hk
                rw [hι1 _ (hkey q hq (by omega) h4).1]
          · obtain ⟨q, hq, rfl⟩ := List.mem_map.1 hk
            have h5 := hkey q hq h3 h4
            rw [← hι1 _ h5.1, ← MP.ref u1 hq h5.2]
            unfold vX
            rw [if_neg (by omega), if_neg h4]
      · cases h2
    · cases h2
  cases e with
  | nm =>
    simp only at h1
    cases hr : fn.results.isEmpty with
    | false => rw [hr] at h1; cases h1
    | true =>
      rw [hr] at h1
      simp only [cond_true] at h1
      obtain ⟨v, h2, h3⟩ := hfin h1
      exact tw_end_any hf h2 h3
  | ex id => cases h1
  | rt =>
    simp only [cond_true] at h1
    obtain ⟨v, h2, h3⟩ := hfin h1
    exact fun K => tw_ret_any hf h2 h3
end
end Go.Proofs.Ytchhjooifjcnkaa.V
