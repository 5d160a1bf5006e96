/-
  Plain facts and an evaluator for what a law needs.
-/
import Derived.Test.YtfmlpodcldhgdaaQ5
set_option linter.unusedVariables false
set_option linter.unusedSimpArgs false
namespace Go.Proofs.Ytfmlpodcldhgdaa.V
open Go
theorem loop_each {X B : Type} {body : X → Option (Stp X B)} {st : Nat → X} {n : Nat} {good bad : B} {p : Nat → Prop} (h : ∀ k, k < n → body (st k) = some (.out bad) ∨ (body (st k) = some (.nx (st (k + 1))) ∧ p k)) (he : body (st n) = some (.out good)) :
    ∀ k, k ≤ n → ∃ y, loopO body (st k) = some y ∧ (y = bad ∨ (y = good ∧ ∀ j, k ≤ j → j < n → p j)) := by
  have key : ∀ d k, n - k = d → k ≤ n → ∃ y, loopO body (st k) = some y ∧ (y = bad ∨ (y = good ∧ ∀ j, k ≤ j → j < n → p j)) := by
    intro d
    induction d with
    | zero =>
      intro k hd hk
      obtain rfl : k = n := by omega
      exact ⟨_, loopO_out he, .inr ⟨rfl, fun j h1 h2 => by omega⟩⟩
    | succ d ih =>
      intro k hd hk
      rcases h k (by omega) with h1 | ⟨h1, h2⟩
      · exact ⟨_, loopO_out h1, .inl rfl⟩
      · obtain ⟨y, g1, g2⟩ := ih (k + 1) (by omega) (by omega)
        refine ⟨y, by rw [loopO_nx h1]; exact g1, g2.imp id fun ⟨e, g3⟩ => ⟨e, fun j j1 j2 => ?_⟩⟩
        by_cases e2 : j = k
        · subst e2; exact h2
        · exact g3 j (by omega) j2
  exact fun k hk => key _ k rfl hk
theorem map_some_get {l : List Nat} {i c : Nat} (h : l[i]? = some c) : (l.map some)[i]? = some (some c) := by rw [List.getElem?_map, h]; rfl
section
variable {t : List Node} {P : Nat → Int × Node} {ws on : List Nat}
theorem apart_a (hR : RT t) (hw : ∀ c ∈ ws, c < t.length) (hlen : ws.length ≤ 1000000) (on : List Nat) {i a : Nat} (hi : ws[i]? = some a) :
    ∃ y, loopO m_spec_apart_0_0 (ws.map some, on.map some, (i : Int), (0 : Int), (FT t).kst P) = some y ∧ (y = .inr (false, (FT t).kst P) ∨ (y = .inl (ws.map some, on.map some, (i : Int), (FT t).kst P) ∧ ∀ k, 0 ≤ k → k < ws.length → ∀ c, ws[k]? = some c → k ≠ i → ¬ Hld t a c)) := by
  refine loop_each (body := m_spec_apart_0_0) (st := fun k => (ws.map some, on.map some, (i : Int), (k : Int), (FT t).kst P)) (n := ws.length) (p := fun k => ∀ c, ws[k]? = some c → k ≠ i → ¬ Hld t a c) (fun k hk => ?_) ?_ 0 (Nat.zero_le _)
  · obtain ⟨c, hc⟩ := get_lt hk
    have ha' := hw a (List.mem_of_getElem? hi)
    have hc' := hw c (List.mem_of_getElem? hc)
    simp only [m_spec_apart_0_0, cond_dec, atI_nat, map_some_get hi, map_some_get hc, bind_some, holds_eq hR P ha' hc']
    rw [if_pos (by simp; omega)]
    by_cases e : k = i
    · rw [if_neg (by simp [e]), w64 (by omega) (by omega)]
      exact .inr ⟨rfl, fun _ _ h => absurd e h⟩
    · rw [if_pos (by omega)]
      by_cases h : a ≤ c ∧ c < a + sz t a
      · rw [if_pos h]; exact .inl rfl
      · rw [if_neg h, w64 (by omega) (by omega)]
        refine .inr ⟨rfl, fun c' hc' _ => ?_⟩
        rw [hc] at hc'
        cases hc'
        exact h
  · simp only [m_spec_apart_0_0, cond_dec]
    rw [if_neg (by simp)]
theorem apart_b (hR : RT t) (hw : ∀ c ∈ ws, c < t.length) (ho : ∀ c ∈ on, c < t.length) (hlen : on.length ≤ 1000000) {i a : Nat} (hi : ws[i]? = some a) :
    ∃ y, loopO m_spec_apart_0_1 (ws.map some, on.map some, (i : Int), (0 : Int), (FT t).kst P) = some y ∧ (y = .inr (false, (FT t).kst P) ∨ (y = .inl (ws.map some, on.map some, (i : Int), (FT t).kst P) ∧ ∀ k, 0 ≤ k → k < on.length → ∀ c, on[k]? = some c → ¬ Hld t a c)) := by
  refine loop_each (body := m_spec_apart_0_1) (st := fun k => (ws.map some, on.map some, (i : Int), (k : Int), (FT t).kst P)) (n := on.length) (p := fun k => ∀ c, on[k]? = some c → ¬ Hld t a c) (fun k hk => ?_) ?_ 0 (Nat.zero_le _)
  · obtain ⟨c, hc⟩ := get_lt hk
    have ha' := hw a (List.mem_of_getElem? hi)
    have hc' := ho c (List.mem_of_getElem? hc)
    simp only [m_spec_apart_0_1, cond_dec, atI_nat, map_some_get hi, map_some_get hc, bind_some, holds_eq hR P ha' hc']
    rw [if_pos (by simp; omega)]
    by_cases h : a ≤ c ∧ c < a + sz t a
    · rw [if_pos h]; exact .inl rfl
    · rw [if_neg h, w64 (by omega) (by omega)]
      refine .inr ⟨rfl, fun c' hc' => ?_⟩
      rw [hc] at hc'
      cases hc'
      exact h
  · simp only [m_spec_apart_0_1, cond_dec]
    rw [if_neg (by simp)]
theorem apart_ex (hR : RT t) (hw : ∀ c ∈ ws, c < t.length) (ho : ∀ c ∈ on, c < t.length) (hl1 : ws.length ≤ 1000000) (hl2 : on.length ≤ 1000000) :
    ∃ b, m_spec_apart (ws.map some, on.map some, (FT t).kst P) = some b ∧ (b = true → (∀ i k a c : Nat, ws[i]? = some a → ws[k]? = some c → k ≠ i → ¬ Hld t a c) ∧ ∀ a ∈ ws, ∀ c ∈ on, ¬ Hld t a c) := by
  obtain ⟨y, h1, h2⟩ := loop_each (body := m_spec_apart_0) (st := fun k => (ws.map some, on.map some, (k : Int), (FT t).kst P)) (n := ws.length) (good := .inl ((FT t).kst P)) (bad := .inr (false, (FT t).kst P))
    (p := fun i => ∀ a, ws[i]? = some a → (∀ k, 0 ≤ k → k < ws.length → ∀ c, ws[k]? = some c → k ≠ i → ¬ Hld t a c) ∧ ∀ k, 0 ≤ k → k < on.length → ∀ c, on[k]? = some c → ¬ Hld t a c) (fun i hi => by
      obtain ⟨a, ha⟩ := get_lt hi
      obtain ⟨y, g1, g2⟩ := apart_a (P := P) hR hw hl1 on ha
      obtain ⟨z, k1, k2⟩ := apart_b (P := P) hR hw ho hl2 ha
      simp only [m_spec_apart_0, cond_dec]
      rw [if_pos (by simp; omega), g1, bind_some]
      rcases g2 with rfl | ⟨rfl, g3⟩
      · exact .inl rfl
      · simp only [selim]
        rw [k1, bind_some]
        rcases k2 with rfl | ⟨rfl, k3⟩
        · exact .inl rfl
        · simp only [selim]
          rw [w64 (by omega) (by omega)]
          refine .inr ⟨rfl, fun a' ha' => ?_⟩
          rw [ha] at ha'
          cases ha'
          exact ⟨g3, k3⟩) (by
      simp only [m_spec_apart_0, cond_dec]
      rw [if_neg (by simp)]) 0 (Nat.zero_le _)
  have h1' : loopO m_spec_apart_0 (ws.map some, on.map some, (0 : Int), (FT t).kst P) = some y := h1
  simp only [m_spec_apart, h1', bind_some]
  rcases h2 with rfl | ⟨rfl, h3⟩
  · exact ⟨false, rfl, fun h => by cases h⟩
  · refine ⟨true, rfl, fun _ => ⟨fun i k a c ha hc hk => ?_, fun a ha c hc => ?_⟩⟩
    · exact (h3 i (Nat.zero_le _) (List.getElem?_eq_some_iff.1 ha).1 a ha).1 k (Nat.zero_le _) (List.getElem?_eq_some_iff.1 hc).1 c hc hk
    · obtain ⟨i, hi⟩ := List.mem_iff_getElem?.1 ha
      obtain ⟨k, hk⟩ := List.mem_iff_getElem?.1 hc
      exact (h3 i (Nat.zero_le _) (List.getElem?_eq_some_iff.1 hi).1 a hi).2 k (Nat.zero_le _) (List.getElem?_eq_some_iff.1 hk).1 c hk
end
section
variable {F : Fo} {P : Nat → Int × Node} {on : List Nat}
theorem stand_ex (ho : ∀ c ∈ on, c < F.m) (hl : on.length ≤ 1000000) : ∃ b, m_spec_stand (on.map some, F.kst P) = some b ∧ (b = true → ∀ c ∈ on, ∃ p, F.up c = some p) := by
  obtain ⟨y, h1, h2⟩ := loop_each (body := m_spec_stand_0) (st := fun k => (on.map some, (k : Int), F.kst P)) (n := on.length) (good := .inl (F.kst P)) (bad := .inr (false, F.kst P)) (p := fun i => ∀ a, on[i]? = some a → ∃ p, F.up a = some p) (fun i hi => by
      obtain ⟨a, ha⟩ := get_lt hi
      have hg := Fo.kget (F := F) (P := P) (ho a (List.mem_of_getElem? ha))
      simp only [m_spec_stand_0, cond_dec, atI_nat, map_some_get ha, bind_some, hg]
      rw [if_pos (by simp; omega)]
      have hu : (F.kn1 P a).up = F.up a := rfl
      rw [hu]
      cases hup : F.up a with
      | none => exact .inl rfl
      | some p =>
        simp only [Option.isNone_some, cond_false]
        rw [w64 (by omega) (by omega)]
        refine .inr ⟨rfl, fun a' ha' => ?_⟩
        rw [ha] at ha'
        cases ha'
        exact ⟨p, hup⟩) (by
      simp only [m_spec_stand_0, cond_dec]
      rw [if_neg (by simp)]) 0 (Nat.zero_le _)
  have h1' : loopO m_spec_stand_0 (on.map some, (0 : Int), F.kst P) = some y := h1
  simp only [m_spec_stand, h1', bind_some]
  rcases h2 with rfl | ⟨rfl, h3⟩
  · exact ⟨false, rfl, fun h => by cases h⟩
  · refine ⟨true, rfl, fun _ a ha => ?_⟩
    obtain ⟨i, hi⟩ := List.mem_iff_getElem?.1 ha
    exact h3 i (Nat.zero_le _) (List.getElem?_eq_some_iff.1 hi).1 a hi
theorem are_ex (ho : ∀ c ∈ on, c < F.m) (hl : on.length ≤ 1000000) : ∃ b, m_spec_are (on.map some, F.kst P) = some b ∧ (b = true → ∀ c ∈ on, (P c).2.kind = 3) := by
  obtain ⟨y, h1, h2⟩ := loop_each (body := m_spec_are_0) (st := fun k => (on.map some, (k : Int), F.kst P)) (n := on.length) (good := .inl (F.kst P)) (bad := .inr (false, F.kst P)) (p := fun i => ∀ a, on[i]? = some a → (P a).2.kind = 3) (fun i hi => by
      obtain ⟨a, ha⟩ := get_lt hi
      have hg := Fo.kget (F := F) (P := P) (ho a (List.mem_of_getElem? ha))
      simp only [m_spec_are_0, cond_dec, atI_nat, map_some_get ha, bind_some, hg]
      rw [if_pos (by simp; omega)]
      have hu : (F.kn1 P a).n = (P a).2 := rfl
      rw [hu]
      by_cases e : (P a).2.kind = 3
      · rw [if_neg (by simp [e]), w64 (by omega) (by omega)]
        refine .inr ⟨rfl, fun a' ha' => ?_⟩
        rw [ha] at ha'
        cases ha'
        exact e
      · rw [if_pos e]; exact .inl rfl) (by
      simp only [m_spec_are_0, cond_dec]
      rw [if_neg (by simp)]) 0 (Nat.zero_le _)
  have h1' : loopO m_spec_are_0 (on.map some, (0 : Int), F.kst P) = some y := h1
  simp only [m_spec_are, h1', bind_some]
  rcases h2 with rfl | ⟨rfl, h3⟩
  · exact ⟨false, rfl, fun h => by cases h⟩
  · refine ⟨true, rfl, fun _ a ha => ?_⟩
    obtain ⟨i, hi⟩ := List.mem_iff_getElem?.1 ha
    exact h3 i (Nat.zero_le _) (List.getElem?_eq_some_iff.1 hi).1 a hi
end
end Go.Proofs.Ytfmlpodcldhgdaa.V
set_option linter.unusedVariables false
set_option linter.unusedSimpArgs false
namespace Go.Proofs.Ytfmlpodcldhgdaa.V
open Go
def putP (P : Nat → Int × Node) : List Nat → Nat → List Int → List Int
  | [], _, at' => at'
  | z :: l, k, at' => putP P l (k + 1) (if 0 ≤ (P z).1 ∧ (P z).1 < at'.length then at'.set (P z).1.toNat (k : Int) else at')
theorem putP_len {P : Nat → Int × Node} : ∀ {l : List Nat} {k : Nat} {at' : List Int}, (putP P l k at').length = at'.length
  | [], _, _ => rfl
  | z :: l, k, at' => by
    simp only [putP, putP_len]
    split <;> simp
theorem putP_app {P : Nat → Int × Node} : ∀ {l m : List Nat} {k : Nat} {at' : List Int}, putP P (l ++ m) k at' = putP P m (k + l.length) (putP P l k at')
  | [], _, _, _ => rfl
  | z :: l, m, k, at' => by
    simp only [List.cons_append, putP, putP_app, List.length_cons]
    rw [show k + 1 + l.length = k + (l.length + 1) by omega]
section
variable {F : Fo} {P : Nat → Int × Node}
theorem listed_eq (hF : F.ok) : ∀ (n x : Nat) (T : List Node) (A : List Int), x < F.m → Ht F.kids n x → T.length + (idsF F.kids n x).length ≤ 1000000 → A.length ≤ 1000000 →
    m_spec_knot_listed n (some x, T, A, F.kst P) = some (T ++ nodesF F.kids (fun i => (P i).2) n x, putP P (idsF F.kids n x) T.length A, F.kst P)
  | 0, _, _, _, _, h, _, _ => h.elim
  | n + 1, x, T, A, hx, hh, hT, hA => by
    have hg := Fo.kget (F := F) (P := P) hx
    have hkk : (F.kn1 P x).kids = (F.kids x).map some := rfl
    have hkn : (F.kn1 P x).n = (P x).2 := rfl
    have hkp : (F.kn1 P x).pl = (P x).1 := rfl
    simp only [idsF, List.length_cons, List.length_flatMap] at hT
    have hklen : ((F.kids x).map fun y => (idsF F.kids n y).length).sum = ((F.kids x).flatMap (idsF F.kids n)).length := by rw [List.length_flatMap]
    have hle : (F.kids x).length ≤ ((F.kids x).flatMap (idsF F.kids n)).length := by
      have : ∀ l : List Nat, (∀ y ∈ l, Ht F.kids n y) → l.length ≤ (l.flatMap (idsF F.kids n)).length := fun l => by
        induction l with
        | nil => simp
        | cons a l ih =>
          intro h
          have h1 := ih fun y hy => h y (by simp [hy])
          have h2 : 1 ≤ (idsF F.kids n a).length := by
            have := h a (by simp)
            cases n with
            | zero => exact this.elim
            | succ n => simp [idsF]
          rw [List.flatMap_cons, List.length_append, List.length_cons]
          omega
      exact this _ hh
    have key : ∀ (A : List Int), A.length ≤ 1000000 → ∀ d j, (F.kids x).length - j = d → j ≤ (F.kids x).length → loopO (m_spec_knot_listed_0 (m_spec_knot_listed n)) (some x, T ++ [(P x).2] ++ ((F.kids x).take j).flatMap (nodesF F.kids (fun i => (P i).2) n), putP P (((F.kids x).take j).flatMap (idsF F.kids n)) (T.length + 1) A, (T.length : Int), (j : Int), F.kst P)
        = some (T ++ [(P x).2] ++ (F.kids x).flatMap (nodesF F.kids (fun i => (P i).2) n), putP P ((F.kids x).flatMap (idsF F.kids n)) (T.length + 1) A, (T.length : Int), F.kst P) := by
      intro A hA d
      induction d with
      | zero =>
        intro j hd hj
        obtain rfl : j = (F.kids x).length := by omega
        refine loopO_out ?_
        simp only [m_spec_knot_listed_0, bind_some, hg, hkk, cond_dec, List.length_map]
        rw [if_neg (by omega), List.take_of_length_le (Nat.le_refl _)]
      | succ d ih =>
        intro j hd hj
        obtain ⟨y, hy⟩ := get_lt (l := F.kids x) (k := j) (by omega)
        have hym := List.mem_of_getElem? hy
        obtain ⟨hu, hym2⟩ := hF.kid hym
        have e1 : (F.kids x).take (j + 1) = (F.kids x).take j ++ [y] := by rw [List.take_add_one, hy]; rfl
        have hsum : (((F.kids x).take (j + 1)).map fun y => (idsF F.kids n y).length).sum ≤ ((F.kids x).map fun y => (idsF F.kids n y).length).sum := by
          have h1 : F.kids x = (F.kids x).take (j + 1) ++ (F.kids x).drop (j + 1) := (List.take_append_drop _ _).symm
          conv => rhs; rw [h1]
          rw [List.map_append, List.sum_append]
          omega
        rw [e1, List.map_append, List.sum_append] at hsum
        simp only [List.map_cons, List.map_nil, List.sum_cons, List.sum_nil] at hsum
        have hlI : (((F.kids x).take j).flatMap (idsF F.kids n)).length = (((F.kids x).take j).map fun y => (idsF F.kids n y).length).sum := by rw [List.length_flatMap]
        have hlN : (((F.kids x).take j).flatMap (nodesF F.kids (fun i => (P i).2) n)).length = (((F.kids x).take j).map fun y => (idsF F.kids n y).length).sum := by
          rw [List.length_flatMap]
          congr 1
          exact List.map_congr_left fun y _ => nodesF_len n y
        have hky : ((F.kids x).map some)[j]? = some (some y) := by rw [List.getElem?_map, hy]; rfl
        have step : m_spec_knot_listed_0 (m_spec_knot_listed n) (some x, T ++ [(P x).2] ++ ((F.kids x).take j).flatMap (nodesF F.kids (fun i => (P i).2) n), putP P (((F.kids x).take j).flatMap (idsF F.kids n)) (T.length + 1) A, (T.length : Int), (j : Int), F.kst P)
            = some (.nx (some x, T ++ [(P x).2] ++ ((F.kids x).take (j + 1)).flatMap (nodesF F.kids (fun i => (P i).2) n), putP P (((F.kids x).take (j + 1)).flatMap (idsF F.kids n)) (T.length + 1) A, (T.length : Int), ((j + 1 : Nat) : Int), F.kst P)) := by
          simp only [m_spec_knot_listed_0, bind_some, hg, hkk, cond_dec, List.length_map, atI_nat, Int.toNat_natCast, hky]
          rw [if_pos (by omega), listed_eq hF n y _ _ hym2 (hh y hym) (by simp only [List.length_append, List.length_cons, List.length_nil, hlN]; omega) (by rw [putP_len]; exact hA), bind_some, w64 (by omega) (by omega), e1]
          simp only [List.flatMap_append, List.flatMap_cons, List.flatMap_nil, List.append_nil, List.append_assoc, putP_app]
          have e2 : (T ++ ([(P x).2] ++ ((F.kids x).take j).flatMap (nodesF F.kids (fun i => (P i).2) n))).length = T.length + 1 + (((F.kids x).take j).flatMap (idsF F.kids n)).length := by
            simp only [List.length_append, List.length_cons, List.length_nil, hlN, hlI]; omega
          rw [e2]
          rfl
        rw [loopO_nx step]
        exact ih (j + 1) (by omega) (by omega)
    have h0 : ∀ (A : List Int), A.length ≤ 1000000 → loopO (m_spec_knot_listed_0 (m_spec_knot_listed n)) (some x, T ++ [(P x).2], A, (T.length : Int), (0 : Int), F.kst P) = some (T ++ [(P x).2] ++ (F.kids x).flatMap (nodesF F.kids (fun i => (P i).2) n), putP P ((F.kids x).flatMap (idsF F.kids n)) (T.length + 1) A, (T.length : Int), F.kst P) := fun A hA => by
      have h := key A hA (F.kids x).length 0 (by omega) (Nat.zero_le _)
      simp only [List.take_zero, List.flatMap_nil, List.append_nil, putP] at h
      exact h
    have hlN : ((F.kids x).flatMap (nodesF F.kids (fun i => (P i).2) n)).length = ((F.kids x).map fun y => (idsF F.kids n y).length).sum := by
      rw [List.length_flatMap]
      congr 1
      exact List.map_congr_left fun y _ => nodesF_len n y
    have hget : (T ++ [(P x).2] ++ (F.kids x).flatMap (nodesF F.kids (fun i => (P i).2) n))[T.length]? = some (P x).2 := by simp
    have hset : ∀ v : Node, (T ++ [(P x).2] ++ (F.kids x).flatMap (nodesF F.kids (fun i => (P i).2) n)).set T.length v = T ++ v :: (F.kids x).flatMap (nodesF F.kids (fun i => (P i).2) n) := fun v => by
      rw [List.append_assoc, List.set_append_right _ _ (Nat.le_refl _)]
      simp
    have hsz : ((T ++ [(P x).2] ++ (F.kids x).flatMap (nodesF F.kids (fun i => (P i).2) n)).length : Int) - (T.length : Int) = 1 + (((F.kids x).flatMap (nodesF F.kids (fun i => (P i).2) n)).length : Nat) := by
      simp only [List.length_append, List.length_cons, List.length_nil]
      omega
    have hw : IntKind.wrap .i64 (((T ++ [(P x).2] ++ (F.kids x).flatMap (nodesF F.kids (fun i => (P i).2) n)).length : Int) - (T.length : Int)) = 1 + (((F.kids x).flatMap (nodesF F.kids (fun i => (P i).2) n)).length : Nat) := by
      rw [w64 (by simp only [List.length_append, List.length_cons, List.length_nil, hlN]; omega) (by simp only [List.length_append, List.length_cons, List.length_nil, hlN]; omega), hsz]
    show b_spec_knot_listed (m_spec_knot_listed n) (some x, T, A, F.kst P) = _
    simp only [b_spec_knot_listed, bind_some, hg, hkn, hkp, cond_dec]
    rw [appL_some (by simp; omega)]
    simp only [bind_some]
    by_cases h1 : 0 ≤ (P x).1
    · rw [if_pos h1]
      by_cases h2 : (P x).1 < (A.length : Int)
      · rw [if_pos h2]
        obtain ⟨v, hv⟩ := get_lt (l := A) (k := (P x).1.toNat) (by omega)
        have hv1 : atI A (P x).1 = some v := by
          have : (P x).1 = (((P x).1.toNat : Nat) : Int) := by omega
          rw [this, atI_nat]
          simpa using hv
        rw [hv1, bind_some, hv, bind_some, h0 _ (by simpa using hA), bind_some]
        simp only [atI_nat, Int.toNat_natCast, hget, bind_some, hset, hw]
        simp only [nodesF, idsF, putP]
        rw [if_pos ⟨h1, h2⟩]
      · rw [if_neg h2, h0 _ hA, bind_some]
        simp only [atI_nat, Int.toNat_natCast, hget, bind_some, hset, hw]
        simp only [nodesF, idsF, putP]
        rw [if_neg (fun h => h2 h.2)]
    · rw [if_neg h1, h0 _ hA, bind_some]
      simp only [atI_nat, Int.toNat_natCast, hget, bind_some, hset, hw]
      simp only [nodesF, idsF, putP]
      rw [if_neg (fun h => h1 h.1)]
end
end Go.Proofs.Ytfmlpodcldhgdaa.V
set_option linter.unusedVariables false
set_option linter.unusedSimpArgs false
namespace Go.Proofs.Ytfmlpodcldhgdaa.V
open Go
def upn (F : Fo) : Nat → Nat → Option Nat
  | 0, z => some z
  | k + 1, z => (upn F k z).bind F.up
section
variable {F : Fo} {r : Nat → Nat}
theorem upn_add : ∀ (b a z : Nat), upn F (a + b) z = (upn F a z).bind (upn F b)
  | 0, a, z => by cases h : upn F a z <;> simp [upn, h]
  | b + 1, a, z => by
    show (upn F (a + b) z).bind F.up = _
    rw [upn_add b a z]
    cases h : upn F a z <;> simp [upn]
theorem upn_rank (hF : F.ok) (hr : ∀ x y, y ∈ F.kids x → r y < r x) : ∀ (k z x : Nat), upn F k z = some x → r z + k ≤ r x
  | 0, z, x, h => by cases h; omega
  | k + 1, z, x, h => by
    simp only [upn] at h
    cases hy : upn F k z with
    | none => rw [hy] at h; cases h
    | some y =>
      rw [hy] at h
      have h1 := upn_rank hF hr k z y hy
      have h2 := hr x y (hF.up h).2
      omega
theorem ids_up (hF : F.ok) : ∀ (n x z : Nat), z ∈ idsF F.kids n x → ∃ k, upn F k z = some x
  | 0, x, z, h => by simp [idsF] at h
  | n + 1, x, z, h => by
    simp only [idsF, List.mem_cons, List.mem_flatMap] at h
    rcases h with rfl | ⟨y, hy, hz⟩
    · exact ⟨0, rfl⟩
    · obtain ⟨k, hk⟩ := ids_up hF n y z hz
      exact ⟨k + 1, by simp only [upn, hk, Option.bind_some]; exact (hF.kid hy).1⟩
theorem ids_apart (hF : F.ok) (hr : ∀ x y, y ∈ F.kids x → r y < r x) {x a b z k l : Nat} (ha : F.up a = some x) (hb : F.up b = some x) (h1 : upn F k z = some a) (h2 : upn F l z = some b) (hkl : k ≤ l) : a = b := by
  by_cases e : k = l
  · subst e; rw [h1] at h2; exact Option.some.inj h2
  · have h3 := upn_add (F := F) (l - k) k z
    rw [show k + (l - k) = l by omega, h2, h1, Option.bind_some] at h3
    have h4 := upn_add (F := F) (l - k - 1) 1 a
    rw [show 1 + (l - k - 1) = l - k by omega, ← h3] at h4
    have h5 : upn F 1 a = some x := by simp [upn, ha]
    rw [h5, Option.bind_some] at h4
    have h6 := upn_rank hF hr _ _ _ h4.symm
    have h7 := hr x b (hF.up hb).2
    omega
theorem ids_nodup (hF : F.ok) (hr : ∀ x y, y ∈ F.kids x → r y < r x) : ∀ (n x : Nat), (idsF F.kids n x).Nodup
  | 0, x => by simp [idsF]
  | n + 1, x => by
    simp only [idsF]
    refine List.nodup_cons.2 ⟨fun h => ?_, ?_⟩
    · obtain ⟨y, hy, hz⟩ := List.mem_flatMap.1 h
      obtain ⟨k, hk⟩ := ids_up hF n y x hz
      have h1 := upn_rank hF hr k x y hk
      have h2 := hr x y hy
      omega
    · unfold List.Nodup
      rw [List.pairwise_flatMap]
      refine ⟨fun y _ => ids_nodup hF hr n y, (hF.nd x).imp_of_mem fun {a b} ha hb hab z hz w hw e => ?_⟩
      subst e
      obtain ⟨k, hk⟩ := ids_up hF n a z hz
      obtain ⟨l, hl⟩ := ids_up hF n b z hw
      have ua := (hF.kid ha).1
      have ub := (hF.kid hb).1
      by_cases e : k ≤ l
      · exact hab (ids_apart hF hr ua ub hk hl e)
      · exact hab (ids_apart hF hr ub ua hl hk (by omega)).symm
theorem ids_lt (hF : F.ok) : ∀ (n x : Nat), x < F.m → ∀ z ∈ idsF F.kids n x, z < F.m
  | 0, x, _, z, h => by simp [idsF] at h
  | n + 1, x, hx, z, h => by
    simp only [idsF, List.mem_cons, List.mem_flatMap] at h
    rcases h with rfl | ⟨y, hy, hz⟩
    · exact hx
    · exact ids_lt hF n y (hF.kid hy).2 z hz
theorem ids_len (hF : F.ok) (hr : ∀ x y, y ∈ F.kids x → r y < r x) (n : Nat) {x : Nat} (hx : x < F.m) : (idsF F.kids n x).length ≤ F.m := by
  have h := (ids_nodup hF hr n x).length_le_of_subset (l₂ := List.range F.m) (fun z hz => List.mem_range.2 (ids_lt hF n x hx z hz))
  rwa [List.length_range] at h
end
end Go.Proofs.Ytfmlpodcldhgdaa.V
set_option linter.unusedVariables false
set_option linter.unusedSimpArgs false
namespace Go.Proofs.Ytfmlpodcldhgdaa.V
open Go
theorem flat_congr {α β : Type} {f g : α → List β} : ∀ {l : List α}, (∀ y ∈ l, f y = g y) → l.flatMap f = l.flatMap g
  | [], _ => rfl
  | a :: l, h => by rw [List.flatMap_cons, List.flatMap_cons, h a (by simp), flat_congr fun y hy => h y (by simp [hy])]
theorem ids_fuel {K : Nat → List Nat} : ∀ {n m x : Nat}, Ht K n x → Ht K m x → idsF K n x = idsF K m x
  | 0, _, _, h, _ => h.elim
  | _ + 1, 0, _, _, h => h.elim
  | n + 1, m + 1, x, h1, h2 => by
    simp only [idsF]
    rw [flat_congr fun y hy => ids_fuel (h1 y hy) (h2 y hy)]
theorem nodes_fuel {K : Nat → List Nat} {N : Nat → Node} : ∀ {n m x : Nat}, Ht K n x → Ht K m x → nodesF K N n x = nodesF K N m x
  | 0, _, _, h, _ => h.elim
  | _ + 1, 0, _, _, h => h.elim
  | n + 1, m + 1, x, h1, h2 => by
    simp only [nodesF]
    rw [flat_congr fun y hy => nodes_fuel (h1 y hy) (h2 y hy)]
theorem flat_split {α β : Type} {f : α → List β} : ∀ {l : List α} {j : Nat}, j < (l.flatMap f).length → ∃ A c B k, l = A ++ c :: B ∧ k < (f c).length ∧ j = (A.flatMap f).length + k
  | [], j, h => by simp at h
  | a :: l, j, h => by
    rw [List.flatMap_cons, List.length_append] at h
    by_cases e : j < (f a).length
    · exact ⟨[], a, l, j, rfl, e, by simp⟩
    · obtain ⟨A, c, B, k, e1, e2, e3⟩ := flat_split (f := f) (l := l) (j := j - (f a).length) (by omega)
      exact ⟨a :: A, c, B, k, by rw [e1]; rfl, e2, by rw [List.flatMap_cons, List.length_append]; omega⟩
section
variable {K : Nat → List Nat} {N : Nat → Node} {n : Nat} {r x y z a b c i : Nat} {A B : List Nat}
theorem flat_len (l : List Nat) : (l.flatMap (nodesF K N n)).length = (l.flatMap (idsF K n)).length := by
  rw [List.length_flatMap, List.length_flatMap]
  congr 1
  exact List.map_congr_left fun y _ => nodesF_len n y
theorem ids_fix (h : ∀ x, Ht K n x) (x : Nat) : idsF K n x = x :: (K x).flatMap (idsF K n) := by
  rw [ids_fuel (h x) (m := n + 1) (fun y _ => h y)]
  rfl
theorem nodes_fix (h : ∀ x, Ht K n x) (x : Nat) : nodesF K N n x = ⟨(N x).kind, (N x).tag, (N x).text, (N x).attrs, ((nodesF K N n x).length : Nat)⟩ :: (K x).flatMap (nodesF K N n) := by
  have h1 : nodesF K N n x = nodesF K N (n + 1) x := nodes_fuel (h x) (m := n + 1) (fun y _ => h y)
  have h2 : (nodesF K N (n + 1) x).length = 1 + ((K x).flatMap (nodesF K N n)).length := by simp only [nodesF, List.length_cons]; omega
  rw [h1, h2]
  simp only [nodesF]
  rfl
def Oc (K : Nat → List Nat) (N : Nat → Node) (n r a z : Nat) : Prop := ∃ p q u v, idsF K n r = p ++ idsF K n z ++ q ∧ p.length = a ∧ nodesF K N n r = u ++ nodesF K N n z ++ v ∧ u.length = a
theorem Oc.refl : Oc K N n r 0 r := ⟨[], [], [], [], by simp, rfl, by simp, rfl⟩
theorem Oc.trans (h1 : Oc K N n x a y) (h2 : Oc K N n y b z) : Oc K N n x (a + b) z := by
  obtain ⟨p, q, u, v, e1, e2, e3, e4⟩ := h1
  obtain ⟨p', q', u', v', f1, f2, f3, f4⟩ := h2
  exact ⟨p ++ p', q' ++ q, u ++ u', v' ++ v, by rw [e1, f1]; simp, by simp [e2, f2], by rw [e3, f3]; simp, by simp [e4, f4]⟩
theorem Oc.kid (h : ∀ x, Ht K n x) (hk : K z = A ++ c :: B) : Oc K N n z (1 + (A.flatMap (idsF K n)).length) c := by
  refine ⟨z :: A.flatMap (idsF K n), B.flatMap (idsF K n), ⟨(N z).kind, (N z).tag, (N z).text, (N z).attrs, ((nodesF K N n z).length : Nat)⟩ :: A.flatMap (nodesF K N n), B.flatMap (nodesF K N n), ?_, ?_, ?_, ?_⟩
  · rw [ids_fix h z, hk]; simp
  · simp only [List.length_cons]; omega
  · conv => lhs; rw [nodes_fix h z, hk]
    simp
  · simp only [List.length_cons, flat_len]; omega
theorem oc_all (h : ∀ x, Ht K n x) : ∀ (m x : Nat), Ht K m x → ∀ i, i < (idsF K n x).length → ∃ z, Oc K N n x i z
  | 0, _, hx, _, _ => hx.elim
  | m + 1, x, hx, i, hi => by
    rw [ids_fix h x, List.length_cons] at hi
    cases i with
    | zero => exact ⟨x, .refl⟩
    | succ i =>
      obtain ⟨A, c, B, k, e1, e2, e3⟩ := flat_split (f := idsF K n) (l := K x) (j := i) (by omega)
      obtain ⟨z, hz⟩ := oc_all h m c (hx c (by rw [e1]; simp)) k e2
      refine ⟨z, ?_⟩
      have := (Oc.kid (N := N) h e1).trans hz
      rw [show i + 1 = 1 + (A.flatMap (idsF K n)).length + k by omega]
      exact this
theorem Oc.id (h : ∀ x, Ht K n x) (ho : Oc K N n r a z) : (idsF K n r)[a]? = some z := by
  obtain ⟨p, q, u, v, e1, e2, e3, e4⟩ := ho
  rw [e1, ids_fix h z]
  subst e2
  simp
theorem Oc.nd (h : ∀ x, Ht K n x) (ho : Oc K N n r a z) : (nodesF K N n r)[a]? = some ⟨(N z).kind, (N z).tag, (N z).text, (N z).attrs, ((nodesF K N n z).length : Nat)⟩ := by
  obtain ⟨p, q, u, v, e1, e2, e3, e4⟩ := ho
  rw [e3]
  conv => lhs; rw [nodes_fix h z]
  subst e4
  simp
theorem Oc.sz (h : ∀ x, Ht K n x) (ho : Oc K N n r a z) : V.sz (nodesF K N n r) a = (nodesF K N n z).length := by
  rw [sz_some (ho.nd h)]
  simp
theorem Oc.le (ho : Oc K N n r a z) : a + (nodesF K N n z).length ≤ (nodesF K N n r).length := by
  obtain ⟨p, q, u, v, e1, e2, e3, e4⟩ := ho
  rw [e3, ← e4]
  simp only [List.length_append]
  omega
theorem nodes_pos (h : ∀ x, Ht K n x) (z : Nat) : 1 ≤ (nodesF K N n z).length := by
  rw [nodes_fix h z]
  simp only [List.length_cons]
  omega
theorem oc_at (h : ∀ x, Ht K n x) {i : Nat} (hi : i < (nodesF K N n x).length) : ∃ z, Oc K N n x i z := oc_all h n x (h x) i (by rwa [nodesF_len] at hi)
theorem fl_lam (h : ∀ x, Ht K n x) (r : Nat) : Lam (nodesF K N n r) 0 (nodesF K N n r).length := by
  refine ⟨fun i _ hi => ?_, fun i j _ hi hj hj' => ?_⟩
  · obtain ⟨z, hz⟩ := oc_at h hi
    refine ⟨_, hz.nd h, by rw [hz.sz h], ?_, ?_⟩
    · rw [hz.sz h]; exact nodes_pos h z
    · rw [hz.sz h]; exact hz.le
  · obtain ⟨z, hz⟩ := oc_at h hi
    rw [hz.sz h] at hj' ⊢
    obtain ⟨w, hw⟩ := oc_at (N := N) h (x := z) (i := j - i) (by omega)
    have h2 := hz.trans hw
    rw [show i + (j - i) = j by omega] at h2
    rw [h2.sz h]
    have := hw.le
    omega
theorem Oc.sub (h : ∀ x, Ht K n x) (ho : Oc K N n r a z) : ((nodesF K N n r).drop a).take (V.sz (nodesF K N n r) a) = nodesF K N n z := by
  rw [ho.sz h]
  obtain ⟨p, q, u, v, e1, e2, e3, e4⟩ := ho
  rw [e3, ← e4]
  simp
theorem Oc.kids (h : ∀ x, Ht K n x) (ho : Oc K N n r a z) : ∀ (B A : List Nat) (f : Nat), K z = A ++ B → B.length ≤ f → ∃ l, kidsF (nodesF K N n r) f (a + 1 + (A.flatMap (idsF K n)).length) (a + (nodesF K N n z).length) = l ∧ F2 (fun b c => Oc K N n r b c) l B
  | [], A, f, hk, _ => by
    have hlen : (nodesF K N n z).length = 1 + (A.flatMap (idsF K n)).length := by
      rw [nodes_fix h z, hk, List.append_nil, List.length_cons, flat_len]; omega
    cases f with
    | zero => exact ⟨[], rfl, .nil⟩
    | succ f =>
      simp only [kidsF]
      rw [if_neg (by omega)]
      exact ⟨[], rfl, .nil⟩
  | c :: B, A, 0, hk, hf => by simp at hf
  | c :: B, A, f + 1, hk, hf => by
    have hoc := ho.trans (Oc.kid (N := N) h hk)
    rw [show a + (1 + (A.flatMap (idsF K n)).length) = a + 1 + (A.flatMap (idsF K n)).length by omega] at hoc
    have hlen : (nodesF K N n z).length = 1 + (A.flatMap (idsF K n)).length + (idsF K n c).length + (B.flatMap (idsF K n)).length := by
      rw [nodes_fix h z, hk, List.length_cons, flat_len]
      simp only [List.flatMap_append, List.flatMap_cons, List.length_append]
      omega
    have hc : 1 ≤ (idsF K n c).length := by rw [ids_fix h c, List.length_cons]; omega
    obtain ⟨l, h1, h2⟩ := Oc.kids h ho B (A ++ [c]) f (by rw [hk]; simp) (by simp only [List.length_cons] at hf; omega)
    simp only [kidsF]
    rw [if_pos (by omega), hoc.sz h, nodesF_len n c]
    have e : a + 1 + ((A ++ [c]).flatMap (idsF K n)).length = a + 1 + (A.flatMap (idsF K n)).length + (idsF K n c).length := by
      simp only [List.flatMap_append, List.flatMap_cons, List.flatMap_nil, List.append_nil, List.length_append]
      omega
    rw [e] at h1
    rw [h1]
    exact ⟨_, rfl, .cons hoc h2⟩
theorem kids_len (h : ∀ x, Ht K n x) (z : Nat) : (K z).length < (nodesF K N n z).length := by
  rw [nodes_fix h z, List.length_cons, flat_len]
  have : ∀ l : List Nat, l.length ≤ (l.flatMap (idsF K n)).length := fun l => by
    induction l with
    | nil => simp
    | cons a l ih =>
      have hc : 1 ≤ (idsF K n a).length := by rw [ids_fix h a, List.length_cons]; omega
      rw [List.flatMap_cons, List.length_append, List.length_cons]
      omega
  have := this (K z)
  omega
theorem fl_kids (h : ∀ x, Ht K n x) (ho : Oc K N n r a z) : F2 (fun b c => Oc K N n r b c) (kidsN (nodesF K N n r) a) (K z) := by
  have h1 := kids_len (N := N) h z
  obtain ⟨l, e1, e2⟩ := Oc.kids h ho (K z) [] (V.sz (nodesF K N n r) a) rfl (by rw [ho.sz h]; omega)
  unfold kidsN
  rw [ho.sz h] at e1 ⊢
  simp only [List.flatMap_nil, List.length_nil, Nat.add_zero] at e1
  rw [e1]
  exact e2
theorem oc_of (h : ∀ x, Ht K n x) (hz : (idsF K n r)[a]? = some z) : Oc K N n r a z := by
  have hl := (List.getElem?_eq_some_iff.1 hz).1
  obtain ⟨w, hw⟩ := oc_all (N := N) h n r (h r) a hl
  have := hw.id h
  rw [hz] at this
  cases this
  exact hw
theorem idxOf_at {l : List Nat} (hn : l.Nodup) (h : l[a]? = some z) : l.idxOf z = a := by
  obtain ⟨h1, h2⟩ := List.getElem?_eq_some_iff.1 h
  subst h2
  exact hn.idxOf_getElem a h1
theorem oc_in (h : ∀ x, Ht K n x) (hz : z ∈ idsF K n r) : Oc K N n r ((idsF K n r).idxOf z) z :=
  oc_of h (by rw [List.getElem?_eq_getElem (List.idxOf_lt_length_of_mem hz), List.getElem_idxOf])
theorem Oc.mem (h : ∀ x, Ht K n x) (ho : Oc K N n r a z) : z ∈ idsF K n r := List.mem_of_getElem? (ho.id h)
theorem fl_kids_map (h : ∀ x, Ht K n x) (hn : (idsF K n r).Nodup) (ho : Oc K N n r a z) : kidsN (nodesF K N n r) a = (K z).map fun c => (idsF K n r).idxOf c := by
  have h1 := fl_kids h ho
  have key : ∀ {l m : List Nat}, F2 (fun b c => Oc K N n r b c) l m → l = m.map fun c => (idsF K n r).idxOf c := fun {l m} h2 => by
    induction h2 with
    | nil => rfl
    | cons h3 _ ih => rw [List.map_cons, ← ih, idxOf_at hn (h3.id h)]
  exact key h1
theorem kid_in (h : ∀ x, Ht K n x) (hz : z ∈ idsF K n r) (hc : c ∈ K z) : c ∈ idsF K n r := by
  have h1 := oc_in (N := fun _ => ⟨0, [], [], [], 0⟩) h hz
  obtain ⟨A, B, e⟩ := List.append_of_mem hc
  exact (h1.trans (Oc.kid h e)).mem h
end
end Go.Proofs.Ytfmlpodcldhgdaa.V
set_option linter.unusedVariables false
set_option linter.unusedSimpArgs false
namespace Go.Proofs.Ytfmlpodcldhgdaa.V
open Go
structure Flt (t : List Node) (G : Fo) (n : Nat) : Prop where
  ok : G.ok
  m : G.m = t.length
  ht : ∀ x, Ht G.kids n x
  nd : (idsF G.kids n 0).Nodup
  leaf : ∀ z c, c ∈ G.kids z → ∃ v, t[z]? = some v ∧ (v.kind = 3 ∨ v.kind = 1)
section
variable {t : List Node} {G : Fo} {n i z : Nat}
theorem Flt.lt (h : Flt t G n) (hR : RT t) {z : Nat} (hz : z ∈ idsF G.kids n 0) : z < t.length := by
  have := ids_lt h.ok n 0 (by rw [h.m]; exact hR.pos) z hz
  rwa [h.m] at this
theorem Flt.tl (h : Flt t G n) : (tree t G n).length = (idsF G.kids n 0).length := nodesF_len n 0
theorem Flt.le (h : Flt t G n) (hR : RT t) : (tree t G n).length ≤ t.length := by
  rw [h.tl]
  have h1 := h.nd.length_le_of_subset (l₂ := List.range t.length) (fun z hz => List.mem_range.2 (h.lt hR hz))
  rwa [List.length_range] at h1
theorem Flt.at (h : Flt t G n) (hR : RT t) (hz : Oc G.kids (fun i => kn (bs0 t i)) n 0 i z) : ∃ v, t[z]? = some v ∧ (tree t G n)[i]? = some ⟨v.kind, v.tag, v.text, v.attrs, (sz (tree t G n) i : Nat)⟩ := by
  obtain ⟨v, hv⟩ := get_lt (h.lt hR (hz.mem h.ht))
  refine ⟨v, hv, ?_⟩
  have h1 := hz.nd h.ht
  rw [kn_bs0 hR hv] at h1
  have h2 := hz.sz h.ht
  unfold tree
  rw [h1, h2]
theorem Flt.rt (h : Flt t G n) (hR : RT t) : RT (tree t G n) := by
  have h0 : Oc G.kids (fun i => kn (bs0 t i)) n 0 0 0 := .refl
  refine ⟨?_, ?_, ?_, ?_, ?_, ?_, ?_⟩
  · exact nodes_pos h.ht 0
  · have := h.le hR; have := hR.len; omega
  · exact h0.sz h.ht
  · exact fl_lam h.ht 0
  · obtain ⟨v, hv, hv2⟩ := h.at hR h0
    obtain ⟨w, hw, hw2⟩ := hR.k0
    rw [hv] at hw
    cases hw
    exact ⟨_, hv2, hw2⟩
  · intro i u hu
    obtain ⟨z, hz⟩ := oc_at h.ht (List.getElem?_eq_some_iff.1 hu).1
    obtain ⟨v, hv, hv2⟩ := h.at hR hz
    have hu' : (tree t G n)[i]? = some u := hu
    rw [hv2] at hu'
    cases hu'
    have hN := hR.node z v hv
    refine ⟨hN.kd, fun hk => ?_, fun h3 h1 => ?_, hN.k3, hN.k4, hN.k5, hN.k6, hN.k7⟩
    · have hz0 := hN.k1 hk
      subst hz0
      rw [← idxOf_at h.nd (hz.id h.ht), idxOf_at h.nd (h0.id h.ht)]
    · have hs := hz.sz h.ht
      have hs' : sz (tree t G n) i = _ := hs
      rw [hs', nodes_fix h.ht z]
      have : G.kids z = [] := by
        cases hK : G.kids z with
        | nil => rfl
        | cons c l =>
          obtain ⟨w, hw, hw2⟩ := h.leaf z c (by rw [hK]; simp)
          rw [hv] at hw
          cases hw
          rcases hw2 with hw2 | hw2
          · exact absurd hw2 h3
          · exact absurd hw2 h1
      rw [this]
      rfl
  · intro i u hu
    obtain ⟨z, hz⟩ := oc_at h.ht (List.getElem?_eq_some_iff.1 hu).1
    obtain ⟨v, hv, hv2⟩ := h.at hR hz
    have hu' : (tree t G n)[i]? = some u := hu
    rw [hv2] at hu'
    cases hu'
    exact hR.txt z v hv
theorem Flt.fits (h : Flt t G n) (hR : RT t) (hf : fits1 t = true) : fits1 (tree t G n) = true := by
  have hle := h.le hR
  have hlen := hR.len
  unfold fits1 at hf ⊢
  rw [decide_eq_true (by omega), Bool.true_and]
  rw [Bool.and_eq_true] at hf
  rw [List.all_eq_true]
  intro u hu
  obtain ⟨i, hi⟩ := List.mem_iff_getElem?.1 hu
  obtain ⟨z, hz⟩ := oc_at h.ht (List.getElem?_eq_some_iff.1 hi).1
  obtain ⟨v, hv, hv2⟩ := h.at hR hz
  rw [hv2] at hi
  cases hi
  exact List.all_eq_true.1 hf.2 v (List.mem_of_getElem? hv)
theorem reach {F : Fo} {r : Nat → Nat} {M : Nat} (hF : F.ok) (hh : ∀ x, Ht F.kids n x) (hr : ∀ x y, y ∈ F.kids x → r y < r x) (hM : ∀ x, r x ≤ M) (hup : ∀ z, z < F.m → z ≠ 0 → ∃ p, F.up z = some p) : ∀ (d z : Nat), M - r z = d → z < F.m → z ∈ idsF F.kids n 0 := by
  intro d
  induction d using Nat.strongRecOn with
  | ind d ih =>
    intro z hd hz
    by_cases e : z = 0
    · subst e
      rw [ids_fix hh 0]
      exact List.mem_cons_self
    · obtain ⟨p, hp⟩ := hup z hz e
      obtain ⟨h1, h2⟩ := hF.up hp
      have h3 := hr p z h2
      have h4 := hM p
      exact kid_in hh (ih (M - r p) (by omega) p rfl h1) h2
end
end Go.Proofs.Ytfmlpodcldhgdaa.V
set_option linter.unusedVariables false
set_option linter.unusedSimpArgs false
namespace Go.Proofs.Ytfmlpodcldhgdaa.V
open Go
section
variable {t : List Node} {p c d x y z : Nat} {cs A B : List Nat} {n : Nat}
open Classical in
noncomputable def stays (t : List Node) (cs : List Nat) (z : Nat) : Bool := decide (¬ ∃ d ∈ cs, Hld t d z)
theorem stays_false : stays t cs z = false ↔ ∃ d ∈ cs, Hld t d z := by simp [stays]
theorem ft_mem (h : y ∈ (FT t).kids x) : x < t.length ∧ y ∈ kidsN t x := by
  simp only [FT] at h
  by_cases e : x < t.length
  · rw [if_pos e] at h; exact ⟨e, h⟩
  · rw [if_neg e] at h; cases h
theorem kid_facts (hR : RT t) (h : y ∈ (FT t).kids x) : x < y ∧ y < x + sz t x ∧ y < t.length ∧ x < t.length ∧ par t y = some x := by
  obtain ⟨h1, h2⟩ := ft_mem h
  have h3 := kids_par (hR.L h1) h2
  have h4 := par_some h3
  have h5 := hR.le h1
  exact ⟨h4.1, h4.2.1, by omega, h1, h3⟩
theorem hld_down (hR : RT t) (hdl : d < t.length) (hpar : par t y = some x) (h : Hld t d x) : Hld t d y := by
  obtain ⟨h1, h2, h3⟩ := par_some hpar
  obtain ⟨k1, k2⟩ := h
  refine ⟨by omega, ?_⟩
  by_cases e : d = x
  · subst e; exact h2
  · have := hR.lam.nest d x (Nat.zero_le _) hdl (by omega) k2
    omega
theorem hld_self (hR : RT t) (h : d < t.length) : Hld t d d := ⟨Nat.le_refl _, by have := hR.sz1 h; omega⟩
theorem filt_mem {X : List Nat} : y ∈ X.filter (fun j => decide (j ∉ cs)) ↔ y ∈ X ∧ y ∉ cs := by
  rw [List.mem_filter]
  simp
theorem filt_all {X : List Nat} (h : ∀ y ∈ X, y ∉ cs) : X.filter (fun j => decide (j ∉ cs)) = X := by
  rw [List.filter_eq_self]
  intro y hy
  simpa using h y hy
theorem mvd_kids_ne (h : x ≠ p) : (mvd (FT t) p A cs B).kids x = ((FT t).kids x).filter fun j => decide (j ∉ cs) := by
  simp only [mvd, Fo.hang, Fo.off, if_neg h]
theorem mvd_kids_p : (mvd (FT t) p A cs B).kids p = (A.filter fun j => decide (j ∉ cs)) ++ cs ++ (B.filter fun j => decide (j ∉ cs)) := by
  simp only [mvd, Fo.hang, if_true]
theorem mvd_in (hR : RT t) (h : Mv t p cs) (hx : ∃ d ∈ cs, Hld t d x) : (mvd (FT t) p A cs B).kids x = (FT t).kids x := by
  obtain ⟨d, hd, hh⟩ := hx
  have hne : x ≠ p := fun e => h.p d hd (e ▸ hh)
  rw [mvd_kids_ne hne]
  refine filt_all fun y hy hyc => ?_
  obtain ⟨h1, h2, h3, h4, h5⟩ := kid_facts hR hy
  have := h.a d hd y hyc (hld_down hR (h.d.bd d hd) h5 hh)
  have := hh.1
  omega
theorem mvd_ids_in (hR : RT t) (h : Mv t p cs) : ∀ (m x : Nat), (∃ d ∈ cs, Hld t d x) → idsF (mvd (FT t) p A cs B).kids m x = idsF (FT t).kids m x
  | 0, _, _ => rfl
  | m + 1, x, hx => by
    simp only [idsF, mvd_in hR h hx]
    rw [flat_congr fun y hy => mvd_ids_in hR h m y ?_]
    obtain ⟨d, hd, hh⟩ := hx
    exact ⟨d, hd, hld_down hR (h.d.bd d hd) (kid_facts hR hy).2.2.2.2 hh⟩
theorem mvd_nodes_in (hR : RT t) (h : Mv t p cs) {N : Nat → Node} : ∀ (m x : Nat), (∃ d ∈ cs, Hld t d x) → nodesF (mvd (FT t) p A cs B).kids N m x = nodesF (FT t).kids N m x
  | 0, _, _ => rfl
  | m + 1, x, hx => by
    simp only [nodesF, mvd_in hR h hx]
    rw [flat_congr fun y hy => mvd_nodes_in hR h m y ?_]
    obtain ⟨d, hd, hh⟩ := hx
    exact ⟨d, hd, hld_down hR (h.d.bd d hd) (kid_facts hR hy).2.2.2.2 hh⟩
theorem filter_flat {α β : Type} {q : β → Bool} {f : α → List β} : ∀ {l : List α}, (l.flatMap f).filter q = l.flatMap fun a => (f a).filter q
  | [] => rfl
  | a :: l => by rw [List.flatMap_cons, List.filter_append, filter_flat, List.flatMap_cons]
theorem flat_nil {α β : Type} {f : α → List β} : ∀ {l : List α}, (∀ a ∈ l, f a = []) → l.flatMap f = []
  | [], _ => rfl
  | a :: l, h => by rw [List.flatMap_cons, h a (by simp), flat_nil fun b hb => h b (by simp [hb])]; rfl
theorem flat_filt {α β : Type} {q : α → Bool} {f : α → List β} : ∀ {l : List α}, (∀ a ∈ l, q a = false → f a = []) → (l.filter q).flatMap f = l.flatMap f
  | [], _ => rfl
  | a :: l, h => by
    have ih := flat_filt (q := q) (f := f) (l := l) fun b hb => h b (by simp [hb])
    rw [List.flatMap_cons]
    cases hq : q a with
    | true => rw [List.filter_cons_of_pos hq, List.flatMap_cons, ih]
    | false => rw [List.filter_cons_of_neg (by simp [hq]), ih, h a (by simp) hq]; rfl
theorem ids_moved (hR : RT t) (h : Mv t p cs) : ∀ (m x : Nat), (∃ d ∈ cs, Hld t d x) → (idsF (FT t).kids m x).filter (stays t cs) = []
  | 0, _, _ => rfl
  | m + 1, x, hx => by
    simp only [idsF]
    rw [List.filter_cons_of_neg (by rw [stays_false.2 hx]; simp), filter_flat]
    refine flat_nil fun y hy => ids_moved hR h m y ?_
    obtain ⟨d, hd, hh⟩ := hx
    exact ⟨d, hd, hld_down hR (h.d.bd d hd) (kid_facts hR hy).2.2.2.2 hh⟩
theorem ids_stay (hR : RT t) (hp : p < t.length) (hk : kidsN t p = A ++ B) (h : Mv t p cs) : ∀ (m x : Nat), (idsF (mvd (FT t) p A cs B).kids m x).filter (stays t cs) = (idsF (FT t).kids m x).filter (stays t cs)
  | 0, _ => rfl
  | m + 1, x => by
    have e1 : ∀ X : List Nat, (X.filter fun j => decide (j ∉ cs)).flatMap (fun a => (idsF (mvd (FT t) p A cs B).kids m a).filter (stays t cs)) = X.flatMap fun a => (idsF (FT t).kids m a).filter (stays t cs) := fun X => by
      rw [flat_filt (fun a ha hq => ?_)]
      · exact flat_congr fun a ha => ids_stay hR hp hk h m a
      · have hac : a ∈ cs := by simpa using hq
        have hm : ∃ d ∈ cs, Hld t d a := ⟨a, hac, hld_self hR (h.d.bd a hac)⟩
        rw [mvd_ids_in hR h m a hm, ids_moved hR h m a hm]
    have e2 : ((mvd (FT t) p A cs B).kids x).flatMap (fun a => (idsF (mvd (FT t) p A cs B).kids m a).filter (stays t cs)) = ((FT t).kids x).flatMap fun a => (idsF (FT t).kids m a).filter (stays t cs) := by
      by_cases e : x = p
      · subst e
        rw [mvd_kids_p, List.flatMap_append, List.flatMap_append, e1, e1, ft_kids hp, hk, List.flatMap_append]
        rw [flat_nil (l := cs) fun a hac => ?_, List.append_nil]
        have hm : ∃ d ∈ cs, Hld t d a := ⟨a, hac, hld_self hR (h.d.bd a hac)⟩
        rw [mvd_ids_in hR h m a hm, ids_moved hR h m a hm]
      · rw [mvd_kids_ne e, e1]
    simp only [idsF]
    rw [List.filter_cons, List.filter_cons, filter_flat, filter_flat, e2]
theorem par_ex (hR : RT t) (hz : z < t.length) (h0 : z ≠ 0) : ∃ q, par t z = some q := by
  cases h : par t z with
  | some q => exact ⟨q, rfl⟩
  | none =>
    have := parF_none h 0 (by omega)
    have := hR.root
    omega
structure Pl (t : List Node) (p : Nat) (A B cs : List Nat) : Prop where
  hp : p < t.length
  hk : kidsN t p = A ++ B
  mv : Mv t p cs
  kd : ∃ v, t[p]? = some v ∧ (v.kind = 3 ∨ v.kind = 1)
  z : ∀ d ∈ cs, d ≠ 0
theorem kid_kind (hR : RT t) (h : y ∈ (FT t).kids x) : ∃ v, t[x]? = some v ∧ (v.kind = 3 ∨ v.kind = 1) := by
  obtain ⟨h1, h2, h3, h4, h5⟩ := kid_facts hR h
  obtain ⟨v, hv⟩ := get_lt h4
  refine ⟨v, hv, ?_⟩
  have := (hR.node x v hv).k2
  by_cases e3 : v.kind = 3
  · exact .inl e3
  by_cases e1 : v.kind = 1
  · exact .inr e1
  have := this e3 e1
  omega
theorem rankM_le (hR : RT t) (x : Nat) : rankM t cs x ≤ 400 := by
  have := hR.len
  unfold rankM
  split <;> omega
theorem Pl.ne (hR : RT t) (h : Pl t p A B cs) : ∀ d ∈ cs, p ≠ d := fun d hd e => by
  subst e
  exact h.mv.p _ hd (hld_self hR h.hp)
theorem Pl.ok (hR : RT t) (h : Pl t p A B cs) : (mvd (FT t) p A cs B).ok :=
  mvd_ok (FT_ok hR) h.hp (by rw [ft_kids h.hp]; exact h.hk) (fun d hd => ⟨h.mv.d.bd d hd, h.ne hR d hd⟩) h.mv.d.nd
theorem Pl.fl (hR : RT t) (h : Pl t p A B cs) (hn : 1000000 ≤ n) : Flt t (mvd (FT t) p A cs B) n := by
  refine ⟨h.ok hR, rfl, fun x => ht_mvd hR h.hp h.hk h.mv hn x, ids_nodup (h.ok hR) (rank_lt hR h.hp h.hk h.mv) n 0, fun x y hy => ?_⟩
  by_cases e : x = p
  · subst e; exact h.kd
  · rw [mvd_kids_ne e, filt_mem] at hy
    exact kid_kind hR hy.1
theorem Pl.all (hR : RT t) (h : Pl t p A B cs) (hn : 1000000 ≤ n) {z : Nat} (hz : z < t.length) : z ∈ idsF (mvd (FT t) p A cs B).kids n 0 := by
  refine reach (r := rankM t cs) (M := 400) (h.ok hR) (fun x => ht_mvd hR h.hp h.hk h.mv hn x) (rank_lt hR h.hp h.hk h.mv) (rankM_le hR) (fun z hz h0 => ?_) _ z rfl hz
  have hz' : z < t.length := hz
  simp only [mvd, Fo.hang, Fo.off]
  by_cases e : z ∈ cs
  · rw [if_pos e]; exact ⟨p, rfl⟩
  · rw [if_neg e, if_neg e]
    simp only [FT, if_pos hz']
    exact par_ex hR hz' h0
theorem Pl.len (hR : RT t) (h : Pl t p A B cs) (hn : 1000000 ≤ n) : (idsF (mvd (FT t) p A cs B).kids n 0).length = t.length := by
  have h1 := ids_len (h.ok hR) (rank_lt hR h.hp h.hk h.mv) n (x := 0) hR.pos
  have h2 : (List.range t.length).length ≤ (idsF (mvd (FT t) p A cs B).kids n 0).length := List.Nodup.length_le_of_subset List.nodup_range fun z hz => h.all hR hn (List.mem_range.1 hz)
  rw [List.length_range] at h2
  have h3 : (mvd (FT t) p A cs B).m = t.length := rfl
  omega
def wh (t : List Node) (p : Nat) (A B cs : List Nat) (n z : Nat) : Nat := (idsF (mvd (FT t) p A cs B).kids n 0).idxOf z
theorem Pl.wh_lt (hR : RT t) (h : Pl t p A B cs) (hn : 1000000 ≤ n) (hz : z < t.length) : wh t p A B cs n z < t.length := by
  have := List.idxOf_lt_length_of_mem (h.all hR hn hz)
  rw [h.len hR hn] at this
  exact this
theorem Pl.oc (hR : RT t) (h : Pl t p A B cs) (hn : 1000000 ≤ n) (hz : z < t.length) {N : Nat → Node} : Oc (mvd (FT t) p A cs B).kids N n 0 (wh t p A B cs n z) z := oc_in (fun x => ht_mvd hR h.hp h.hk h.mv hn x) (h.all hR hn hz)
theorem Pl.posL (hR : RT t) (h : Pl t p A B cs) (hn : 1000000 ≤ n) (hz : z < t.length) : V.posL (idsF (mvd (FT t) p A cs B).kids n 0) z = (wh t p A B cs n z : Int) := if_pos (h.all hR hn hz)
theorem Pl.spots (hR : RT t) (h : Pl t p A B cs) (hn : 1000000 ≤ n) : V.spots t (mvd (FT t) p A cs B) n = (List.range t.length).map fun z => (wh t p A B cs n z : Int) :=
  List.map_congr_left fun z hz => h.posL hR hn (List.mem_range.1 hz)
theorem Pl.stay (hR : RT t) (h : Pl t p A B cs) (hn : 1000000 ≤ n) (hy : x < y) (hyl : y < t.length) (sx : stays t cs x = true) (sy : stays t cs y = true) : wh t p A B cs n x < wh t p A B cs n y := by
  have hlen := hR.len
  have h1 := ids_stay hR h.hp h.hk h.mv n 0
  rw [ids_tree hR n 0 hR.pos (by rw [hR.root]; omega)] at h1
  have h2 : ((List.range' 0 (sz t 0)).filter (stays t cs)).Pairwise (· < ·) := List.Pairwise.filter _ List.pairwise_lt_range'
  rw [← h1, List.pairwise_filter] at h2
  have a1 := h.wh_lt hR hn (z := x) (by omega)
  have a2 := h.wh_lt hR hn hyl
  have hl := h.len hR hn
  have g1 : (idsF (mvd (FT t) p A cs B).kids n 0)[wh t p A B cs n x]'(by omega) = x := List.getElem_idxOf _
  have g2 : (idsF (mvd (FT t) p A cs B).kids n 0)[wh t p A B cs n y]'(by omega) = y := List.getElem_idxOf _
  rcases Nat.lt_trichotomy (wh t p A B cs n x) (wh t p A B cs n y) with e | e | e
  · exact e
  · have : x = y := by rw [← g1, ← g2]; congr 1
    omega
  · have := List.pairwise_iff_getElem.1 h2 _ _ (by omega) (by omega) e
    rw [g1, g2] at this
    have := this sy sx
    omega
theorem Pl.sub (hR : RT t) (h : Pl t p A B cs) (hn : 1000000 ≤ n) (hd : d ∈ cs) : ((tree t (mvd (FT t) p A cs B) n).drop (wh t p A B cs n d)).take (sz (tree t (mvd (FT t) p A cs B) n) (wh t p A B cs n d)) = (t.drop d).take (sz t d) := by
  have hdl := h.mv.d.bd d hd
  have hlen := hR.len
  have hle := hR.le hdl
  have h1 := (h.oc hR hn hdl (N := fun i => kn (bs0 t i))).sub (h.fl hR hn).ht
  unfold tree
  rw [h1, mvd_nodes_in hR h.mv n d ⟨d, hd, hld_self hR hdl⟩, nodes_tree hR n d hdl (by omega)]
end
end Go.Proofs.Ytfmlpodcldhgdaa.V
set_option linter.unusedVariables false
set_option linter.unusedSimpArgs false
namespace Go.Proofs.Ytfmlpodcldhgdaa.V
open Go
section
variable {t : List Node} {p x : Nat} {A B cs : List Nat}
theorem replaceOf_eq (hf : fits1 t = true) (hR : RT t) (hx : x < t.length) (hp : p < t.length) (hk : kidsN t p = A ++ [x] ++ B) (hc : Ds t cs) (h1 : ∀ d ∈ cs, p ≠ d ∧ x ≠ d) {n : Nat} (hb : big = n) (hh : Ht ((mvd (FT t) p (A ++ [x]) cs B).off [x]).kids n 0) (hl : (idsF ((mvd (FT t) p (A ++ [x]) cs B).off [x]).kids n 0).length ≤ 1000000) :
    m_impl_ReplaceOf (t, intsN [x], intsN cs, []) = some (tree t ((mvd (FT t) p (A ++ [x]) cs B).off [x]) n, spots t ((mvd (FT t) p (A ++ [x]) cs B).off [x]) n, true, ((mvd (FT t) p (A ++ [x]) cs B).off [x]).st (bs0 t)) := by
  have hlen := hR.len
  have hcl := hc.len hlen
  have hF := FT_ok hR
  have hkF : (FT t).kids p = A ++ [x] ++ B := by rw [ft_kids hp, hk]
  have hG := mvd_ok (F := FT t) (p := p) (A := A ++ [x]) (B := B) (l := cs) hF hp hkF (fun d hd => ⟨hc.bd d hd, (h1 d hd).1⟩) hc.nd
  have hafter := after_eq (F := FT t) (L := bs0 t) (p := p) (x := x) (A := A) (B := B) (cs := cs) hF hp hkF (fun d hd => ⟨hc.bd d hd, h1 d hd⟩) hc.nd (by omega)
  have hsel := selected_eq (l := [x]) hf hR ⟨by simpa using hx, by simp⟩
  have hrep : m_goquery_Selection_ReplaceWithNodes (List.map some [x], List.map some cs, (FT t).st (bs0 t)) = some ([some x], ((mvd (FT t) p (A ++ [x]) cs B).off [x]).st (bs0 t)) := by
    have hafter' : m_goquery_Selection_AfterNodes (List.map some [x], List.map some cs, (FT t).st (bs0 t)) = _ := hafter
    have hrem := remove1 (L := bs0 t) hG (x := x) hx
    have hrem' : m_goquery_Selection_Remove (List.map some [x], (mvd (FT t) p (A ++ [x]) cs B).st (bs0 t)) = _ := hrem
    simp only [m_goquery_Selection_ReplaceWithNodes, hafter', bind_some, hrem']
  simp only [m_impl_ReplaceOf, hsel, bind_some, Bool.not_true, cond_false, these_nat hR hc]
  rw [store_st hR, hrep, bind_some, ends_of hR (off_ok hG) rfl hb hh hl]
  rfl
theorem removeOf_eq (hf : fits1 t = true) (hR : RT t) (hx : x < t.length) {n : Nat} (hb : big = n) (hh : Ht ((FT t).off [x]).kids n 0) (hl : (idsF ((FT t).off [x]).kids n 0).length ≤ 1000000) :
    m_impl_RemoveOf (t, intsN [x], []) = some (tree t ((FT t).off [x]) n, spots t ((FT t).off [x]) n, true, ((FT t).off [x]).st (bs0 t)) := by
  have hF := FT_ok hR
  have hsel := selected_eq (l := [x]) hf hR ⟨by simpa using hx, by simp⟩
  have hrem := remove1 (F := FT t) (L := bs0 t) hF (x := x) hx
  have hrem' : m_goquery_Selection_Remove (List.map some [x], (FT t).st (bs0 t)) = _ := hrem
  simp only [m_impl_RemoveOf, hsel, bind_some, Bool.not_true, cond_false]
  rw [store_st hR, hrem', bind_some, ends_of hR (off_ok hF) rfl hb hh hl]
  rfl
end
end Go.Proofs.Ytfmlpodcldhgdaa.V
set_option linter.unusedVariables false
set_option linter.unusedSimpArgs false
namespace Go.Proofs.Ytfmlpodcldhgdaa.V
open Go
theorem chosen_in (a : Int) (b : Bool) {on : List Int} (r ks : List (Option Nat)) {i : Nat} (hi : i < on.length) (hlen : on.length ≤ 2147483647) : ∀ d j : Nat, i - j = d → j ≤ i →
    ∃ y, loopO m_spec_forest_chosen_0_0 (((), a, b), on, r, (i : Int), (j : Int), ks) = some y ∧ (y = .inr (((), a, b), [], false, ks) ∨ (y = .inl (((), a, b), on, r, (i : Int), ks) ∧ ∀ k : Nat, j ≤ k → k < i → on[k]? ≠ on[i]?)) := by
  intro d
  induction d with
  | zero =>
    intro j hd hj
    refine ⟨_, loopO_out (b := .inl (((), a, b), on, r, (i : Int), ks)) ?_, .inr ⟨rfl, fun k h1 h2 => by omega⟩⟩
    simp only [m_spec_forest_chosen_0_0, cond_dec]
    rw [if_neg (by omega)]
  | succ d ih =>
    intro j hd hj
    obtain ⟨v, hv⟩ := get_lt (l := on) (k := j) (by omega)
    obtain ⟨w, hw⟩ := get_lt (l := on) (k := i) hi
    by_cases e : v = w
    · refine ⟨_, loopO_out (b := .inr (((), a, b), [], false, ks)) ?_, .inl rfl⟩
      simp only [m_spec_forest_chosen_0_0, cond_dec, atI_nat, hv, hw, bind_some]
      rw [if_pos (by omega), if_pos e]
    · have step : m_spec_forest_chosen_0_0 (((), a, b), on, r, (i : Int), (j : Int), ks) = some (.nx (((), a, b), on, r, (i : Int), ((j + 1 : Nat) : Int), ks)) := by
        simp only [m_spec_forest_chosen_0_0, cond_dec, atI_nat, hv, hw, bind_some]
        rw [if_pos (by omega), if_neg e, w64 (by omega) (by omega)]
        rfl
      obtain ⟨y, h1, h2⟩ := ih (j + 1) (by omega) (by omega)
      refine ⟨y, by rw [loopO_nx step]; exact h1, h2.imp id fun ⟨g1, g2⟩ => ⟨g1, fun k k1 k2 => ?_⟩⟩
      by_cases e2 : k = j
      · subst e2
        rw [hv, hw]
        exact fun h => e (Option.some.inj h)
      · exact g2 k (by omega) k2
theorem chosen_ex (a : Int) (b : Bool) {on : List Int} {n : Nat} (hlen : on.length ≤ 2147483647) : ∀ d i : Nat, on.length - i = d → i ≤ on.length → (∀ (k : Nat) (v : Int), k < i → on[k]? = some v → 1 ≤ v ∧ v < n) → (∀ k l : Nat, k < l → l < i → on[k]? ≠ on[l]?) →
    ∃ y, loopO m_spec_forest_chosen_0 (((), a, b), on, (on.take i).map (fun v => some v.toNat), (i : Int), (List.range n).map some) = some y ∧ (y = .inr (((), a, b), [], false, (List.range n).map some) ∨ (y = .inl (((), a, b), on.map (fun v => some v.toNat), (List.range n).map some) ∧ (∀ (k : Nat) (v : Int), on[k]? = some v → 1 ≤ v ∧ v < n) ∧ ∀ k l : Nat, k < l → l < on.length → on[k]? ≠ on[l]?)) := by
  intro d
  induction d with
  | zero =>
    intro i hd hi h1 h2
    obtain rfl : i = on.length := by omega
    refine ⟨_, loopO_out (b := .inl (((), a, b), on.map (fun v => some v.toNat), (List.range n).map some)) ?_, .inr ⟨rfl, fun k v hk => h1 k v (List.getElem?_eq_some_iff.1 hk).1 hk, h2⟩⟩
    simp only [m_spec_forest_chosen_0, cond_dec]
    rw [if_neg (by omega), List.take_of_length_le (Nat.le_refl _)]
  | succ d ih =>
    intro i hd hi h1 h2
    obtain ⟨v, hv⟩ := get_lt (l := on) (k := i) (by omega)
    by_cases e1 : v < 1
    · refine ⟨_, loopO_out (b := .inr (((), a, b), [], false, (List.range n).map some)) ?_, .inl rfl⟩
      simp only [m_spec_forest_chosen_0, cond_dec, atI_nat, hv, bind_some]
      rw [if_pos (by omega), if_pos e1]
    by_cases e2 : (n : Int) ≤ v
    · refine ⟨_, loopO_out (b := .inr (((), a, b), [], false, (List.range n).map some)) ?_, .inl rfl⟩
      simp only [m_spec_forest_chosen_0, cond_dec, atI_nat, hv, bind_some, List.length_map, List.length_range]
      rw [if_pos (by omega), if_neg e1, if_pos e2]
    obtain ⟨x, rfl⟩ := Int.eq_ofNat_of_zero_le (show 0 ≤ v by omega)
    obtain ⟨y, g1, g2⟩ := chosen_in a b ((on.take i).map fun v => some v.toNat) ((List.range n).map some) (i := i) (by omega) hlen i 0 (by omega) (Nat.zero_le _)
    have g1' : loopO m_spec_forest_chosen_0_0 (((), a, b), on, (on.take i).map (fun v => some v.toNat), (i : Int), (0 : Int), (List.range n).map some) = some y := g1
    rcases g2 with rfl | ⟨rfl, g3⟩
    · refine ⟨_, loopO_out (b := .inr (((), a, b), [], false, (List.range n).map some)) ?_, .inl rfl⟩
      simp only [m_spec_forest_chosen_0, cond_dec, atI_nat, hv, bind_some, List.length_map, List.length_range]
      rw [if_pos (by omega), if_neg e1, if_neg e2, g1']
      rfl
    · have hr : ((List.range n).map some)[x]? = some (some x) := by
        have : x < n := by omega
        simp [this]
      have step : m_spec_forest_chosen_0 (((), a, b), on, (on.take i).map (fun v => some v.toNat), (i : Int), (List.range n).map some) = some (.nx (((), a, b), on, (on.take (i + 1)).map (fun v => some v.toNat), ((i + 1 : Nat) : Int), (List.range n).map some)) := by
        simp only [m_spec_forest_chosen_0, cond_dec, atI_nat, hv, bind_some, List.length_map, List.length_range]
        rw [if_pos (by omega), if_neg e1, if_neg e2, g1']
        simp only [bind_some, selim, atI_nat, hv, hr, Int.toNat_natCast]
        rw [appL_some (by simp; omega), bind_some, w64 (by omega) (by omega), List.take_add_one, hv]
        simp
      rw [loopO_nx step]
      refine ih (i + 1) (by omega) (by omega) (fun k w hk hw => ?_) (fun k l hkl hl => ?_)
      · by_cases e : k = i
        · subst e
          rw [hv] at hw
          cases hw
          omega
        · exact h1 k w (by omega) hw
      · by_cases e : l = i
        · subst e; exact g3 k (Nat.zero_le _) hkl
        · exact h2 k l hkl (by omega)
end Go.Proofs.Ytfmlpodcldhgdaa.V
set_option linter.unusedVariables false
set_option linter.unusedSimpArgs false
namespace Go.Proofs.Ytfmlpodcldhgdaa.V
open Go
theorem cuts_eq {F : Fo} {P : Nat → Int × Node} (a : Int) (b : Bool) (ks : List (Option Nat)) {l : List Nat} (hF : F.ok) (hl : ∀ i, (F.kids i).length ≤ 1000000) (hm : ∀ c ∈ l, c < F.m) (hlen : l.length ≤ 1000000) :
    ∀ d j : Nat, l.length - j = d → j ≤ l.length → loopO m_spec_forest_insert_1 (((), a, b), l.map some, (j : Int), (F.off (l.take j)).kst P, ks) = some (((), a, b), (F.off l).kst P, ks) := by
  intro d
  induction d with
  | zero =>
    intro j hd hj
    refine loopO_out ?_
    simp only [m_spec_forest_insert_1, cond_dec]
    rw [if_neg (by simp; omega), List.take_of_length_le (by omega)]
  | succ d ih =>
    intro j hd hj
    obtain ⟨c, hc⟩ := get_lt (l := l) (k := j) (by omega)
    have hg : (l.map some)[j]? = some (some c) := by rw [List.getElem?_map, hc]; rfl
    have hcut := cut_off (P := P) (off_ok (l := l.take j) hF) (hm c (List.mem_of_getElem? hc)) (fun i => Nat.le_trans (off_len i) (hl i))
    have e1 : l.take j ++ [c] = l.take (j + 1) := by rw [List.take_add_one, hc]; rfl
    rw [off_off, e1] at hcut
    have step : m_spec_forest_insert_1 (((), a, b), l.map some, (j : Int), (F.off (l.take j)).kst P, ks) = some (.nx (((), a, b), l.map some, ((j + 1 : Nat) : Int), (F.off (l.take (j + 1))).kst P, ks)) := by
      simp only [m_spec_forest_insert_1, cond_dec, atI_nat, hg, bind_some, hcut]
      rw [if_pos (by simp; omega), w64 (by omega) (by omega)]
      rfl
    rw [loopO_nx step]
    exact ih (j + 1) (by omega) (by omega)
end Go.Proofs.Ytfmlpodcldhgdaa.V
set_option linter.unusedVariables false
set_option linter.unusedSimpArgs false
namespace Go.Proofs.Ytfmlpodcldhgdaa.V
open Go
theorem chosen_nat (a : Int) (bb : Bool) {on : List Int} {n : Nat} (hlen : on.length ≤ 2147483647) : ∃ r b, m_spec_forest_chosen (((), a, bb), on, (List.range n).map some) = some (r, b, ((), a, bb), (List.range n).map some) ∧ (b = true → ∃ l : List Nat, on = intsN l ∧ r = l.map some ∧ (∀ c ∈ l, 1 ≤ c ∧ c < n) ∧ l.Nodup) := by
  obtain ⟨y, h1, h2⟩ := chosen_ex a bb (on := on) (n := n) hlen on.length 0 rfl (Nat.zero_le _) (fun k v h => absurd h (by omega)) (fun k l _ h => absurd h (by omega))
  have h1' : loopO m_spec_forest_chosen_0 (((), a, bb), on, [], (0 : Int), (List.range n).map some) = some y := h1
  simp only [m_spec_forest_chosen, h1', bind_some]
  rcases h2 with rfl | ⟨rfl, g1, g2⟩
  · exact ⟨_, _, rfl, fun h => by cases h⟩
  · refine ⟨_, _, rfl, fun _ => ⟨on.map Int.toNat, ?_, ?_, ?_, ?_⟩⟩
    · unfold intsN
      rw [List.map_map]
      refine ((List.map_congr_left fun v hv => ?_).trans (List.map_id on)).symm
      obtain ⟨k, hk⟩ := List.mem_iff_getElem?.1 hv
      have := g1 k v hk
      simp only [Function.comp_apply, id_eq]
      show ((v.toNat : Nat) : Int) = v
      omega
    · rw [List.map_map]; rfl
    · intro c hc
      obtain ⟨v, hv, rfl⟩ := List.mem_map.1 hc
      obtain ⟨k, hk⟩ := List.mem_iff_getElem?.1 hv
      have := g1 k v hk
      omega
    · unfold List.Nodup
      rw [List.pairwise_map, List.pairwise_iff_getElem]
      intro i j hi hj hij e
      have := g2 i j hij hj
      rw [List.getElem?_eq_getElem hi, List.getElem?_eq_getElem hj] at this
      have b1 := g1 i _ (List.getElem?_eq_getElem hi)
      have b2 := g1 j _ (List.getElem?_eq_getElem hj)
      exact this (by congr 1; omega)
section
variable {F G : Fo} {P : Nat → Int × Node} {p c x : Nat} {A B l : List Nat}
theorem cutl_eq (a : Int) (b : Bool) (op : Int) (ks on : List (Option Nat)) {i : Nat} (hi : on.length = i + 1) (hi2 : i ≤ 1000000) (hF : F.ok) (hl : ∀ i, (F.kids i).length ≤ 1000000) (hm : ∀ c ∈ l, c < F.m) (hlen : l.length ≤ 1000000) :
    ∀ d j : Nat, l.length - j = d → j ≤ l.length → loopO m_spec_forest_insert_0_0 (((), a, b), op, on, l.map some, (i : Int), (l.take j).map some, (j : Int), (F.off (l.take j)).kst P, ks) = some (((), a, b), op, on, l.map some, (i : Int), l.map some, (F.off l).kst P, ks) := by
  intro d
  induction d with
  | zero =>
    intro j hd hj
    refine loopO_out ?_
    simp only [m_spec_forest_insert_0_0, cond_dec]
    rw [if_neg (by simp; omega), List.take_of_length_le (by omega)]
  | succ d ih =>
    intro j hd hj
    obtain ⟨c, hc⟩ := get_lt (l := l) (k := j) (by omega)
    have hcut := cut_off (P := P) (off_ok (l := l.take j) hF) (hm c (List.mem_of_getElem? hc)) (fun i => Nat.le_trans (off_len i) (hl i))
    have e1 : l.take j ++ [c] = l.take (j + 1) := by rw [List.take_add_one, hc]; rfl
    rw [off_off, e1] at hcut
    have step : m_spec_forest_insert_0_0 (((), a, b), op, on, l.map some, (i : Int), (l.take j).map some, (j : Int), (F.off (l.take j)).kst P, ks) = some (.nx (((), a, b), op, on, l.map some, (i : Int), (l.take (j + 1)).map some, ((j + 1 : Nat) : Int), (F.off (l.take (j + 1))).kst P, ks)) := by
      simp only [m_spec_forest_insert_0_0, cond_dec, atI_nat, map_some_get hc, bind_some, hcut]
      rw [if_pos (by simp; omega), w64 (n := (on.length : Int) - 1) (by omega) (by omega), if_neg (by omega), appL_some (by simp; omega), bind_some, w64 (by omega) (by omega), ← e1]
      simp
    rw [loopO_nx step]
    exact ih (j + 1) (by omega) (by omega)
theorem ins_loop (a : Int) (b : Bool) (ks : List (Option Nat)) (hF : F.ok) (hp : p < F.m) (hk : F.kids p = A ++ B) (h1 : ∀ c ∈ l, c < F.m ∧ F.up c = none ∧ p ≠ c) (hn : l.Nodup) (hlen : A.length + l.length + B.length ≤ 1000000) :
    ∀ d j : Nat, l.length - j = d → j ≤ l.length → loopO m_spec_forest_inserted_0 (((), a, b), l.map some, some p, (A.length : Int), (j : Int), (F.hang p A (l.take j) B).kst P, ks) = some (((), a, b), (F.hang p A l B).kst P, ks) := by
  intro d
  induction d with
  | zero =>
    intro j hd hj
    refine loopO_out ?_
    simp only [m_spec_forest_inserted_0, cond_dec]
    rw [if_neg (by simp; omega), List.take_of_length_le (by omega)]
  | succ d ih =>
    intro j hd hj
    obtain ⟨c, hc⟩ := get_lt (l := l) (k := j) (by omega)
    have hcm := h1 c (List.mem_of_getElem? hc)
    have e1 : l.take j ++ [c] = l.take (j + 1) := by rw [List.take_add_one, hc]; rfl
    have hn1 : (l.take (j + 1)).Nodup := (List.take_sublist _ _).nodup hn
    have hcl : c ∉ l.take j := fun h => by
      rw [← e1, List.nodup_append] at hn1
      exact hn1.2.2 c h c (by simp) rfl
    have hok : (F.hang p A (l.take j) B).ok := hang_ok hF hp hk _ (fun d hd => h1 d (List.mem_of_mem_take hd)) ((List.take_sublist _ _).nodup hn)
    have hsp := hang_sp hok hp hcm.1 hcm.2.1 hcm.2.2 hcl
    have hu : (F.hang p A (l.take j) B).up c = none := by
      simp only [Fo.hang, if_neg hcl]; exact hcm.2.1
    have hkl : ((F.hang p A (l.take j ++ [c]) B).kids p).length ≤ 1000000 := by
      simp only [Fo.hang, if_true, List.length_append, List.length_take, List.length_cons, List.length_nil]; omega
    have hput := put_eq (P := P) (cut_none (F := F.hang p A (l.take j) B) hcm.1 hu) hsp hkl
    rw [e1] at hput
    have e2 : ((A ++ l.take j).length : Int) = (A.length : Int) + (j : Int) := by simp; omega
    rw [e2] at hput
    have step : m_spec_forest_inserted_0 (((), a, b), l.map some, some p, (A.length : Int), (j : Int), (F.hang p A (l.take j) B).kst P, ks) = some (.nx (((), a, b), l.map some, some p, (A.length : Int), ((j + 1 : Nat) : Int), (F.hang p A (l.take (j + 1)) B).kst P, ks)) := by
      simp only [m_spec_forest_inserted_0, cond_dec, atI_nat, map_some_get hc, bind_some]
      rw [if_pos (by simp; omega), w64 (n := (A.length : Int) + (j : Int)) (by omega) (by omega), hput, bind_some, w64 (by omega) (by omega)]
      rfl
    rw [loopO_nx step]
    exact ih (j + 1) (by omega) (by omega)
theorem inserted_pre (a : Int) (b : Bool) (ks : List (Option Nat)) (hF : F.ok) (hp : p < F.m) (hk : F.kids p = B) (h1 : ∀ c ∈ l, c < F.m ∧ F.up c = none ∧ p ≠ c) (hn : l.Nodup) (hlen : l.length + B.length ≤ 1000000) :
    m_spec_forest_inserted (((), a, b), 2, some p, l.map some, ks, F.kst P) = some (((), a, b), ks, (F.hang p [] l B).kst P) := by
  have h := ins_loop (P := P) (A := []) a b ks hF hp (by rw [hk]; rfl) h1 hn (by simpa using hlen) l.length 0 rfl (Nat.zero_le _)
  rw [List.take_zero, hang_nil (by rw [hk]; rfl)] at h
  have h' : loopO m_spec_forest_inserted_0 (((), a, b), l.map some, some p, (0 : Int), (0 : Int), F.kst P, ks) = _ := h
  simp only [m_spec_forest_inserted, cond_dec]
  rw [if_neg (by decide), if_neg (by decide), if_neg (by decide), if_neg (by decide), h', bind_some]
theorem inserted_aft {op : Int} (hop : op = 3 ∨ op = 5) (a : Int) (b : Bool) (ks : List (Option Nat)) (hF : F.ok) (hp : p < F.m) (hx : x < F.m) (hu : F.up x = some p) (hk : F.kids p = (A ++ [x]) ++ B) (h1 : ∀ c ∈ l, c < F.m ∧ F.up c = none ∧ p ≠ c) (hn : l.Nodup) (hlen : A.length + 1 + l.length + B.length ≤ 1000000) :
    m_spec_forest_inserted (((), a, b), op, some x, l.map some, ks, F.kst P) = some (((), a, b), ks, (F.hang p (A ++ [x]) l B).kst P) := by
  have h := ins_loop (P := P) (A := A ++ [x]) a b ks hF hp hk h1 hn (by simpa using hlen) l.length 0 rfl (Nat.zero_le _)
  rw [List.take_zero, hang_nil hk] at h
  have hsp : Sp F (F.setK p (A ++ B) x none) p x A B := ⟨hF, hp, hx, hu, by rw [hk]; simp, rfl⟩
  have hpl := place_eq (P := P) hsp (by rw [hk]; simp; omega)
  have e : IntKind.wrap .i64 ((A.length : Int) + 1) = ((A ++ [x]).length : Int) := by rw [w64 (by omega) (by omega)]; simp
  have hg := Fo.kget (F := F) (P := P) hx
  have hup : (F.kn1 P x).up = some p := hu
  have h' : loopO m_spec_forest_inserted_0 (((), a, b), l.map some, some p, ((A ++ [x]).length : Int), (0 : Int), F.kst P, ks) = _ := h
  simp only [m_spec_forest_inserted, cond_dec, bind_some, hg, hpl, hup, e, h']
  rcases hop with rfl | rfl
  · rw [if_neg (by decide), if_pos rfl]
  · rw [if_neg (by decide), if_neg (by decide), if_pos rfl]
end
section
variable {t : List Node} {o : Nat} {ws : List Nat} {a : Int} {ks : List (Option Nat)}
theorem nd0_kind {c : Nat} (hc : c < t.length) {k : Int} (h : (P0 t c).2.kind = k) : ∃ v, t[c]? = some v ∧ v.kind = k := by
  obtain ⟨v, hv⟩ := get_lt hc
  refine ⟨v, hv, ?_⟩
  have : (P0 t c).2 = v := by simp [P0, nd0, hv]
  rw [← this]; exact h
theorem mv_of (hR : RT t) {p x : Nat} (hw : ∀ c ∈ ws, 1 ≤ c ∧ c < t.length) (hn : ws.Nodup) (h1 : ∀ i k a c : Nat, ws[i]? = some a → ws[k]? = some c → k ≠ i → ¬ Hld t a c) (h2 : ∀ d ∈ ws, ¬ Hld t d p) : Mv t p ws := by
  refine ⟨⟨fun v hv => (hw v hv).2, hn⟩, h2, fun d hd e he hde => ?_⟩
  obtain ⟨i, hi⟩ := List.mem_iff_getElem?.1 hd
  obtain ⟨k, hk⟩ := List.mem_iff_getElem?.1 he
  by_cases e2 : k = i
  · subst e2
    rw [hi] at hk
    exact Option.some.inj hk
  · exact absurd hde (h1 i k d e hi hk e2)
theorem ws_len (hR : RT t) (hw : ∀ c ∈ ws, 1 ≤ c ∧ c < t.length) (hn : ws.Nodup) : ws.length ≤ 200 := Ds.len ⟨fun v hv => (hw v hv).2, hn⟩ hR.len
theorem ft_klen (hR : RT t) (i : Nat) : ((FT t).kids i).length ≤ 200 := by
  by_cases e : i < t.length
  · rw [ft_kids e]
    have h1 : (kidsN t i).length ≤ sz t i := kidsF_len
    have := hR.le e
    have := hR.len
    omega
  · simp only [FT, if_neg e]; simp
theorem off_up_none {F : Fo} {c : Nat} (h : c ∈ ws) : (F.off ws).up c = none := if_pos h
theorem off_up_ne {F : Fo} {c : Nat} (h : c ∉ ws) : (F.off ws).up c = F.up c := if_neg h
theorem filt_len {X : List Nat} : (X.filter fun j => decide (j ∉ ws)).length ≤ X.length := List.length_filter_le _ _
theorem insert1_pre (hR : RT t) (ho : 1 ≤ o ∧ o < t.length) (hw : ∀ c ∈ ws, 1 ≤ c ∧ c < t.length) (hn : ws.Nodup) :
    ∃ b S, m_spec_forest_insert (((), a, false), 2, [some o], ws.map some, ks, (FT t).kst (P0 t)) = some (b, ((), a, false), ks, S) ∧ (b = true → Pl t o [] (kidsN t o) ws ∧ S = (mvd (FT t) o [] ws (kidsN t o)).kst (P0 t)) := by
  have hlen := hR.len
  have hwl := ws_len hR hw hn
  obtain ⟨b1, h1, h1'⟩ := apart_ex (P := P0 t) (ws := ws) (on := [o]) hR (fun c hc => (hw c hc).2) (by simpa using ho.2) (by omega) (by simp)
  obtain ⟨b2, h2, h2'⟩ := are_ex (F := FT t) (P := P0 t) (on := [o]) (fun c hc => by rw [List.mem_singleton.1 hc]; exact ho.2) (by simp)
  have h1q : m_spec_apart (ws.map some, [some o], (FT t).kst (P0 t)) = some b1 := h1
  have h2q : m_spec_are ([some o], (FT t).kst (P0 t)) = some b2 := h2
  simp only [m_spec_forest_insert, cond_dec, h1q, h2q, bind_some]
  rw [if_neg (by decide), if_neg (by decide)]
  cases b1 with
  | false => exact ⟨_, _, rfl, fun h => by cases h⟩
  | true =>
    obtain ⟨k1, k2⟩ := h1' rfl
    simp only [Bool.not_true, cond_false]
    rw [if_neg (by decide)]
    simp only [show (!decide ((2 : Int) = 5)) = true from rfl, cond_true]
    cases b2 with
    | false => exact ⟨_, _, rfl, fun h => by cases h⟩
    | true =>
      obtain ⟨v, hv, hv3⟩ := nd0_kind ho.2 (h2' rfl o (by simp))
      simp only [Bool.not_true, cond_false]
      by_cases e0 : ((ws.map some).length : Int) = 0
      · rw [if_pos e0]
        exact ⟨_, _, rfl, fun h => by cases h⟩
      rw [if_neg e0, if_neg (by decide)]
      have hpl : Pl t o [] (kidsN t o) ws := ⟨ho.2, rfl, mv_of (p := o) (x := o) hR hw hn k1 (fun d hd => k2 d hd o (by simp)), ⟨v, hv, .inl hv3⟩, fun d hd => by have := hw d hd; omega⟩
      have hcut := cutl_eq (F := FT t) (P := P0 t) (l := ws) a false 2 ks [some o] (i := 0) rfl (by omega) (FT_ok hR) (fun i => by have := ft_klen hR i; omega) (fun c hc => (hw c hc).2) (by omega) ws.length 0 rfl (Nat.zero_le _)
      rw [List.take_zero, off_nil] at hcut
      have hcut' : loopO m_spec_forest_insert_0_0 (((), a, false), (2 : Int), [some o], ws.map some, (0 : Int), [], (0 : Int), (FT t).kst (P0 t), ks) = _ := hcut
      have hk2 : ((FT t).off ws).kids o = (kidsN t o).filter fun j => decide (j ∉ ws) := by rw [← ft_kids ho.2]; rfl
      have hkl := ft_klen hR o
      rw [ft_kids ho.2] at hkl
      have hins := inserted_pre (F := (FT t).off ws) (P := P0 t) (l := ws) a false ks (off_ok (FT_ok hR)) (p := o) ho.2 hk2 (fun c hc => ⟨(hw c hc).2, off_up_none hc, hpl.ne hR c hc⟩) hn (by have := filt_len (ws := ws) (X := kidsN t o); omega)
      have st : m_spec_forest_insert_0 (((), a, false), (2 : Int), [some o], ws.map some, (0 : Int), (FT t).kst (P0 t), ks) = some (.nx (((), a, false), (2 : Int), [some o], ws.map some, (1 : Int), (mvd (FT t) o [] ws (kidsN t o)).kst (P0 t), ks)) := by
        simp only [m_spec_forest_insert_0, cond_dec, hcut', bind_some]
        rw [if_pos (by simp)]
        have ha : atI [some o] ((0 : Nat) : Int) = some (some o) := rfl
        simp only [ha, bind_some, hins]
        rfl
      have st2 : loopO m_spec_forest_insert_0 (((), a, false), (2 : Int), [some o], ws.map some, (1 : Int), (mvd (FT t) o [] ws (kidsN t o)).kst (P0 t), ks) = some (((), a, false), (2 : Int), [some o], (mvd (FT t) o [] ws (kidsN t o)).kst (P0 t), ks) := by
        refine loopO_out ?_
        simp only [m_spec_forest_insert_0, cond_dec]
        rw [if_neg (by simp)]
      rw [loopO_nx st, st2, bind_some]
      dsimp only
      rw [if_neg (by decide)]
      exact ⟨_, _, rfl, fun _ => ⟨hpl, rfl⟩⟩
end
end Go.Proofs.Ytfmlpodcldhgdaa.V
set_option linter.unusedVariables false
set_option linter.unusedSimpArgs false
namespace Go.Proofs.Ytfmlpodcldhgdaa.V
open Go
section
variable {t : List Node} {o : Nat} {ws : List Nat} {a : Int} {ks : List (Option Nat)}
structure Pa (t : List Node) (o p : Nat) (A B ws : List Nat) : Prop where
  pl : Pl t p (A ++ [o]) B ws
  no : o ∉ ws
  o1 : 1 ≤ o ∧ o < t.length
  u : (FT t).up o = some p
theorem filt_snoc {A : List Nat} (h : o ∉ ws) : (A ++ [o]).filter (fun j => decide (j ∉ ws)) = A.filter (fun j => decide (j ∉ ws)) ++ [o] := by
  rw [List.filter_append]
  congr 1
  simp [h]
theorem pa_of (hR : RT t) (ho : 1 ≤ o ∧ o < t.length) (hw : ∀ c ∈ ws, 1 ≤ c ∧ c < t.length) (hn : ws.Nodup) (k1 : ∀ i k a c : Nat, ws[i]? = some a → ws[k]? = some c → k ≠ i → ¬ Hld t a c) (k2 : ∀ a ∈ ws, ∀ c ∈ [o], ¬ Hld t a c) {p : Nat} (hp : (FT t).up o = some p) : ∃ A B, Pa t o p A B ws := by
  obtain ⟨h1, h2⟩ := (FT_ok hR).up hp
  obtain ⟨A, B, e⟩ := List.append_of_mem h2
  have hpl : p < t.length := h1
  have hk : kidsN t p = (A ++ [o]) ++ B := by rw [← ft_kids hpl, e]; simp
  obtain ⟨g1, g2, g3, g4, g5⟩ := kid_facts hR h2
  refine ⟨A, B, ⟨hpl, hk, mv_of (p := p) (x := o) hR hw hn k1 (fun d hd hh => k2 d hd o (by simp) (hld_down hR (hw d hd).2 g5 hh)), kid_kind hR h2, fun d hd => by have := hw d hd; omega⟩, fun h => k2 o h o (by simp) (hld_self hR ho.2), ho, hp⟩
theorem Pa.cut (hR : RT t) {p : Nat} {A B : List Nat} (h : Pa t o p A B ws) (hn : ws.Nodup) (hw : ∀ c ∈ ws, 1 ≤ c ∧ c < t.length) {op : Int} (hop : op = 3 ∨ op = 5) :
    loopO m_spec_forest_insert_0 (((), a, false), op, [some o], ws.map some, (0 : Int), (FT t).kst (P0 t), ks) = some (((), a, false), op, [some o], (mvd (FT t) p (A ++ [o]) ws B).kst (P0 t), ks) := by
  have hlen := hR.len
  have hwl := ws_len hR hw hn
  have hcut := cutl_eq (F := FT t) (P := P0 t) (l := ws) a false op ks [some o] (i := 0) rfl (by omega) (FT_ok hR) (fun i => by have := ft_klen hR i; omega) (fun c hc => (hw c hc).2) (by omega) ws.length 0 rfl (Nat.zero_le _)
  rw [List.take_zero, off_nil] at hcut
  have hcut' : loopO m_spec_forest_insert_0_0 (((), a, false), op, [some o], ws.map some, (0 : Int), [], (0 : Int), (FT t).kst (P0 t), ks) = _ := hcut
  have hkl := ft_klen hR p
  rw [ft_kids h.pl.hp, h.pl.hk] at hkl
  simp only [List.length_append, List.length_cons, List.length_nil] at hkl
  have hk2 : ((FT t).off ws).kids p = (A.filter (fun j => decide (j ∉ ws)) ++ [o]) ++ B.filter fun j => decide (j ∉ ws) := by
    show ((FT t).kids p).filter _ = _
    rw [ft_kids h.pl.hp, h.pl.hk, List.filter_append, filt_snoc h.no]
  have f1 := filt_len (ws := ws) (X := A)
  have f2 := filt_len (ws := ws) (X := B)
  have hins := inserted_aft (F := (FT t).off ws) (P := P0 t) (l := ws) hop a false ks (off_ok (FT_ok hR)) (p := p) (x := o) h.pl.hp h.o1.2 (by rw [off_up_ne h.no]; exact h.u) hk2 (fun c hc => ⟨(hw c hc).2, off_up_none hc, h.pl.ne hR c hc⟩) hn (by omega)
  rw [← filt_snoc h.no] at hins
  have st : m_spec_forest_insert_0 (((), a, false), op, [some o], ws.map some, (0 : Int), (FT t).kst (P0 t), ks) = some (.nx (((), a, false), op, [some o], ws.map some, (1 : Int), (mvd (FT t) p (A ++ [o]) ws B).kst (P0 t), ks)) := by
    simp only [m_spec_forest_insert_0, cond_dec, hcut', bind_some]
    rw [if_pos (by simp)]
    have ha : atI [some o] ((0 : Nat) : Int) = some (some o) := rfl
    simp only [ha, bind_some, hins]
    rfl
  have st2 : loopO m_spec_forest_insert_0 (((), a, false), op, [some o], ws.map some, (1 : Int), (mvd (FT t) p (A ++ [o]) ws B).kst (P0 t), ks) = some (((), a, false), op, [some o], (mvd (FT t) p (A ++ [o]) ws B).kst (P0 t), ks) := by
    refine loopO_out ?_
    simp only [m_spec_forest_insert_0, cond_dec]
    rw [if_neg (by simp)]
  rw [loopO_nx st, st2]
theorem insert1_aft (hR : RT t) (ho : 1 ≤ o ∧ o < t.length) (hw : ∀ c ∈ ws, 1 ≤ c ∧ c < t.length) (hn : ws.Nodup) :
    ∃ b S, m_spec_forest_insert (((), a, false), 3, [some o], ws.map some, ks, (FT t).kst (P0 t)) = some (b, ((), a, false), ks, S) ∧ (b = true → ∃ p A B, Pa t o p A B ws ∧ S = (mvd (FT t) p (A ++ [o]) ws B).kst (P0 t)) := by
  have hlen := hR.len
  have hwl := ws_len hR hw hn
  obtain ⟨b1, h1, h1'⟩ := apart_ex (P := P0 t) (ws := ws) (on := [o]) hR (fun c hc => (hw c hc).2) (by simpa using ho.2) (by omega) (by simp)
  obtain ⟨b2, h2, h2'⟩ := stand_ex (F := FT t) (P := P0 t) (on := [o]) (fun c hc => by rw [List.mem_singleton.1 hc]; exact ho.2) (by simp)
  have h1q : m_spec_apart (ws.map some, [some o], (FT t).kst (P0 t)) = some b1 := h1
  have h2q : m_spec_stand ([some o], (FT t).kst (P0 t)) = some b2 := h2
  simp only [m_spec_forest_insert, cond_dec, h1q, h2q, bind_some]
  rw [if_pos trivial]
  cases b1 with
  | false => exact ⟨_, _, rfl, fun h => by cases h⟩
  | true =>
    obtain ⟨k1, k2⟩ := h1' rfl
    cases b2 with
    | false => exact ⟨_, _, rfl, fun h => by cases h⟩
    | true =>
      obtain ⟨p, hp⟩ := h2' rfl o (by simp)
      obtain ⟨A, B, hpa⟩ := pa_of hR ho hw hn k1 k2 hp
      simp only [Bool.not_true, cond_false]
      by_cases e0 : ((ws.map some).length : Int) = 0
      · rw [if_pos e0]
        exact ⟨_, _, rfl, fun h => by cases h⟩
      rw [if_neg e0, if_neg (by decide), hpa.cut hR hn hw (.inl rfl), bind_some]
      dsimp only
      rw [if_neg (by decide)]
      exact ⟨_, _, rfl, fun _ => ⟨p, A, B, hpa, rfl⟩⟩
theorem insert1_rep (hR : RT t) (ho : 1 ≤ o ∧ o < t.length) (hw : ∀ c ∈ ws, 1 ≤ c ∧ c < t.length) (hn : ws.Nodup) :
    ∃ b S, m_spec_forest_insert (((), a, false), 5, [some o], ws.map some, ks, (FT t).kst (P0 t)) = some (b, ((), a, false), ks, S) ∧ (b = true → ∃ p A B, Pa t o p A B ws ∧ S = ((mvd (FT t) p (A ++ [o]) ws B).off [o]).kst (P0 t)) := by
  have hlen := hR.len
  have hwl := ws_len hR hw hn
  obtain ⟨b1, h1, h1'⟩ := apart_ex (P := P0 t) (ws := ws) (on := [o]) hR (fun c hc => (hw c hc).2) (by simpa using ho.2) (by omega) (by simp)
  obtain ⟨b2, h2, h2'⟩ := stand_ex (F := FT t) (P := P0 t) (on := [o]) (fun c hc => by rw [List.mem_singleton.1 hc]; exact ho.2) (by simp)
  obtain ⟨b3, h3, h3'⟩ := apart_ex (P := P0 t) (ws := [o]) (on := []) hR (fun c hc => by rw [List.mem_singleton.1 hc]; exact ho.2) (by simp) (by simp) (by simp)
  have h1q : m_spec_apart (ws.map some, [some o], (FT t).kst (P0 t)) = some b1 := h1
  have h2q : m_spec_stand ([some o], (FT t).kst (P0 t)) = some b2 := h2
  have h3q : m_spec_apart ([some o], [], (FT t).kst (P0 t)) = some b3 := h3
  simp only [m_spec_forest_insert, cond_dec, h1q, h2q, h3q, bind_some]
  rw [if_neg (by decide), if_neg (by decide)]
  cases b1 with
  | false => exact ⟨_, _, rfl, fun h => by cases h⟩
  | true =>
    obtain ⟨k1, k2⟩ := h1' rfl
    simp only [Bool.not_true, cond_false]
    rw [if_pos trivial]
    cases b2 with
    | false => exact ⟨_, _, rfl, fun h => by cases h⟩
    | true =>
      obtain ⟨p, hp⟩ := h2' rfl o (by simp)
      obtain ⟨A, B, hpa⟩ := pa_of hR ho hw hn k1 k2 hp
      simp only [Bool.not_true, cond_false]
      simp only [decide_true, Bool.not_true, cond_false]
      by_cases e0 : ((ws.map some).length : Int) = 0
      · rw [if_pos e0]
        exact ⟨_, _, rfl, fun h => by cases h⟩
      rw [if_neg e0, if_pos trivial]
      cases b3 with
      | false => exact ⟨_, _, rfl, fun h => by cases h⟩
      | true =>
        simp only [Bool.not_true, cond_false]
        rw [hpa.cut hR hn hw (.inr rfl), bind_some]
        dsimp only
        rw [if_pos rfl]
        have hmk : ∀ i, ((mvd (FT t) p (A ++ [o]) ws B).kids i).length ≤ 1000000 := fun i => by
          by_cases e : i = p
          · subst e
            have hkl := ft_klen hR i
            rw [ft_kids hpa.pl.hp, hpa.pl.hk] at hkl
            rw [mvd_kids_p]
            have f1 := filt_len (ws := ws) (X := A ++ [o])
            have f2 := filt_len (ws := ws) (X := B)
            simp only [List.length_append, List.length_cons, List.length_nil] at hkl f1 ⊢
            omega
          · rw [mvd_kids_ne e]
            have f1 := filt_len (ws := ws) (X := (FT t).kids i)
            have := ft_klen hR i
            omega
        have hc := cuts_eq (F := mvd (FT t) p (A ++ [o]) ws B) (P := P0 t) a false ks (l := [o]) (hpa.pl.ok hR) hmk (fun c hc => by rw [List.mem_singleton.1 hc]; exact ho.2) (by simp) 1 0 rfl (Nat.zero_le _)
        rw [List.take_zero, off_nil] at hc
        have hc' : loopO m_spec_forest_insert_1 (((), a, false), [some o], (0 : Int), (mvd (FT t) p (A ++ [o]) ws B).kst (P0 t), ks) = _ := hc
        rw [hc', bind_some]
        exact ⟨_, _, rfl, fun _ => ⟨p, A, B, hpa, rfl⟩⟩
end
end Go.Proofs.Ytfmlpodcldhgdaa.V
set_option linter.unusedVariables false
set_option linter.unusedSimpArgs false
namespace Go.Proofs.Ytfmlpodcldhgdaa.V
open Go Go.Proofs
abbrev p_spec_sameNode : Pt := [(0, .el .node), (1, .el .node)]
abbrev q_spec_sameNode : Pt := [(0, .bool)]
abbrev p_spec_sameNode_0 : Pt := [(2, .blk .node 44), (3, .blk .node 44), (5, .int .i64)]
abbrev x_spec_sameNode_0 : List (Xt × Pt) := [(.ex 0, []), (.rt, [(4, .bool)])]
noncomputable def m_spec_sameNode_0 : Tup p_spec_sameNode_0 → Option (Stp (Tup p_spec_sameNode_0) (SumT (x_spec_sameNode_0.map (·.2)))) := fun (x : Node × Node × Int) => bif decide (x.2.2 < (↑(List.length (Node.attrs x.1)) : Int)) then Option.bind (atI (Node.attrs x.1) x.2.2) fun (v : Attr) => Option.bind (atI (Node.attrs x.2.1) x.2.2) fun (v_1 : Attr) => bif !decide (Prod.fst (Attr.key v, Attr.val v) = Prod.fst (Attr.key v_1, Attr.val v_1) ∧ Prod.snd (Attr.key v, Attr.val v) = Prod.snd (Attr.key v_1, Attr.val v_1)) then some (Stp.out (Sum.inr false)) else some (Stp.nx ({ kind := Node.kind x.1, tag := Node.tag x.1, text := Node.text x.1, attrs := Node.attrs x.1, size := Node.size x.1 }, { kind := Node.kind x.2.1, tag := Node.tag x.2.1, text := Node.text x.2.1, attrs := Node.attrs x.2.1, size := Node.size x.2.1 }, IntKind.wrap .i64 (x.2.2 + (1 : Int)))) else some (Stp.out (Sum.inl ()))
noncomputable def m_spec_sameNode : Tup p_spec_sameNode → Option (Tup q_spec_sameNode) := fun (x : Node × Node) => bif decide (Node.kind x.1 ≠ Node.kind x.2) then some false else bif decide (Node.tag x.1 ≠ Node.tag x.2) then some false else bif decide (Node.text x.1 ≠ Node.text x.2) then some false else bif decide (Node.size x.1 ≠ Node.size x.2) then some false else bif decide ((↑(List.length (Node.attrs x.1)) : Int) ≠ (↑(List.length (Node.attrs x.2)) : Int)) then some false else Option.bind (loopO m_spec_sameNode_0 ({ kind := Node.kind x.1, tag := Node.tag x.1, text := Node.text x.1, attrs := Node.attrs x.1, size := Node.size x.1 }, { kind := Node.kind x.2, tag := Node.tag x.2, text := Node.text x.2, attrs := Node.attrs x.2, size := Node.size x.2 }, (0 : Int))) fun (y : PUnit ⊕ Bool) => selim (fun (y : PUnit) => some true) (fun (y : Bool) => some y) y
noncomputable def cx_spec_sameNode : Cx := ⟨tb, lookE [], lookS [(6, [(true, 0), (true, 1), (true, 2), (true, 3), (true, 4), (true, 5), (true, 6), (true, 7), (true, 8), (true, 9), (true, 10)])]⟩
theorem ck_spec_sameNode : CxOK Try.prog (cx_spec_sameNode) := cx_ok tb_ok .nil
noncomputable def c_spec_sameNode_0 : Code := loopAt (Go.Proofs.Try.f49.body.getD .skip) 0
noncomputable def l_spec_sameNode_0 : LEnt := ⟨p_spec_sameNode_0, x_spec_sameNode_0, loopO (m_spec_sameNode_0)⟩
theorem lo_spec_sameNode_0 : LOK Try.prog 59 0 false (l_spec_sameNode_0) c_spec_sameNode_0 := loop_ok (body := m_spec_sameNode_0) (L := lookL []) (ck_spec_sameNode) mixed (ls_ok (l := []) (by kernel_rfl) .nil) (by intro x; kernel_rfl) (fun x y h => loopO_iff.1 h)
noncomputable def e_spec_sameNode : Ent := ⟨0, p_spec_sameNode, q_spec_sameNode, m_spec_sameNode⟩
theorem ok_spec_sameNode : FnOK Try.prog 49 e_spec_sameNode := fn_ok (L := lookL [(0, l_spec_sameNode_0)]) ck_spec_sameNode mixed Try.func49 rfl (by kernel_rfl) (by kernel_rfl) (ls_ok (l := [(0, c_spec_sameNode_0)]) (by kernel_rfl) (.cons rfl (lo_spec_sameNode_0) .nil)) (by intro x; kernel_rfl)
abbrev p_spec_SameTree : Pt := [(0, .lst .node), (1, .lst .node)]
abbrev q_spec_SameTree : Pt := [(0, .bool)]
abbrev p_spec_SameTree_0 : Pt := [(0, .lst .node), (1, .lst .node), (5, .int .i64)]
abbrev x_spec_SameTree_0 : List (Xt × Pt) := [(.ex 0, []), (.rt, [(4, .bool)])]
noncomputable def m_spec_SameTree_0 : Tup p_spec_SameTree_0 → Option (Stp (Tup p_spec_SameTree_0) (SumT (x_spec_SameTree_0.map (·.2)))) := fun (x : List Node × List Node × Int) => bif decide (x.2.2 < (↑(List.length x.1) : Int)) then Option.bind (atI x.1 x.2.2) fun (v : Node) => Option.bind (atI x.2.1 x.2.2) fun (v_1 : Node) => Option.bind (m_spec_sameNode ({ kind := Node.kind v, tag := Node.tag v, text := Node.text v, attrs := Node.attrs v, size := Node.size v }, { kind := Node.kind v_1, tag := Node.tag v_1, text := Node.text v_1, attrs := Node.attrs v_1, size := Node.size v_1 })) fun (r : Bool) => bif !r then some (Stp.out (Sum.inr false)) else some (Stp.nx (x.1, x.2.1, IntKind.wrap .i64 (x.2.2 + (1 : Int)))) else some (Stp.out (Sum.inl ()))
noncomputable def m_spec_SameTree : Tup p_spec_SameTree → Option (Tup q_spec_SameTree) := fun (x : List Node × List Node) => bif decide ((↑(List.length x.1) : Int) ≠ (↑(List.length x.2) : Int)) then some false else Option.bind (loopO m_spec_SameTree_0 (x.1, x.2, (0 : Int))) fun (y : PUnit ⊕ Bool) => selim (fun (y : PUnit) => some true) (fun (y : Bool) => some y) y
noncomputable def cx_spec_SameTree : Cx := ⟨tb, lookE [(49, e_spec_sameNode)], lookS [(6, [(true, 0), (true, 1), (true, 2), (true, 3), (true, 4), (true, 5), (true, 6), (true, 7), (false, 8), (true, 9)])]⟩
theorem ck_spec_SameTree : CxOK Try.prog (cx_spec_SameTree) := cx_ok tb_ok (.cons ok_spec_sameNode Try.call49 .nil)
noncomputable def c_spec_SameTree_0 : Code := loopAt (Go.Proofs.Try.f19.body.getD .skip) 0
noncomputable def l_spec_SameTree_0 : LEnt := ⟨p_spec_SameTree_0, x_spec_SameTree_0, loopO (m_spec_SameTree_0)⟩
theorem lo_spec_SameTree_0 : LOK Try.prog 27 0 false (l_spec_SameTree_0) c_spec_SameTree_0 := loop_ok (body := m_spec_SameTree_0) (L := lookL []) (ck_spec_SameTree) mixed (ls_ok (l := []) (by kernel_rfl) .nil) (by intro x; kernel_rfl) (fun x y h => loopO_iff.1 h)
noncomputable def e_spec_SameTree : Ent := ⟨0, p_spec_SameTree, q_spec_SameTree, m_spec_SameTree⟩
theorem ok_spec_SameTree : FnOK Try.prog 19 e_spec_SameTree := fn_ok (L := lookL [(0, l_spec_SameTree_0)]) ck_spec_SameTree mixed Try.func19 rfl (by kernel_rfl) (by kernel_rfl) (ls_ok (l := [(0, c_spec_SameTree_0)]) (by kernel_rfl) (.cons rfl (lo_spec_SameTree_0) .nil)) (by intro x; kernel_rfl)
abbrev p_spec_Shaped : Pt := [(0, .lst .node)]
abbrev q_spec_Shaped : Pt := [(0, .bool)]
abbrev p_spec_Shaped_0 : Pt := [(0, .lst .node), (3, .int .i64)]
abbrev x_spec_Shaped_0 : List (Xt × Pt) := [(.ex 0, [(0, .lst .node)]), (.rt, [(2, .bool)])]
noncomputable def m_spec_Shaped_0 : Tup p_spec_Shaped_0 → Option (Stp (Tup p_spec_Shaped_0) (SumT (x_spec_Shaped_0.map (·.2)))) := fun (x : List Node × Int) => bif decide (x.2 < (↑(List.length x.1) : Int)) then Option.bind (atI x.1 x.2) fun (v : Node) => bif decide (Node.size v < (1 : Int)) then some (Stp.out (Sum.inr false)) else bif decide (IntKind.wrap .i64 ((↑(List.length x.1) : Int) - x.2) < Node.size v) then some (Stp.out (Sum.inr false)) else bif decide ((0 : Int) < x.2) then bif decide (Node.kind v = (1 : Int)) then some (Stp.out (Sum.inr false)) else bif decide (Node.kind v < (1 : Int)) then some (Stp.out (Sum.inr false)) else bif decide ((5 : Int) < Node.kind v) then some (Stp.out (Sum.inr false)) else bif decide ((1 : Int) < Node.size v) then bif decide (Node.kind v ≠ (1 : Int)) then bif decide (Node.kind v ≠ (3 : Int)) then some (Stp.out (Sum.inr false)) else some (Stp.nx (x.1, IntKind.wrap .i64 (x.2 + (1 : Int)))) else some (Stp.nx (x.1, IntKind.wrap .i64 (x.2 + (1 : Int)))) else some (Stp.nx (x.1, IntKind.wrap .i64 (x.2 + (1 : Int)))) else bif decide (Node.kind v < (1 : Int)) then some (Stp.out (Sum.inr false)) else bif decide ((5 : Int) < Node.kind v) then some (Stp.out (Sum.inr false)) else bif decide ((1 : Int) < Node.size v) then bif decide (Node.kind v ≠ (1 : Int)) then bif decide (Node.kind v ≠ (3 : Int)) then some (Stp.out (Sum.inr false)) else some (Stp.nx (x.1, IntKind.wrap .i64 (x.2 + (1 : Int)))) else some (Stp.nx (x.1, IntKind.wrap .i64 (x.2 + (1 : Int)))) else some (Stp.nx (x.1, IntKind.wrap .i64 (x.2 + (1 : Int)))) else some (Stp.out (Sum.inl x.1))
noncomputable def m_spec_Shaped : Tup p_spec_Shaped → Option (Tup q_spec_Shaped) := fun (x : List Node) => bif decide ((↑(List.length x) : Int) = (0 : Int)) then some false else Option.bind (atI x (0 : Int)) fun (v : Node) => bif decide (Node.kind v ≠ (1 : Int)) then some false else Option.bind (atI x (0 : Int)) fun (v : Node) => bif decide (Node.size v ≠ (↑(List.length x) : Int)) then some false else Option.bind (loopO m_spec_Shaped_0 (x, (0 : Int))) fun (y : List Node ⊕ Bool) => selim (fun (y : List Node) => Option.bind (m_spec_sized big (y, (0 : Int), (↑(List.length y) : Int), (2000 : Int))) fun (r : Bool) => some r) (fun (y : Bool) => some y) y
noncomputable def cx_spec_Shaped : Cx := ⟨tb, lookE [(39, e_spec_sized)], lookS []⟩
theorem ck_spec_Shaped : CxOK Try.prog (cx_spec_Shaped) := cx_ok tb_ok (.cons ok_spec_sized Try.call39 .nil)
noncomputable def c_spec_Shaped_0 : Code := loopAt (Go.Proofs.Try.f55.body.getD .skip) 0
noncomputable def l_spec_Shaped_0 : LEnt := ⟨p_spec_Shaped_0, x_spec_Shaped_0, loopO (m_spec_Shaped_0)⟩
theorem lo_spec_Shaped_0 : LOK Try.prog 82 0 false (l_spec_Shaped_0) c_spec_Shaped_0 := loop_ok (body := m_spec_Shaped_0) (L := lookL []) (ck_spec_Shaped) mixed (ls_ok (l := []) (by kernel_rfl) .nil) (by intro x; kernel_rfl) (fun x y h => loopO_iff.1 h)
noncomputable def e_spec_Shaped : Ent := ⟨0, p_spec_Shaped, q_spec_Shaped, m_spec_Shaped⟩
theorem ok_spec_Shaped : FnOK Try.prog 55 e_spec_Shaped := fn_ok (L := lookL [(0, l_spec_Shaped_0)]) ck_spec_Shaped mixed Try.func55 rfl (by kernel_rfl) (by kernel_rfl) (ls_ok (l := [(0, c_spec_Shaped_0)]) (by kernel_rfl) (.cons rfl (lo_spec_Shaped_0) .nil)) (by intro x; kernel_rfl)
end Go.Proofs.Ytfmlpodcldhgdaa.V
set_option linter.unusedVariables false
set_option linter.unusedSimpArgs false
namespace Go.Proofs.Ytfmlpodcldhgdaa.V
open Go Go.Proofs
abbrev p_laws_step7 : Pt := [(0, .int .i64), (1, .lst .int), (2, .lst .int)]
abbrev q_laws_step7 : Pt := [(0, .el (.rc (.int .i64) [.ints, .ints, .str, .str, .strs] 0))]
noncomputable def m_laws_step7 : Tup p_laws_step7 → Option (Tup q_laws_step7) := fun (x : Int × List Int × List Int) => some (x.1, x.2.1, x.2.2, [], [], [])
noncomputable def cx_laws_step7 : Cx := ⟨tb, lookE [], lookS []⟩
theorem ck_laws_step7 : CxOK Try.prog (cx_laws_step7) := cx_ok tb_ok .nil
noncomputable def e_laws_step7 : Ent := ⟨0, p_laws_step7, q_laws_step7, m_laws_step7⟩
theorem ok_laws_step7 : FnOK Try.prog 22 e_laws_step7 := fn_ok (L := lookL []) ck_laws_step7 mixed Try.func22 rfl (by kernel_rfl) (by kernel_rfl) (ls_ok (l := []) (by kernel_rfl) .nil) (by intro x; kernel_rfl)
abbrev p_laws_sure7 : Pt := [(0, .lst .node), (1, .el (.rc (.int .i64) [.ints, .ints, .str, .str, .strs] 0))]
abbrev q_laws_sure7 : Pt := [(0, .bool)]
noncomputable def m_laws_sure7 : Tup p_laws_sure7 → Option (Tup q_laws_sure7) := fun (x : List Node × Int × List Int × List Int × List UInt8 × List UInt8 × List (List UInt8)) => Option.bind (m_spec_Changed_f (x.1, [(x.2.1, x.2.2.1, x.2.2.2.1, x.2.2.2.2.1, x.2.2.2.2.2.1, x.2.2.2.2.2.2)])) fun (r : List Node × List Int × Bool) => some r.2.2
noncomputable def cx_laws_sure7 : Cx := ⟨tb, lookE [(50, e_spec_Changed_f)], lookS []⟩
theorem ck_laws_sure7 : CxOK Try.prog (cx_laws_sure7) := cx_ok tb_ok (.cons ok_spec_Changed_f Try.call50 .nil)
noncomputable def e_laws_sure7 : Ent := ⟨0, p_laws_sure7, q_laws_sure7, m_laws_sure7⟩
theorem ok_laws_sure7 : FnOK Try.prog 21 e_laws_sure7 := fn_ok (L := lookL []) ck_laws_sure7 mixed Try.func21 rfl (by kernel_rfl) (by kernel_rfl) (ls_ok (l := []) (by kernel_rfl) .nil) (by intro x; kernel_rfl)
abbrev p_laws_told7 : Pt := [(0, .lst .node), (1, .lst .node), (2, .lst .int), (3, .bool)]
abbrev q_laws_told7 : Pt := [(0, .bool)]
noncomputable def m_laws_told7 : Tup p_laws_told7 → Option (Tup q_laws_told7) := fun (x : List Node × List Node × List Int × Bool) => bif x.2.2.2 then bif decide ((↑(List.length x.2.2.1) : Int) = (↑(List.length x.1) : Int)) then Option.bind (m_spec_Shaped x.2.1) fun (r : Bool) => some r else some false else some false
noncomputable def cx_laws_told7 : Cx := ⟨tb, lookE [(55, e_spec_Shaped)], lookS []⟩
theorem ck_laws_told7 : CxOK Try.prog (cx_laws_told7) := cx_ok tb_ok (.cons ok_spec_Shaped Try.call55 .nil)
noncomputable def e_laws_told7 : Ent := ⟨0, p_laws_told7, q_laws_told7, m_laws_told7⟩
theorem ok_laws_told7 : FnOK Try.prog 24 e_laws_told7 := fn_ok (L := lookL []) ck_laws_told7 mixed Try.func24 rfl (by kernel_rfl) (by kernel_rfl) (ls_ok (l := []) (by kernel_rfl) .nil) (by intro x; kernel_rfl)
abbrev p_laws_then7 : Pt := [(0, .lst .int), (1, .lst .int)]
abbrev q_laws_then7 : Pt := [(0, .own .int 3)]
abbrev p_laws_then7_0 : Pt := [(0, .lst .int), (1, .lst .int), (5, .own .int 3), (6, .int .i64)]
abbrev x_laws_then7_0 : List (Xt × Pt) := [(.ex 0, [(5, .own .int 3)])]
noncomputable def m_laws_then7_0 : Tup p_laws_then7_0 → Option (Stp (Tup p_laws_then7_0) (SumT (x_laws_then7_0.map (·.2)))) := fun (x : List Int × List Int × List Int × Int) => bif decide (x.2.2.2 < (↑(List.length x.1) : Int)) then Option.bind (atI x.1 x.2.2.2) fun (v : Int) => bif decide ((0 : Int) ≤ v) then Option.bind (atI x.1 x.2.2.2) fun (v : Int) => bif decide (v < (↑(List.length x.2.1) : Int)) then Option.bind (atI x.1 x.2.2.2) fun (v : Int) => Option.bind (atI x.2.1 v) fun (v : Int) => Option.bind (appL x.2.2.1 [v]) fun (r : List Int) => some (Stp.nx (x.1, x.2.1, r, IntKind.wrap .i64 (x.2.2.2 + (1 : Int)))) else Option.bind (appL x.2.2.1 [(-1 : Int)]) fun (r : List Int) => some (Stp.nx (x.1, x.2.1, r, IntKind.wrap .i64 (x.2.2.2 + (1 : Int)))) else Option.bind (appL x.2.2.1 [(-1 : Int)]) fun (r : List Int) => some (Stp.nx (x.1, x.2.1, r, IntKind.wrap .i64 (x.2.2.2 + (1 : Int)))) else some (Stp.out x.2.2.1)
noncomputable def m_laws_then7 : Tup p_laws_then7 → Option (Tup q_laws_then7) := fun (x : List Int × List Int) => Option.bind (loopO m_laws_then7_0 (x.1, x.2, [], (0 : Int))) fun (y : List Int) => some y
noncomputable def cx_laws_then7 : Cx := ⟨tb, lookE [], lookS []⟩
theorem ck_laws_then7 : CxOK Try.prog (cx_laws_then7) := cx_ok tb_ok .nil
noncomputable def c_laws_then7_0 : Code := loopAt (Go.Proofs.Try.f35.body.getD .skip) 0
noncomputable def l_laws_then7_0 : LEnt := ⟨p_laws_then7_0, x_laws_then7_0, loopO (m_laws_then7_0)⟩
theorem lo_laws_then7_0 : LOK Try.prog 40 0 false (l_laws_then7_0) c_laws_then7_0 := loop_ok (body := m_laws_then7_0) (L := lookL []) (ck_laws_then7) mixed (ls_ok (l := []) (by kernel_rfl) .nil) (by intro x; kernel_rfl) (fun x y h => loopO_iff.1 h)
noncomputable def e_laws_then7 : Ent := ⟨0, p_laws_then7, q_laws_then7, m_laws_then7⟩
theorem ok_laws_then7 : FnOK Try.prog 35 e_laws_then7 := fn_ok (L := lookL [(0, l_laws_then7_0)]) ck_laws_then7 mixed Try.func35 rfl (by kernel_rfl) (by kernel_rfl) (ls_ok (l := [(0, c_laws_then7_0)]) (by kernel_rfl) (.cons rfl (lo_laws_then7_0) .nil)) (by intro x; kernel_rfl)
abbrev p_laws_FnReplaced : Pt := [(0, .lst .node), (1, .int .i64), (2, .lst .int)]
abbrev q_laws_FnReplaced : Pt := [(0, .bool)]
noncomputable def m_laws_FnReplaced : Tup p_laws_FnReplaced → Option (Tup q_laws_FnReplaced) := fun (x : List Node × Int × List Int) => Option.bind (m_laws_zzFits1 x.1) fun (r : Bool) => bif !r then some true else bif decide ((2147483647 : Int) < (↑(List.length x.2.2) : Int)) then some true else Option.bind (m_laws_step7 ((5 : Int), [x.2.1], x.2.2)) fun (r : Int × List Int × List Int × List UInt8 × List UInt8 × List (List UInt8)) => Option.bind (m_laws_sure7 (x.1, r.1, r.2.1, r.2.2.1, r.2.2.2.1, r.2.2.2.2.1, r.2.2.2.2.2)) fun (r : Bool) => bif !r then some true else Option.bind (m_impl_ReplaceOf_f (x.1, [x.2.1], x.2.2)) fun (r : List Node × List Int × Bool) => Option.bind (m_impl_AfterOf_f (x.1, [x.2.1], x.2.2)) fun (r_1 : List Node × List Int × Bool) => Option.bind (m_laws_told7 (x.1, r.1, r.2.1, r.2.2)) fun (r_2 : Bool) => bif !r_2 then some false else Option.bind (m_laws_told7 (x.1, r_1.1, r_1.2.1, r_1.2.2)) fun (r_3 : Bool) => bif !r_3 then some false else Option.bind (atI r_1.2.1 x.2.1) fun (v : Int) => Option.bind (m_impl_RemoveOf_f (r_1.1, [v])) fun (r_4 : List Node × List Int × Bool) => bif r_4.2.2 then Option.bind (m_spec_SameTree (r.1, r_4.1)) fun (r_5 : Bool) => bif r_5 then Option.bind (m_laws_then7 (r_1.2.1, r_4.2.1)) fun (r_6 : List Int) => Option.bind (m_spec_SameList (r.2.1, r_6)) fun (r : Bool) => some r else some false else some false
noncomputable def cx_laws_FnReplaced : Cx := ⟨tb, lookE [(13, e_laws_zzFits1), (22, e_laws_step7), (21, e_laws_sure7), (32, e_impl_ReplaceOf_f), (26, e_impl_AfterOf_f), (24, e_laws_told7), (33, e_impl_RemoveOf_f), (19, e_spec_SameTree), (35, e_laws_then7), (34, e_spec_SameList)], lookS []⟩
theorem ck_laws_FnReplaced : CxOK Try.prog (cx_laws_FnReplaced) := cx_ok tb_ok (.cons ok_laws_zzFits1 Try.call13 (.cons ok_laws_step7 Try.call22 (.cons ok_laws_sure7 Try.call21 (.cons ok_impl_ReplaceOf_f Try.call32 (.cons ok_impl_AfterOf_f Try.call26 (.cons ok_laws_told7 Try.call24 (.cons ok_impl_RemoveOf_f Try.call33 (.cons ok_spec_SameTree Try.call19 (.cons ok_laws_then7 Try.call35 (.cons ok_spec_SameList Try.call34 .nil))))))))))
noncomputable def e_laws_FnReplaced : Ent := ⟨0, p_laws_FnReplaced, q_laws_FnReplaced, m_laws_FnReplaced⟩
theorem ok_laws_FnReplaced : FnOK Try.prog 10 e_laws_FnReplaced := fn_ok (L := lookL []) ck_laws_FnReplaced mixed Try.func10 rfl (by kernel_rfl) (by kernel_rfl) (ls_ok (l := []) (by kernel_rfl) .nil) (by intro x; kernel_rfl)
end Go.Proofs.Ytfmlpodcldhgdaa.V
set_option linter.unusedVariables false
set_option linter.unusedSimpArgs false
namespace Go.Proofs.Ytfmlpodcldhgdaa.V
open Go
section
variable {t : List Node} {o p : Nat} {ws A B : List Nat} {n : Nat}
theorem big_ex : ∃ n, big = n ∧ 1000000 ≤ n := ⟨big, rfl, by unfold big; omega⟩
theorem off_mem {F : Fo} {l : List Nat} {x y : Nat} (h : y ∈ (F.off l).kids x) : y ∈ F.kids x := (List.mem_filter.1 h).1
theorem Ht.sub {K K' : Nat → List Nat} (h : ∀ x y, y ∈ K' x → y ∈ K x) : ∀ {n x : Nat}, Ht K n x → Ht K' n x
  | 0, _, hh => hh
  | n + 1, x, hh => fun y hy => Ht.sub h (hh y (h x y hy))
theorem Pa.flo (hR : RT t) (h : Pa t o p A B ws) (hn : 1000000 ≤ n) : Flt t ((mvd (FT t) p (A ++ [o]) ws B).off [o]) n := by
  have hF := h.pl.fl hR hn
  refine ⟨off_ok hF.ok, hF.m, fun x => (hF.ht x).sub fun _ _ => off_mem, ids_nodup (off_ok hF.ok) (fun x y hy => rank_lt hR h.pl.hp h.pl.hk h.pl.mv x y (off_mem hy)) n 0, fun x y hy => hF.leaf x y (off_mem hy)⟩
def Did (t : List Node) (op : Int) (x : Nat) (l : List Nat) (G : Fo) : Prop :=
  (op = 2 → Pl t x [] (kidsN t x) l ∧ G = mvd (FT t) x [] l (kidsN t x)) ∧ (op = 3 → ∃ p A B, Pa t x p A B l ∧ G = mvd (FT t) p (A ++ [x]) l B) ∧ (op = 5 → ∃ p A B, Pa t x p A B l ∧ G = (mvd (FT t) p (A ++ [x]) l B).off [x])
theorem Did.fl (hR : RT t) {op : Int} {x : Nat} {l : List Nat} {G : Fo} (h : Did t op x l G) (hop : op = 2 ∨ op = 3 ∨ op = 5) (hn : 1000000 ≤ n) : Flt t G n := by
  obtain ⟨h1, h2, h3⟩ := h
  rcases hop with e | e | e
  · obtain ⟨k1, rfl⟩ := h1 e
    exact k1.fl hR hn
  · obtain ⟨p, A, B, k1, rfl⟩ := h2 e
    exact k1.pl.fl hR hn
  · obtain ⟨p, A, B, k1, rfl⟩ := h3 e
    exact k1.flo hR hn
theorem step_ex (hR : RT t) {op o : Int} {ws : List Int} (hop : op = 2 ∨ op = 3 ∨ op = 5) (hl : ws.length ≤ 2147483647) :
    ∃ b S, m_spec_forest_step (((), (t.length : Int), false), (op, [o], ws, [], [], []), (List.range t.length).map some, (FT t).kst (P0 t)) = some (b, ((), (t.length : Int), false), (List.range t.length).map some, S) ∧
      (b = true → ∃ (x : Nat) (l : List Nat) (G : Fo), o = (x : Int) ∧ ws = intsN l ∧ S = G.kst (P0 t) ∧ Did t op x l G ∧ (1 ≤ x ∧ x < t.length) ∧ (∀ c ∈ l, 1 ≤ c ∧ c < t.length) ∧ l.Nodup) := by
  obtain ⟨r1, b1, h1, h1'⟩ := chosen_nat (t.length : Int) false (on := [o]) (n := t.length) (by simp)
  obtain ⟨r2, b2, h2, h2'⟩ := chosen_nat (t.length : Int) false (on := ws) (n := t.length) hl
  simp only [m_spec_forest_step, h1, h2, bind_some, cond_dec]
  cases b1 with
  | false => exact ⟨_, _, rfl, fun h => by cases h⟩
  | true =>
    cases b2 with
    | false => exact ⟨_, _, rfl, fun h => by cases h⟩
    | true =>
      obtain ⟨l1, e1, rfl, g1, g2⟩ := h1' rfl
      obtain ⟨l2, e2, rfl, k1, k2⟩ := h2' rfl
      obtain ⟨x, rfl⟩ : ∃ x, l1 = [x] := by
        have : l1.length = 1 := by
          have := congrArg List.length e1
          simpa [intsN] using this.symm
        exact List.length_eq_one_iff.1 this
      have ho : o = (x : Int) := by
        simp only [intsN, List.map_cons, List.map_nil, List.cons.injEq, and_true] at e1
        exact e1
      have hx := g1 x (by simp)
      simp only [Bool.not_true, cond_false, List.map_cons, List.map_nil, List.length_singleton]
      rw [if_neg (by decide)]
      rcases hop with rfl | rfl | rfl
      · obtain ⟨b, S, q1, q2⟩ := insert1_pre (a := (t.length : Int)) (ks := (List.range t.length).map some) hR hx k1 k2
        rw [if_neg (by decide), if_pos rfl, q1, bind_some]
        refine ⟨_, _, rfl, fun hb => ?_⟩
        obtain ⟨q3, q4⟩ := q2 hb
        exact ⟨x, l2, _, ho, e2, q4, ⟨fun _ => ⟨q3, rfl⟩, fun h => absurd h (by decide), fun h => absurd h (by decide)⟩, hx, k1, k2⟩
      · obtain ⟨b, S, q1, q2⟩ := insert1_aft (a := (t.length : Int)) (ks := (List.range t.length).map some) hR hx k1 k2
        rw [if_neg (by decide), if_neg (by decide), if_pos rfl, q1, bind_some]
        refine ⟨_, _, rfl, fun hb => ?_⟩
        obtain ⟨p, A, B, q3, q4⟩ := q2 hb
        exact ⟨x, l2, _, ho, e2, q4, ⟨fun h => absurd h (by decide), fun _ => ⟨p, A, B, q3, rfl⟩, fun h => absurd h (by decide)⟩, hx, k1, k2⟩
      · obtain ⟨b, S, q1, q2⟩ := insert1_rep (a := (t.length : Int)) (ks := (List.range t.length).map some) hR hx k1 k2
        rw [if_neg (by decide), if_neg (by decide), if_neg (by decide), if_neg (by decide), if_pos rfl, q1, bind_some]
        refine ⟨_, _, rfl, fun hb => ?_⟩
        obtain ⟨p, A, B, q3, q4⟩ := q2 hb
        exact ⟨x, l2, _, ho, e2, q4, ⟨fun h => absurd h (by decide), fun h => absurd h (by decide), fun _ => ⟨p, A, B, q3, rfl⟩⟩, hx, k1, k2⟩
theorem fill_eq (a : Int) (b : Bool) (S : List KN) (ks : List (Option Nat)) {m : Nat} (hm : m ≤ 1000000) : ∀ d j : Nat, m - j = d → j ≤ m → loopO m_spec_Changed_1 (((), a, b), List.replicate j (-1) ++ List.replicate (m - j) 0, (j : Int), S, ks) = some (((), a, b), List.replicate m (-1), S, ks) := by
  intro d
  induction d with
  | zero =>
    intro j hd hj
    obtain rfl : j = m := by omega
    refine loopO_out ?_
    simp only [m_spec_Changed_1, cond_dec]
    rw [if_neg (by simp)]
    simp
  | succ d ih =>
    intro j hd hj
    have hg : (List.replicate j (-1) ++ List.replicate (m - j) 0 : List Int)[j]? = some 0 := by
      rw [List.getElem?_append_right (by simp), List.length_replicate, Nat.sub_self, List.getElem?_replicate, if_pos (by omega)]
    have hs : (List.replicate j (-1) ++ List.replicate (m - j) 0 : List Int).set j (-1) = List.replicate (j + 1) (-1) ++ List.replicate (m - (j + 1)) 0 := by
      rw [List.set_append_right _ _ (by simp)]
      rw [show m - j = (m - (j + 1)) + 1 by omega, List.replicate_succ]
      simp only [List.length_replicate, Nat.sub_self, List.set_cons_zero]
      rw [List.replicate_succ', List.append_assoc]
      rfl
    have step : m_spec_Changed_1 (((), a, b), List.replicate j (-1) ++ List.replicate (m - j) 0, (j : Int), S, ks) = some (.nx (((), a, b), List.replicate (j + 1) (-1) ++ List.replicate (m - (j + 1)) 0, ((j + 1 : Nat) : Int), S, ks)) := by
      simp only [m_spec_Changed_1, cond_dec, atI_nat, hg, bind_some, Int.toNat_natCast, hs]
      rw [if_pos (by simp; omega), w64 (by omega) (by omega)]
      rfl
    rw [loopO_nx step]
    exact ih (j + 1) (by omega) (by omega)
theorem changed1 (hf : fits1 t = true) {op o : Int} {ws : List Int} (hop : op = 2 ∨ op = 3 ∨ op = 5) (hl : ws.length ≤ 2147483647) :
    ∃ out at' b, m_spec_Changed_f (t, [(op, [o], ws, [], [], [])]) = some (out, at', b) ∧
      (b = true → RT t ∧ ∃ (x : Nat) (l : List Nat) (G : Fo), o = (x : Int) ∧ ws = intsN l ∧ Did t op x l G ∧ (1 ≤ x ∧ x < t.length) ∧ (∀ c ∈ l, 1 ≤ c ∧ c < t.length) ∧ l.Nodup) := by
  obtain ⟨n, hb, hn⟩ := big_ex
  obtain ⟨b0, h0, h0'⟩ := Right_ex t hf
  suffices h : ∃ out at' b S, m_spec_Changed (t, [(op, [o], ws, [], [], [])], []) = some (out, at', b, S) ∧ (b = true → RT t ∧ ∃ (x : Nat) (l : List Nat) (G : Fo), o = (x : Int) ∧ ws = intsN l ∧ Did t op x l G ∧ (1 ≤ x ∧ x < t.length) ∧ (∀ c ∈ l, 1 ≤ c ∧ c < t.length) ∧ l.Nodup) by
    obtain ⟨out, at', b, S, g1, g2⟩ := h
    refine ⟨out, at', b, ?_, g2⟩
    show (m_spec_Changed (t, [(op, [o], ws, [], [], [])], [])).map _ = _
    rw [g1]; rfl
  simp only [m_spec_Changed, h0, bind_some, cond_dec]
  cases b0 with
  | false => exact ⟨_, _, _, _, rfl, fun h => by cases h⟩
  | true =>
    have hR := h0' rfl
    have hlen := hR.len
    simp only [Bool.not_true, cond_false, knots_eq hR, bind_some]
    obtain ⟨b1, S, h1, h1'⟩ := step_ex (o := o) hR hop hl
    have hat : atI [(op, [o], ws, ([] : List UInt8), ([] : List UInt8), ([] : List (List UInt8)))] (0 : Int) = some (op, [o], ws, [], [], []) := rfl
    have hat' : atI [(op, [o], ws, ([] : List UInt8), ([] : List UInt8), ([] : List (List UInt8)))] (0 : Int) = some (op, [o], ws, [], [], []) := rfl
    cases b1 with
    | false =>
      have st : m_spec_Changed_0 (t, [(op, [o], ws, [], [], [])], ((), (t.length : Int), false), (0 : Int), (FT t).kst (P0 t), (List.range t.length).map some) = some (.out (.inr ([], [], false, S))) := by
        simp only [m_spec_Changed_0, cond_dec, hat, bind_some, h1]
        rw [if_pos (by simp)]
        rfl
      rw [loopO_out st]
      exact ⟨_, _, _, _, rfl, fun h => by cases h⟩
    | true =>
      obtain ⟨x, l, G, e1, e2, rfl, e4, e5, e6, e7⟩ := h1' rfl
      have st : m_spec_Changed_0 (t, [(op, [o], ws, [], [], [])], ((), (t.length : Int), false), (0 : Int), (FT t).kst (P0 t), (List.range t.length).map some) = some (.nx (t, [(op, [o], ws, [], [], [])], ((), (t.length : Int), false), (1 : Int), G.kst (P0 t), (List.range t.length).map some)) := by
        simp only [m_spec_Changed_0, cond_dec, hat, bind_some, h1]
        rw [if_pos (by simp)]
        rfl
      have st2 : m_spec_Changed_0 (t, [(op, [o], ws, [], [], [])], ((), (t.length : Int), false), (1 : Int), G.kst (P0 t), (List.range t.length).map some) = some (.out (.inl (t, ((), (t.length : Int), false), G.kst (P0 t), (List.range t.length).map some))) := by
        simp only [m_spec_Changed_0, cond_dec]
        rw [if_neg (by simp)]
      have hF := e4.fl hR hop hn
      have hfill := fill_eq (t.length : Int) false (G.kst (P0 t)) ((List.range t.length).map some) (m := t.length) (by omega) t.length 0 rfl (Nat.zero_le _)
      have hfill' : loopO m_spec_Changed_1 (((), (t.length : Int), false), List.replicate (Int.toNat (t.length : Int)) (0 : Int), (0 : Int), G.kst (P0 t), (List.range t.length).map some) = some (((), (t.length : Int), false), List.replicate t.length (-1), G.kst (P0 t), (List.range t.length).map some) := hfill
      have hz : ((List.range t.length).map some)[0]? = some (some 0) := by
        have := hR.pos
        rw [List.getElem?_map, List.getElem?_range hR.pos]; rfl
      have hids := ids_len hF.ok (r := fun _ => 0)
      have hle := hF.le hR
      rw [hF.tl] at hle
      have hli := listed_eq (P := P0 t) hF.ok n 0 [] (List.replicate t.length (-1)) (by rw [hF.m]; exact hR.pos) (hF.ht 0) (by simp; omega) (by simp; omega)
      rw [loopO_nx st, loopO_out st2, bind_some]
      simp only [selim]
      rw [if_pos ⟨by omega, by omega, by omega⟩, hfill', bind_some]
      simp only [atI_zero, hz, bind_some, show Int.toNat 0 = 0 from rfl, hb, hli]
      exact ⟨_, _, _, _, rfl, fun _ => ⟨hR, x, l, G, e1, e2, e4, e5, e6, e7⟩⟩
end
end Go.Proofs.Ytfmlpodcldhgdaa.V
set_option linter.unusedVariables false
set_option linter.unusedSimpArgs false
namespace Go.Proofs.Ytfmlpodcldhgdaa.V
open Go
theorem sameNode_refl (v : Node) (ha : v.attrs.length ≤ 1000000) : m_spec_sameNode (v, v) = some true := by
  have key : ∀ d j, v.attrs.length - j = d → j ≤ v.attrs.length → loopO m_spec_sameNode_0 (v, v, (j : Int)) = some (.inl ()) := by
    intro d
    induction d with
    | zero =>
      intro j hd hj
      refine loopO_out ?_
      simp only [m_spec_sameNode_0, cond_dec]
      rw [if_neg (by omega)]
    | succ d ih =>
      intro j hd hj
      obtain ⟨a, hA⟩ := get_lt (l := v.attrs) (k := j) (by omega)
      have step : m_spec_sameNode_0 (v, v, (j : Int)) = some (.nx (v, v, ((j + 1 : Nat) : Int))) := by
        simp only [m_spec_sameNode_0, cond_dec, atI_nat, hA, bind_some]
        rw [if_pos (by omega)]
        simp only [and_self, decide_true, Bool.not_true, cond_false]
        rw [w64 (by omega) (by omega)]
        rfl
      rw [loopO_nx step]
      exact ih (j + 1) (by omega) (by omega)
  have h := key v.attrs.length 0 (by omega) (Nat.zero_le _)
  have h' : loopO m_spec_sameNode_0 (v, v, (0 : Int)) = some (.inl ()) := h
  simp only [m_spec_sameNode, ne_eq, not_true, decide_false, cond_false]
  rw [h']
  rfl
theorem sameTree_refl (l : List Node) (hl : l.length ≤ 1000000) (ha : ∀ (i : Nat) (v : Node), l[i]? = some v → v.attrs.length ≤ 1000000) : m_spec_SameTree (l, l) = some true := by
  have key : ∀ d j, l.length - j = d → j ≤ l.length → loopO m_spec_SameTree_0 (l, l, (j : Int)) = some (.inl ()) := by
    intro d
    induction d with
    | zero =>
      intro j hd hj
      refine loopO_out ?_
      simp only [m_spec_SameTree_0, cond_dec]
      rw [if_neg (by omega)]
    | succ d ih =>
      intro j hd hj
      obtain ⟨v, hv⟩ := get_lt (l := l) (k := j) (by omega)
      have step : m_spec_SameTree_0 (l, l, (j : Int)) = some (.nx (l, l, ((j + 1 : Nat) : Int))) := by
        simp only [m_spec_SameTree_0, cond_dec, atI_nat, hv, bind_some]
        rw [if_pos (by omega)]
        have := sameNode_refl v (ha j v hv)
        rw [this]
        simp only [bind_some, Bool.not_true, cond_false]
        rw [w64 (by omega) (by omega)]
        rfl
      rw [loopO_nx step]
      exact ih (j + 1) (by omega) (by omega)
  have h := key l.length 0 (by omega) (Nat.zero_le _)
  have h' : loopO m_spec_SameTree_0 (l, l, (0 : Int)) = some (.inl ()) := h
  simp only [m_spec_SameTree, ne_eq, not_true, decide_false, cond_false]
  rw [h', bind_some]
  rfl
end Go.Proofs.Ytfmlpodcldhgdaa.V
set_option linter.unusedVariables false
set_option linter.unusedSimpArgs false
namespace Go.Proofs.Ytfmlpodcldhgdaa.V
open Go
theorem sized_true (t : List Node) (ht : t.length ≤ 1000000) : ∀ (d n a e : Nat), d < n → d ≤ 1000000 → a + sz t a ≤ e → e ≤ t.length → Lam t a (a + sz t a) → 1 ≤ sz t a → sz t a ≤ d → m_spec_sized n (t, (a : Int), (e : Int), (d : Int)) = some true := by
  intro d
  induction d with
  | zero => intro n a e _ _ _ _ _ h1 h2; omega
  | succ d ih =>
    intro n a e hn hd hae he hL h1 h2
    obtain ⟨m, rfl⟩ : ∃ m, n = m + 1 := ⟨n - 1, by omega⟩
    obtain ⟨v, hv, hvs, _, _⟩ := hL.ok a (Nat.le_refl _) (by omega)
    have key : ∀ f k, a < k → k ≤ a + sz t a → a + sz t a - k ≤ f → loopO (m_spec_sized_0 (m_spec_sized m)) (t, (a : Int), ((d + 1 : Nat) : Int), (sz t a : Int), (k : Int)) = some (.inl ()) := by
      intro f
      induction f with
      | zero =>
        intro k k1 k2 k3
        refine loopO_out ?_
        simp only [m_spec_sized_0, cond_dec]
        rw [w64 (n := (a : Int) + (sz t a : Int)) (by omega) (by omega), if_neg (by omega)]
      | succ f ih2 =>
        intro k k1 k2 k3
        by_cases hk : k < a + sz t a
        · obtain ⟨u, hu, hus, hu1, hu2⟩ := hL.ok k (by omega) hk
          have hs := ih m k (a + sz t a) (by omega) (by omega) hu2 (by omega) (hL.sub (by omega) hk) hu1 (by omega)
          have e1 : IntKind.wrap .i64 (((d + 1 : Nat) : Int) - 1) = (d : Int) := by rw [w64 (by omega) (by omega)]; omega
          have e2 : IntKind.wrap .i64 ((a : Int) + (sz t a : Int)) = ((a + sz t a : Nat) : Int) := by rw [w64 (by omega) (by omega)]; omega
          have step : m_spec_sized_0 (m_spec_sized m) (t, (a : Int), ((d + 1 : Nat) : Int), (sz t a : Int), (k : Int)) = some (.nx (t, (a : Int), ((d + 1 : Nat) : Int), (sz t a : Int), ((k + sz t k : Nat) : Int))) := by
            simp only [m_spec_sized_0, cond_dec, atI_nat, e1, e2, hs, hu, bind_some, hus]
            rw [if_pos (by omega), w64 (by omega) (by omega)]
            simp
          rw [loopO_nx step]
          exact ih2 (k + sz t k) (by omega) (by omega) (by omega)
        · refine loopO_out ?_
          simp only [m_spec_sized_0, cond_dec]
          rw [w64 (n := (a : Int) + (sz t a : Int)) (by omega) (by omega), if_neg (by omega)]
    have h0 := key (sz t a) (a + 1) (by omega) (by omega) (by omega)
    have h0' : loopO (m_spec_sized_0 (m_spec_sized m)) (t, (a : Int), ((d + 1 : Nat) : Int), (sz t a : Int), (a : Int) + 1) = some (.inl ()) := h0
    show b_spec_sized (m_spec_sized m) _ = _
    simp only [b_spec_sized, cond_dec, atI_nat, hv, bind_some, hvs]
    rw [if_neg (by omega), if_neg (by omega), w64 (n := (e : Int) - (a : Int)) (by omega) (by omega), if_neg (by omega), w64 (n := (a : Int) + 1) (by omega) (by omega), h0', bind_some]
    rfl
theorem Shaped_eq {t : List Node} (hR : RT t) : m_spec_Shaped t = some true := by
  have hlen := hR.len
  have hpos := hR.pos
  obtain ⟨n, hb, hn⟩ := big_ex
  obtain ⟨v, hv, hv1⟩ := hR.k0
  have hv0 : v.size = (t.length : Int) := by
    obtain ⟨u, hu, hus, _, _⟩ := hR.lam.ok 0 (Nat.le_refl _) hpos
    rw [hv] at hu
    cases hu
    rw [hus, hR.root]
  obtain ⟨y, h1, h2⟩ := loopO_rule (body := m_spec_Shaped_0) (fun x => ∃ k : Nat, x = (t, (k : Int)) ∧ k ≤ t.length) (fun _ y => y = .inl t) (fun x => ((t.length : Int) - x.2).toNat) (fun x hx => by
    obtain ⟨k, rfl, hk⟩ := hx
    simp only [m_spec_Shaped_0, cond_dec, atI_nat]
    by_cases hkl : k < t.length
    · obtain ⟨u, hu, hus, hu1, hu2⟩ := hR.lam.ok k (Nat.zero_le _) hkl
      have hN := hR.node k u hu
      have hk1 := hN.k1
      have hk2 := hN.k2
      have hkd := hN.kd
      have hnx : (some (.nx (t, IntKind.wrap .i64 ((k : Int) + 1))) : Option (Stp (List Node × Int) (List Node ⊕ Bool))) = some (.nx (t, ((k + 1 : Nat) : Int))) := by rw [w64 (by omega) (by omega)]; rfl
      refine .inr ⟨(t, ((k + 1 : Nat) : Int)), ?_, ⟨k + 1, rfl, by omega⟩, by simp only; omega, fun _ h => h⟩
      rw [if_pos (by omega), hu, bind_some, hus, if_neg (by omega), w64 (n := (t.length : Int) - (k : Int)) (by omega) (by omega), if_neg (by omega)]
      by_cases e0 : (0 : Int) < (k : Int)
      · rw [if_pos e0, if_neg (fun h => by have := hk1 h; omega), if_neg (by omega), if_neg (by omega)]
        by_cases e1 : (1 : Int) < (sz t k : Int)
        · rw [if_pos e1]
          by_cases e2 : u.kind = 1
          · have := hk1 e2; omega
          · rw [if_pos e2]
            by_cases e3 : u.kind = 3
            · rw [if_neg (by simp [e3])]; exact hnx
            · have := hk2 e3 e2; omega
        · rw [if_neg e1]; exact hnx
      · rw [if_neg e0, if_neg (by omega), if_neg (by omega)]
        by_cases e1 : (1 : Int) < (sz t k : Int)
        · rw [if_pos e1]
          by_cases e2 : u.kind = 1
          · rw [if_neg (by simp [e2])]; exact hnx
          · rw [if_pos e2]
            by_cases e3 : u.kind = 3
            · rw [if_neg (by simp [e3])]; exact hnx
            · have := hk2 e3 e2; omega
        · rw [if_neg e1]; exact hnx
    · rw [if_neg (by omega)]
      exact .inl ⟨_, rfl, rfl⟩) (t, ((0 : Nat) : Int)) ⟨0, rfl, Nat.zero_le _⟩
  subst h2
  have h1' : loopO m_spec_Shaped_0 (t, (0 : Int)) = some (.inl t) := h1
  have hs := sized_true t (by omega) 2000 n 0 t.length (by omega) (by omega) (by rw [hR.root]; omega) (Nat.le_refl _) (by rw [hR.root, Nat.zero_add]; exact hR.lam) (by rw [hR.root]; exact hpos) (by rw [hR.root]; omega)
  have hs' : m_spec_sized n (t, (0 : Int), (t.length : Int), (2000 : Int)) = some true := hs
  simp only [m_spec_Shaped, cond_dec, atI_zero, hv, bind_some, h1', hb]
  rw [if_neg (by omega), if_neg (by simp [hv1]), if_neg (by simp [hv0])]
  simp only [selim, hs', bind_some]
theorem told_eq {t out : List Node} {at' : List Int} (hR : RT out) (hl : at'.length = t.length) : m_laws_told7 (t, out, at', true) = some true := by
  simp only [m_laws_told7, cond_dec, cond_true, Shaped_eq hR, bind_some]
  rw [if_pos (by omega)]
theorem attrs_le {t : List Node} (hR : RT t) {v : Node} (h1 : v ∈ t) : v.attrs.length ≤ 1000000 := by
  obtain ⟨k, hk⟩ := List.mem_iff_getElem?.1 h1
  have hkd := (hR.node k v hk).kd
  by_cases h3 : v.kind = 3
  · have := ((hR.node k v hk).k3 h3).2.1
    omega
  · have := ((hR.node k v hk).k4 h3).2
    rw [this]; simp
section
variable {t : List Node} {p : Nat} {cs A B : List Nat} {n : Nat}
theorem Pl.spots_get (hR : RT t) (h : Pl t p A B cs) (hn : 1000000 ≤ n) {z : Nat} (hz : z < t.length) : (V.spots t (mvd (FT t) p A cs B) n)[z]? = some (wh t p A B cs n z : Int) := by
  rw [h.spots hR hn, List.getElem?_map, List.getElem?_range hz]; rfl
theorem Pl.spots_len : (V.spots t (mvd (FT t) p A cs B) n).length = t.length := by simp [V.spots]
theorem Pl.tlen (hR : RT t) (h : Pl t p A B cs) (hn : 1000000 ≤ n) : (tree t (mvd (FT t) p A cs B) n).length = t.length := by
  rw [(h.fl hR hn).tl, h.len hR hn]
end
theorem sure_ex {t : List Node} (hf : fits1 t = true) {op o : Int} {ws : List Int} (hop : op = 2 ∨ op = 3 ∨ op = 5) (hl : ws.length ≤ 2147483647) :
    ∃ b, m_laws_sure7 (t, op, [o], ws, [], [], []) = some b ∧ (b = true → RT t ∧ ∃ (x : Nat) (l : List Nat) (G : Fo), o = (x : Int) ∧ ws = intsN l ∧ Did t op x l G ∧ (1 ≤ x ∧ x < t.length) ∧ (∀ c ∈ l, 1 ≤ c ∧ c < t.length) ∧ l.Nodup) := by
  obtain ⟨out, at', b, h1, h2⟩ := changed1 (o := o) hf hop hl
  refine ⟨b, ?_, h2⟩
  simp only [m_laws_sure7, h1, bind_some]
end Go.Proofs.Ytfmlpodcldhgdaa.V
set_option linter.unusedVariables false
set_option linter.unusedSimpArgs false
namespace Go.Proofs.Ytfmlpodcldhgdaa.V
open Go
section
variable {t : List Node} {p o : Nat} {ws cs A B : List Nat} {n : Nat}
theorem Pl.wh_inj (hR : RT t) (h : Pl t p A B cs) (hn : 1000000 ≤ n) {x y : Nat} (hx : x < t.length) (hy : y < t.length) (e : wh t p A B cs n x = wh t p A B cs n y) : x = y := by
  have h1 := (h.oc hR hn hx (N := fun _ => ⟨0, [], [], [], 0⟩)).id (h.fl hR hn).ht
  have h2 := (h.oc hR hn hy (N := fun _ => ⟨0, [], [], [], 0⟩)).id (h.fl hR hn).ht
  rw [e, h2] at h1
  exact (Option.some.inj h1).symm
theorem Pl.wh0 (hR : RT t) (h : Pl t p A B cs) (hn : 1000000 ≤ n) : wh t p A B cs n 0 = 0 :=
  idxOf_at (h.fl hR hn).nd ((Oc.refl (K := (mvd (FT t) p A cs B).kids) (N := fun _ => ⟨0, [], [], [], 0⟩) (n := n) (r := 0)).id (h.fl hR hn).ht)
end
end Go.Proofs.Ytfmlpodcldhgdaa.V
set_option linter.unusedVariables false
set_option linter.unusedSimpArgs false
namespace Go.Proofs.Ytfmlpodcldhgdaa.V
open Go
theorem flat_map {α β γ : Type} {f : β → List γ} {s : α → β} : ∀ {l : List α}, (l.map s).flatMap f = l.flatMap fun a => f (s a)
  | [] => rfl
  | a :: l => by rw [List.map_cons, List.flatMap_cons, List.flatMap_cons, flat_map]
theorem map_flat {α β γ : Type} {f : α → List β} {s : β → γ} : ∀ {l : List α}, (l.flatMap f).map s = l.flatMap fun a => (f a).map s
  | [] => rfl
  | a :: l => by rw [List.flatMap_cons, List.map_append, map_flat, List.flatMap_cons]
section
variable {K K' : Nat → List Nat} {N N' : Nat → Node} {s : Nat → Nat} {Q : Nat → Prop}
theorem ids_map (hK : ∀ y, Q y → K' (s y) = (K y).map s) (hQ : ∀ y, Q y → ∀ c ∈ K y, Q c) : ∀ m y, Q y → idsF K' m (s y) = (idsF K m y).map s
  | 0, _, _ => rfl
  | m + 1, y, hy => by
    simp only [idsF, List.map_cons, hK y hy, flat_map, map_flat]
    rw [flat_congr fun c hc => ids_map hK hQ m c (hQ y hy c hc)]
theorem nodes_map (hK : ∀ y, Q y → K' (s y) = (K y).map s) (hN : ∀ y, Q y → N' (s y) = N y) (hQ : ∀ y, Q y → ∀ c ∈ K y, Q c) : ∀ m y, Q y → nodesF K' N' m (s y) = nodesF K N m y
  | 0, _, _ => rfl
  | m + 1, y, hy => by
    simp only [nodesF, hK y hy, flat_map, hN y hy]
    rw [flat_congr fun c hc => nodes_map hK hN hQ m c (hQ y hy c hc)]
end
theorem filter_map_inj {s : Nat → Nat} {x : Nat} : ∀ {l : List Nat}, (∀ y ∈ l, s y = s x → y = x) → (l.map s).filter (fun j => decide (j ∉ [s x])) = (l.filter fun j => decide (j ∉ [x])).map s
  | [], _ => rfl
  | a :: l, h => by
    have ih := filter_map_inj (s := s) (x := x) (l := l) fun y hy => h y (by simp [hy])
    rw [List.map_cons, List.filter_cons, List.filter_cons, ih]
    by_cases e : a = x
    · subst e; simp
    · have : s a ≠ s x := fun e2 => e (h a (by simp) e2)
      simp [e, this]
theorem posL_map {s : Nat → Nat} {x : Nat} : ∀ {l : List Nat}, (∀ y ∈ l, s y = s x → y = x) → posL (l.map s) (s x) = posL l x := fun {l} h => by
  have h1 : s x ∈ l.map s ↔ x ∈ l := ⟨fun h2 => by
    obtain ⟨y, hy, e⟩ := List.mem_map.1 h2
    exact h y hy e ▸ hy, fun h2 => List.mem_map.2 ⟨x, h2, rfl⟩⟩
  unfold posL
  by_cases e : x ∈ l
  · rw [if_pos e, if_pos (h1.2 e)]
    congr 1
    have key : ∀ {l : List Nat}, (∀ y ∈ l, s y = s x → y = x) → (l.map s).idxOf (s x) = l.idxOf x := fun {l} h => by
      induction l with
      | nil => rfl
      | cons a l ih =>
        rw [List.map_cons, List.idxOf_cons, List.idxOf_cons, ih fun y hy => h y (by simp [hy])]
        by_cases e : a = x
        · subst e; simp
        · have : s a ≠ s x := fun e2 => e (h a (by simp) e2)
          have e1 : (s a == s x) = false := by simpa using this
          have e2 : (a == x) = false := by simpa using e
          rw [e1, e2]
    exact key h
  · rw [if_neg e, if_neg (fun h2 => e (h1.1 h2))]
theorem sameList_refl' (l : List Int) (hl : l.length ≤ 2147483647) : m_spec_SameList (l, l) = some true := by
  simp only [m_spec_SameList, cond_dec]
  first | rw [if_neg (fun h => h rfl)] | rw [if_neg (fun h => h trivial)] | rw [if_neg not_false]
  have h := loop_all (body := m_spec_SameList_0) l (fun _ => true) (fun k => (l, l, (k : Int))) (.inl ()) (.inr false) (fun k u hu => by
    have hk := (List.getElem?_eq_some_iff.1 hu).1
    simp only [m_spec_SameList_0, cond_dec, atI_nat]
    rw [if_pos (by omega), hu]
    simp only [bind_some]
    rw [if_neg (by simp), w64 (by omega) (by omega)]
    rfl) (by
    simp only [m_spec_SameList_0, cond_dec]
    rw [if_neg (by omega)]) 0 (Nat.zero_le _)
  rw [show loopO m_spec_SameList_0 (l, l, (0 : Int)) = _ from h, bind_some]
  simp [selim_l]
theorem then_eq {first second res : List Int} (hl : first.length ≤ 1000000) (hlr : res.length = first.length) (h : ∀ (i : Nat) (v : Int), first[i]? = some v → 0 ≤ v ∧ v < second.length ∧ second[v.toNat]? = res[i]?) : m_laws_then7 (first, second) = some res := by
  have key : ∀ d j : Nat, first.length - j = d → j ≤ first.length → loopO m_laws_then7_0 (first, second, res.take j, (j : Int)) = some res := by
    intro d
    induction d with
    | zero =>
      intro j hd hj
      refine loopO_out ?_
      simp only [m_laws_then7_0, cond_dec]
      rw [if_neg (by omega), List.take_of_length_le (by omega)]
    | succ d ih =>
      intro j hd hj
      obtain ⟨v, hv⟩ := get_lt (l := first) (k := j) (by omega)
      obtain ⟨h0, h1, h2⟩ := h j v hv
      obtain ⟨r, hr⟩ := get_lt (l := res) (k := j) (by omega)
      rw [hr] at h2
      have hat : atI second v = some r := by
        have : v = ((v.toNat : Nat) : Int) := by omega
        rw [this, atI_nat]
        exact h2
      have step : m_laws_then7_0 (first, second, res.take j, (j : Int)) = some (.nx (first, second, res.take (j + 1), ((j + 1 : Nat) : Int))) := by
        simp only [m_laws_then7_0, cond_dec, atI_nat, hv, bind_some, hat]
        rw [if_pos (by omega), if_pos h0, if_pos h1, appL_some (by simp; omega), bind_some, w64 (by omega) (by omega), List.take_add_one, hr]
        rfl
      rw [loopO_nx step]
      exact ih (j + 1) (by omega) (by omega)
  have h0 := key first.length 0 rfl (Nat.zero_le _)
  rw [List.take_zero] at h0
  have h0' : loopO m_laws_then7_0 (first, second, [], (0 : Int)) = some res := h0
  simp only [m_laws_then7, h0', bind_some]
theorem ft_ht {t : List Node} (hR : RT t) {n : Nat} (hn : 1000000 ≤ n) (x : Nat) : Ht (FT t).kids n x := by
  have hlen := hR.len
  by_cases e : x < t.length
  · exact ht_kids hR n x e (by have := hR.le e; omega)
  · obtain ⟨m, rfl⟩ : ∃ m, n = m + 1 := ⟨n - 1, by omega⟩
    intro y hy
    simp only [FT, if_neg e] at hy
    cases hy
theorem fn_replaced (t : List Node) (o : Int) (ws : List Int) : m_laws_FnReplaced (t, o, ws) = some true := by
  simp only [m_laws_FnReplaced, zz1, bind_some, m_laws_step7, cond_dec]
  cases hf : fits1 t with
  | false => rfl
  | true =>
    simp only [Bool.not_true, cond_false]
    by_cases hl : (2147483647 : Int) < (ws.length : Int)
    · rw [if_pos hl]
    rw [if_neg hl]
    obtain ⟨b, h1, h2⟩ := sure_ex (t := t) (op := 5) (o := o) (ws := ws) hf (.inr (.inr rfl)) (by omega)
    rw [h1, bind_some]
    cases b with
    | false => rfl
    | true =>
      obtain ⟨hR, x, l, G, rfl, rfl, hd, hx, hl2, hl3⟩ := h2 rfl
      obtain ⟨p, A, B, hpa, _⟩ := hd.2.2 rfl
      obtain ⟨n, hb, hn⟩ := big_ex
      have hpl := hpa.pl
      have hF := hpl.fl hR hn
      have hF5 := hpa.flo hR hn
      have hRT := hF.rt hR
      have hRT5 := hF5.rt hR
      have hle := hF.le hR
      rw [hF.tl] at hle
      have hle5 := hF5.le hR
      rw [hF5.tl] at hle5
      have hlen := hR.len
      have htl := hpl.tlen hR hn
      have hne : ∀ d ∈ l, p ≠ d ∧ x ≠ d := fun d hd => ⟨hpl.ne hR d hd, fun e => hpa.no (e ▸ hd)⟩
      have hDs : Ds t l := ⟨fun c hc => (hl2 c hc).2, hl3⟩
      have hi := afterOf_eq hf hR hx.2 hpl.hp hpl.hk hDs hne hb (hF.ht 0) (by omega)
      have hi' : m_impl_AfterOf_f (t, intsN [x], intsN l) = some (tree t (mvd (FT t) p (A ++ [x]) l B) n, V.spots t (mvd (FT t) p (A ++ [x]) l B) n, true) := by
        show (m_impl_AfterOf (t, intsN [x], intsN l, [])).map _ = _
        rw [hi]; rfl
      have hi'' : m_impl_AfterOf_f (t, [(x : Int)], intsN l) = _ := hi'
      have hj := replaceOf_eq hf hR hx.2 hpl.hp hpl.hk hDs hne hb (hF5.ht 0) (by omega)
      have hj' : m_impl_ReplaceOf_f (t, intsN [x], intsN l) = some (tree t ((mvd (FT t) p (A ++ [x]) l B).off [x]) n, V.spots t ((mvd (FT t) p (A ++ [x]) l B).off [x]) n, true) := by
        show (m_impl_ReplaceOf (t, intsN [x], intsN l, [])).map _ = _
        rw [hj]; rfl
      have hj'' : m_impl_ReplaceOf_f (t, [(x : Int)], intsN l) = _ := hj'
      have hwx := hpl.wh_lt hR hn hx.2
      have hK : ∀ y, y < t.length → ((FT (tree t (mvd (FT t) p (A ++ [x]) l B) n)).off [wh t p (A ++ [x]) B l n x]).kids (wh t p (A ++ [x]) B l n y) = (((mvd (FT t) p (A ++ [x]) l B).off [x]).kids y).map (wh t p (A ++ [x]) B l n) := fun y hy => by
        have hwy := hpl.wh_lt hR hn hy
        have h1 := fl_kids_map hF.ht hF.nd (hpl.oc hR hn hy (N := fun i => kn (bs0 t i)))
        have h2 : kidsN (tree t (mvd (FT t) p (A ++ [x]) l B) n) (wh t p (A ++ [x]) B l n y) = ((mvd (FT t) p (A ++ [x]) l B).kids y).map (wh t p (A ++ [x]) B l n) := h1
        show ((FT (tree t (mvd (FT t) p (A ++ [x]) l B) n)).kids _).filter _ = _
        rw [ft_kids (by rw [htl]; exact hwy), h2]
        exact filter_map_inj fun z hz e => hpl.wh_inj hR hn (by have := (hF.ok.kid hz).2; rwa [hF.m] at this) hx.2 e
      have hQ : ∀ y, y < t.length → ∀ c ∈ ((mvd (FT t) p (A ++ [x]) l B).off [x]).kids y, c < t.length := fun y _ c hc => by
        have := (hF5.ok.kid hc).2
        rwa [hF5.m] at this
      have hN : ∀ y, y < t.length → (fun i => kn (bs0 (tree t (mvd (FT t) p (A ++ [x]) l B) n) i)) (wh t p (A ++ [x]) B l n y) = (fun i => kn (bs0 t i)) y := fun y hy => by
        obtain ⟨v, hv, hv2⟩ := hF.at hR (hpl.oc hR hn hy)
        simp only
        rw [kn_bs0 hRT hv2, kn_bs0 hR hv]
      have h0 := hpl.wh0 hR hn
      have eT : tree (tree t (mvd (FT t) p (A ++ [x]) l B) n) ((FT (tree t (mvd (FT t) p (A ++ [x]) l B) n)).off [wh t p (A ++ [x]) B l n x]) n = tree t ((mvd (FT t) p (A ++ [x]) l B).off [x]) n := by
        have := nodes_map (N := fun i => kn (bs0 t i)) (N' := fun i => kn (bs0 (tree t (mvd (FT t) p (A ++ [x]) l B) n) i)) (Q := fun y => y < t.length) hK hN hQ n 0 hR.pos
        rw [h0] at this
        exact this
      have eI : idsF ((FT (tree t (mvd (FT t) p (A ++ [x]) l B) n)).off [wh t p (A ++ [x]) B l n x]).kids n 0 = (idsF ((mvd (FT t) p (A ++ [x]) l B).off [x]).kids n 0).map (wh t p (A ++ [x]) B l n) := by
        have := ids_map (Q := fun y => y < t.length) hK hQ n 0 hR.pos
        rw [h0] at this
        exact this
      have hr := removeOf_eq (hF.fits hR hf) hRT (x := wh t p (A ++ [x]) B l n x) (by rw [htl]; exact hwx) hb ((ft_ht hRT hn 0).sub fun _ _ => off_mem) (by rw [eI, List.length_map]; omega)
      rw [eT] at hr
      have hr' : m_impl_RemoveOf_f (tree t (mvd (FT t) p (A ++ [x]) l B) n, intsN [wh t p (A ++ [x]) B l n x]) = some (tree t ((mvd (FT t) p (A ++ [x]) l B).off [x]) n, V.spots (tree t (mvd (FT t) p (A ++ [x]) l B) n) ((FT (tree t (mvd (FT t) p (A ++ [x]) l B) n)).off [wh t p (A ++ [x]) B l n x]) n, true) := by
        show (m_impl_RemoveOf (tree t (mvd (FT t) p (A ++ [x]) l B) n, intsN [wh t p (A ++ [x]) B l n x], [])).map _ = _
        rw [hr]; rfl
      have hr'' : m_impl_RemoveOf_f (tree t (mvd (FT t) p (A ++ [x]) l B) n, [((wh t p (A ++ [x]) B l n x : Nat) : Int)]) = _ := hr'
      have hs5 : (V.spots t ((mvd (FT t) p (A ++ [x]) l B).off [x]) n).length = t.length := by simp [V.spots]
      have hth : m_laws_then7 (V.spots t (mvd (FT t) p (A ++ [x]) l B) n, V.spots (tree t (mvd (FT t) p (A ++ [x]) l B) n) ((FT (tree t (mvd (FT t) p (A ++ [x]) l B) n)).off [wh t p (A ++ [x]) B l n x]) n) = some (V.spots t ((mvd (FT t) p (A ++ [x]) l B).off [x]) n) := by
        refine then_eq (by rw [Pl.spots_len]; omega) (by rw [hs5, Pl.spots_len]) fun i v hv => ?_
        have hil : i < t.length := by have := (List.getElem?_eq_some_iff.1 hv).1; rwa [Pl.spots_len] at this
        rw [hpl.spots_get hR hn hil] at hv
        cases hv
        have hwi := hpl.wh_lt hR hn hil
        have hsl : (V.spots (tree t (mvd (FT t) p (A ++ [x]) l B) n) ((FT (tree t (mvd (FT t) p (A ++ [x]) l B) n)).off [wh t p (A ++ [x]) B l n x]) n).length = t.length := by simp [V.spots, htl]
        refine ⟨by omega, by rw [hsl]; omega, ?_⟩
        rw [Int.toNat_natCast]
        unfold V.spots
        rw [List.getElem?_map, List.getElem?_map, List.getElem?_range (by rw [htl]; exact hwi), List.getElem?_range hil, eI]
        simp only [Option.map_some]
        rw [posL_map fun z hz e => hpl.wh_inj hR hn (hF5.lt hR hz) hil e]
      have hsame : m_spec_SameTree (tree t ((mvd (FT t) p (A ++ [x]) l B).off [x]) n, tree t ((mvd (FT t) p (A ++ [x]) l B).off [x]) n) = some true :=
        sameTree_refl _ (by have := hRT5.len; omega) fun i v hi => attrs_le hRT5 (List.mem_of_getElem? hi)
      have hg := hpl.spots_get hR hn hx.2
      simp only [Bool.not_true, cond_false, hi'', hj'', bind_some, told_eq hRT (t := t) Pl.spots_len, told_eq hRT5 (t := t) hs5, atI_nat, hg, hr'', cond_true, hsame, hth, sameList_refl' _ (show (V.spots t ((mvd (FT t) p (A ++ [x]) l B).off [x]) n).length ≤ 2147483647 by rw [hs5]; omega)]
end Go.Proofs.Ytfmlpodcldhgdaa.V
