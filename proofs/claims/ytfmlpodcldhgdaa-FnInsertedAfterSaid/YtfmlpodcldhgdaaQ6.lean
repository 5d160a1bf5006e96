/-
  Plain facts and an evaluator for what a law needs.
-/
import Derived.Test.YtfmlpodcldhgdaaQ5
set_option linter.unusedVariables false
set_option linter.unusedSimpArgs false
namespace Go.Proofs.Ytfmlpodcldhgdaa.V
open Go
def upn (F : Fo) : Nat → Nat → Option Nat
  | 0, z => some z
  | k + 1, z => (upn F k z).bind F.up
section
variable {F : Fo} {r : Nat → Nat}
theorem upn_add : ∀ (b a z : Nat), upn F (a + b) z = (upn F a z).bind (upn F b)
  | 0, a, z => by cases h : upn F a z <;> simp [upn, h]
  | b + 1, a, z => by
    show (upn F (a + b) z).bind F.up = _
    rw [upn_add b a z]
    cases h : upn F a z <;> simp [upn]
theorem upn_rank (hF : F.ok) (hr : ∀ x y, y ∈ F.kids x → r y < r x) : ∀ (k z x : Nat), upn F k z = some x → r z + k ≤ r x
  | 0, z, x, h => by cases h; omega
  | k + 1, z, x, h => by
    simp only [upn] at h
    cases hy : upn F k z with
    | none => rw [hy] at h; cases h
    | some y =>
      rw [hy] at h
      have h1 := upn_rank hF hr k z y hy
      have h2 := hr x y (hF.up h).2
      omega
theorem ids_up (hF : F.ok) : ∀ (n x z : Nat), z ∈ idsF F.kids n x → ∃ k, upn F k z = some x
  | 0, x, z, h => by simp [idsF] at h
  | n + 1, x, z, h => by
    simp only [idsF, List.mem_cons, List.mem_flatMap] at h
    rcases h with rfl | ⟨y, hy, hz⟩
    · exact ⟨0, rfl⟩
    · obtain ⟨k, hk⟩ := ids_up hF n y z hz
      exact ⟨k + 1, by simp only [upn, hk, Option.bind_some]; exact (hF.kid hy).1⟩
theorem ids_apart (hF : F.ok) (hr : ∀ x y, y ∈ F.kids x → r y < r x) {x a b z k l : Nat} (ha : F.up a = some x) (hb : F.up b = some x) (h1 : upn F k z = some a) (h2 : upn F l z = some b) (hkl : k ≤ l) : a = b := by
  by_cases e : k = l
  · subst e; rw [h1] at h2; exact Option.some.inj h2
  · have h3 := upn_add (F := F) (l - k) k z
    rw [show k + (l - k) = l by omega, h2, h1, Option.bind_some] at h3
    have h4 := upn_add (F := F) (l - k - 1) 1 a
    rw [show 1 + (l - k - 1) = l - k by omega, ← h3] at h4
    have h5 : upn F 1 a = some x := by simp [upn, ha]
    rw [h5, Option.bind_some] at h4
    have h6 := upn_rank hF hr _ _ _ h4.symm
    have h7 := hr x b (hF.up hb).2
    omega
theorem ids_nodup (hF : F.ok) (hr : ∀ x y, y ∈ F.kids x → r y < r x) : ∀ (n x : Nat), (idsF F.kids n x).Nodup
  | 0, x => by simp [idsF]
  | n + 1, x => by
    simp only [idsF]
    refine List.nodup_cons.2 ⟨fun h => ?_, ?_⟩
    · obtain ⟨y, hy, hz⟩ := List.mem_flatMap.1 h
      obtain ⟨k, hk⟩ := ids_up hF n y x hz
      have h1 := upn_rank hF hr k x y hk
      have h2 := hr x y hy
      omega
    · unfold List.Nodup
      rw [List.pairwise_flatMap]
      refine ⟨fun y _ => ids_nodup hF hr n y, (hF.nd x).imp_of_mem fun {a b} ha hb hab z hz w hw e => ?_⟩
      subst e
      obtain ⟨k, hk⟩ := ids_up hF n a z hz
      obtain ⟨l, hl⟩ := ids_up hF n b z hw
      have ua := (hF.kid ha).1
      have ub := (hF.kid hb).1
      by_cases e : k ≤ l
      · exact hab (ids_apart hF hr ua ub hk hl e)
      · exact hab (ids_apart hF hr ub ua hl hk (by omega)).symm
theorem ids_lt (hF : F.ok) : ∀ (n x : Nat), x < F.m → ∀ z ∈ idsF F.kids n x, z < F.m
  | 0, x, _, z, h => by simp [idsF] at h
  | n + 1, x, hx, z, h => by
    simp only [idsF, List.mem_cons, List.mem_flatMap] at h
    rcases h with rfl | ⟨y, hy, hz⟩
    · exact hx
    · exact ids_lt hF n y (hF.kid hy).2 z hz
theorem ids_len (hF : F.ok) (hr : ∀ x y, y ∈ F.kids x → r y < r x) (n : Nat) {x : Nat} (hx : x < F.m) : (idsF F.kids n x).length ≤ F.m := by
  have h := (ids_nodup hF hr n x).length_le_of_subset (l₂ := List.range F.m) (fun z hz => List.mem_range.2 (ids_lt hF n x hx z hz))
  rwa [List.length_range] at h
end
end Go.Proofs.Ytfmlpodcldhgdaa.V
set_option linter.unusedVariables false
set_option linter.unusedSimpArgs false
namespace Go.Proofs.Ytfmlpodcldhgdaa.V
open Go
theorem flat_congr {α β : Type} {f g : α → List β} : ∀ {l : List α}, (∀ y ∈ l, f y = g y) → l.flatMap f = l.flatMap g
  | [], _ => rfl
  | a :: l, h => by rw [List.flatMap_cons, List.flatMap_cons, h a (by simp), flat_congr fun y hy => h y (by simp [hy])]
theorem ids_fuel {K : Nat → List Nat} : ∀ {n m x : Nat}, Ht K n x → Ht K m x → idsF K n x = idsF K m x
  | 0, _, _, h, _ => h.elim
  | _ + 1, 0, _, _, h => h.elim
  | n + 1, m + 1, x, h1, h2 => by
    simp only [idsF]
    rw [flat_congr fun y hy => ids_fuel (h1 y hy) (h2 y hy)]
theorem nodes_fuel {K : Nat → List Nat} {N : Nat → Node} : ∀ {n m x : Nat}, Ht K n x → Ht K m x → nodesF K N n x = nodesF K N m x
  | 0, _, _, h, _ => h.elim
  | _ + 1, 0, _, _, h => h.elim
  | n + 1, m + 1, x, h1, h2 => by
    simp only [nodesF]
    rw [flat_congr fun y hy => nodes_fuel (h1 y hy) (h2 y hy)]
theorem flat_split {α β : Type} {f : α → List β} : ∀ {l : List α} {j : Nat}, j < (l.flatMap f).length → ∃ A c B k, l = A ++ c :: B ∧ k < (f c).length ∧ j = (A.flatMap f).length + k
  | [], j, h => by simp at h
  | a :: l, j, h => by
    rw [List.flatMap_cons, List.length_append] at h
    by_cases e : j < (f a).length
    · exact ⟨[], a, l, j, rfl, e, by simp⟩
    · obtain ⟨A, c, B, k, e1, e2, e3⟩ := flat_split (f := f) (l := l) (j := j - (f a).length) (by omega)
      exact ⟨a :: A, c, B, k, by rw [e1]; rfl, e2, by rw [List.flatMap_cons, List.length_append]; omega⟩
section
variable {K : Nat → List Nat} {N : Nat → Node} {n : Nat} {r x y z a b c i : Nat} {A B : List Nat}
theorem flat_len (l : List Nat) : (l.flatMap (nodesF K N n)).length = (l.flatMap (idsF K n)).length := by
  rw [List.length_flatMap, List.length_flatMap]
  congr 1
  exact List.map_congr_left fun y _ => nodesF_len n y
theorem ids_fix (h : ∀ x, Ht K n x) (x : Nat) : idsF K n x = x :: (K x).flatMap (idsF K n) := by
  rw [ids_fuel (h x) (m := n + 1) (fun y _ => h y)]
  rfl
theorem nodes_fix (h : ∀ x, Ht K n x) (x : Nat) : nodesF K N n x = ⟨(N x).kind, (N x).tag, (N x).text, (N x).attrs, ((nodesF K N n x).length : Nat)⟩ :: (K x).flatMap (nodesF K N n) := by
  have h1 : nodesF K N n x = nodesF K N (n + 1) x := nodes_fuel (h x) (m := n + 1) (fun y _ => h y)
  have h2 : (nodesF K N (n + 1) x).length = 1 + ((K x).flatMap (nodesF K N n)).length := by simp only [nodesF, List.length_cons]; omega
  rw [h1, h2]
  simp only [nodesF]
  rfl
def Oc (K : Nat → List Nat) (N : Nat → Node) (n r a z : Nat) : Prop := ∃ p q u v, idsF K n r = p ++ idsF K n z ++ q ∧ p.length = a ∧ nodesF K N n r = u ++ nodesF K N n z ++ v ∧ u.length = a
theorem Oc.refl : Oc K N n r 0 r := ⟨[], [], [], [], by simp, rfl, by simp, rfl⟩
theorem Oc.trans (h1 : Oc K N n x a y) (h2 : Oc K N n y b z) : Oc K N n x (a + b) z := by
  obtain ⟨p, q, u, v, e1, e2, e3, e4⟩ := h1
  obtain ⟨p', q', u', v', f1, f2, f3, f4⟩ := h2
  exact ⟨p ++ p', q' ++ q, u ++ u', v' ++ v, by rw [e1, f1]; simp, by simp [e2, f2], by rw [e3, f3]; simp, by simp [e4, f4]⟩
theorem Oc.kid (h : ∀ x, Ht K n x) (hk : K z = A ++ c :: B) : Oc K N n z (1 + (A.flatMap (idsF K n)).length) c := by
  refine ⟨z :: A.flatMap (idsF K n), B.flatMap (idsF K n), ⟨(N z).kind, (N z).tag, (N z).text, (N z).attrs, ((nodesF K N n z).length : Nat)⟩ :: A.flatMap (nodesF K N n), B.flatMap (nodesF K N n), ?_, ?_, ?_, ?_⟩
  · rw [ids_fix h z, hk]; simp
  · simp only [List.length_cons]; omega
  · conv => lhs; rw [nodes_fix h z, hk]
    simp
  · simp only [List.length_cons, flat_len]; omega
theorem oc_all (h : ∀ x, Ht K n x) : ∀ (m x : Nat), Ht K m x → ∀ i, i < (idsF K n x).length → ∃ z, Oc K N n x i z
  | 0, _, hx, _, _ => hx.elim
  | m + 1, x, hx, i, hi => by
    rw [ids_fix h x, List.length_cons] at hi
    cases i with
    | zero => exact ⟨x, .refl⟩
    | succ i =>
      obtain ⟨A, c, B, k, e1, e2, e3⟩ := flat_split (f := idsF K n) (l := K x) (j := i) (by omega)
      obtain ⟨z, hz⟩ := oc_all h m c (hx c (by rw [e1]; simp)) k e2
      refine ⟨z, ?_⟩
      have := (Oc.kid (N := N) h e1).trans hz
      rw [show i + 1 = 1 + (A.flatMap (idsF K n)).length + k by omega]
      exact this
theorem Oc.id (h : ∀ x, Ht K n x) (ho : Oc K N n r a z) : (idsF K n r)[a]? = some z := by
  obtain ⟨p, q, u, v, e1, e2, e3, e4⟩ := ho
  rw [e1, ids_fix h z]
  subst e2
  simp
theorem Oc.nd (h : ∀ x, Ht K n x) (ho : Oc K N n r a z) : (nodesF K N n r)[a]? = some ⟨(N z).kind, (N z).tag, (N z).text, (N z).attrs, ((nodesF K N n z).length : Nat)⟩ := by
  obtain ⟨p, q, u, v, e1, e2, e3, e4⟩ := ho
  rw [e3]
  conv => lhs; rw [nodes_fix h z]
  subst e4
  simp
theorem Oc.sz (h : ∀ x, Ht K n x) (ho : Oc K N n r a z) : V.sz (nodesF K N n r) a = (nodesF K N n z).length := by
  rw [sz_some (ho.nd h)]
  simp
theorem Oc.le (ho : Oc K N n r a z) : a + (nodesF K N n z).length ≤ (nodesF K N n r).length := by
  obtain ⟨p, q, u, v, e1, e2, e3, e4⟩ := ho
  rw [e3, ← e4]
  simp only [List.length_append]
  omega
theorem nodes_pos (h : ∀ x, Ht K n x) (z : Nat) : 1 ≤ (nodesF K N n z).length := by
  rw [nodes_fix h z]
  simp only [List.length_cons]
  omega
theorem oc_at (h : ∀ x, Ht K n x) {i : Nat} (hi : i < (nodesF K N n x).length) : ∃ z, Oc K N n x i z := oc_all h n x (h x) i (by rwa [nodesF_len] at hi)
theorem fl_lam (h : ∀ x, Ht K n x) (r : Nat) : Lam (nodesF K N n r) 0 (nodesF K N n r).length := by
  refine ⟨fun i _ hi => ?_, fun i j _ hi hj hj' => ?_⟩
  · obtain ⟨z, hz⟩ := oc_at h hi
    refine ⟨_, hz.nd h, by rw [hz.sz h], ?_, ?_⟩
    · rw [hz.sz h]; exact nodes_pos h z
    · rw [hz.sz h]; exact hz.le
  · obtain ⟨z, hz⟩ := oc_at h hi
    rw [hz.sz h] at hj' ⊢
    obtain ⟨w, hw⟩ := oc_at (N := N) h (x := z) (i := j - i) (by omega)
    have h2 := hz.trans hw
    rw [show i + (j - i) = j by omega] at h2
    rw [h2.sz h]
    have := hw.le
    omega
theorem Oc.sub (h : ∀ x, Ht K n x) (ho : Oc K N n r a z) : ((nodesF K N n r).drop a).take (V.sz (nodesF K N n r) a) = nodesF K N n z := by
  rw [ho.sz h]
  obtain ⟨p, q, u, v, e1, e2, e3, e4⟩ := ho
  rw [e3, ← e4]
  simp
theorem Oc.kids (h : ∀ x, Ht K n x) (ho : Oc K N n r a z) : ∀ (B A : List Nat) (f : Nat), K z = A ++ B → B.length ≤ f → ∃ l, kidsF (nodesF K N n r) f (a + 1 + (A.flatMap (idsF K n)).length) (a + (nodesF K N n z).length) = l ∧ F2 (fun b c => Oc K N n r b c) l B
  | [], A, f, hk, _ => by
    have hlen : (nodesF K N n z).length = 1 + (A.flatMap (idsF K n)).length := by
      rw [nodes_fix h z, hk, List.append_nil, List.length_cons, flat_len]; omega
    cases f with
    | zero => exact ⟨[], rfl, .nil⟩
    | succ f =>
      simp only [kidsF]
      rw [if_neg (by omega)]
      exact ⟨[], rfl, .nil⟩
  | c :: B, A, 0, hk, hf => by simp at hf
  | c :: B, A, f + 1, hk, hf => by
    have hoc := ho.trans (Oc.kid (N := N) h hk)
    rw [show a + (1 + (A.flatMap (idsF K n)).length) = a + 1 + (A.flatMap (idsF K n)).length by omega] at hoc
    have hlen : (nodesF K N n z).length = 1 + (A.flatMap (idsF K n)).length + (idsF K n c).length + (B.flatMap (idsF K n)).length := by
      rw [nodes_fix h z, hk, List.length_cons, flat_len]
      simp only [List.flatMap_append, List.flatMap_cons, List.length_append]
      omega
    have hc : 1 ≤ (idsF K n c).length := by rw [ids_fix h c, List.length_cons]; omega
    obtain ⟨l, h1, h2⟩ := Oc.kids h ho B (A ++ [c]) f (by rw [hk]; simp) (by simp only [List.length_cons] at hf; omega)
    simp only [kidsF]
    rw [if_pos (by omega), hoc.sz h, nodesF_len n c]
    have e : a + 1 + ((A ++ [c]).flatMap (idsF K n)).length = a + 1 + (A.flatMap (idsF K n)).length + (idsF K n c).length := by
      simp only [List.flatMap_append, List.flatMap_cons, List.flatMap_nil, List.append_nil, List.length_append]
      omega
    rw [e] at h1
    rw [h1]
    exact ⟨_, rfl, .cons hoc h2⟩
theorem kids_len (h : ∀ x, Ht K n x) (z : Nat) : (K z).length < (nodesF K N n z).length := by
  rw [nodes_fix h z, List.length_cons, flat_len]
  have : ∀ l : List Nat, l.length ≤ (l.flatMap (idsF K n)).length := fun l => by
    induction l with
    | nil => simp
    | cons a l ih =>
      have hc : 1 ≤ (idsF K n a).length := by rw [ids_fix h a, List.length_cons]; omega
      rw [List.flatMap_cons, List.length_append, List.length_cons]
      omega
  have := this (K z)
  omega
theorem fl_kids (h : ∀ x, Ht K n x) (ho : Oc K N n r a z) : F2 (fun b c => Oc K N n r b c) (kidsN (nodesF K N n r) a) (K z) := by
  have h1 := kids_len (N := N) h z
  obtain ⟨l, e1, e2⟩ := Oc.kids h ho (K z) [] (V.sz (nodesF K N n r) a) rfl (by rw [ho.sz h]; omega)
  unfold kidsN
  rw [ho.sz h] at e1 ⊢
  simp only [List.flatMap_nil, List.length_nil, Nat.add_zero] at e1
  rw [e1]
  exact e2
theorem oc_of (h : ∀ x, Ht K n x) (hz : (idsF K n r)[a]? = some z) : Oc K N n r a z := by
  have hl := (List.getElem?_eq_some_iff.1 hz).1
  obtain ⟨w, hw⟩ := oc_all (N := N) h n r (h r) a hl
  have := hw.id h
  rw [hz] at this
  cases this
  exact hw
theorem idxOf_at {l : List Nat} (hn : l.Nodup) (h : l[a]? = some z) : l.idxOf z = a := by
  obtain ⟨h1, h2⟩ := List.getElem?_eq_some_iff.1 h
  subst h2
  exact hn.idxOf_getElem a h1
theorem oc_in (h : ∀ x, Ht K n x) (hz : z ∈ idsF K n r) : Oc K N n r ((idsF K n r).idxOf z) z :=
  oc_of h (by rw [List.getElem?_eq_getElem (List.idxOf_lt_length_of_mem hz), List.getElem_idxOf])
theorem Oc.mem (h : ∀ x, Ht K n x) (ho : Oc K N n r a z) : z ∈ idsF K n r := List.mem_of_getElem? (ho.id h)
theorem fl_kids_map (h : ∀ x, Ht K n x) (hn : (idsF K n r).Nodup) (ho : Oc K N n r a z) : kidsN (nodesF K N n r) a = (K z).map fun c => (idsF K n r).idxOf c := by
  have h1 := fl_kids h ho
  have key : ∀ {l m : List Nat}, F2 (fun b c => Oc K N n r b c) l m → l = m.map fun c => (idsF K n r).idxOf c := fun {l m} h2 => by
    induction h2 with
    | nil => rfl
    | cons h3 _ ih => rw [List.map_cons, ← ih, idxOf_at hn (h3.id h)]
  exact key h1
theorem fl_par (h : ∀ x, Ht K n x) (hn : (idsF K n r).Nodup) (ho : Oc K N n r a z) (hc : c ∈ K z) : par (nodesF K N n r) ((idsF K n r).idxOf c) = some a := by
  have hL := (fl_lam (N := N) h r).sub (i := a) (Nat.zero_le _) (by have := ho.le; have := nodes_pos (N := N) h z; omega)
  refine kids_par hL ?_
  rw [fl_kids_map h hn ho]
  exact List.mem_map.2 ⟨c, hc, rfl⟩
theorem kid_in (h : ∀ x, Ht K n x) (hz : z ∈ idsF K n r) (hc : c ∈ K z) : c ∈ idsF K n r := by
  have h1 := oc_in (N := fun _ => ⟨0, [], [], [], 0⟩) h hz
  obtain ⟨A, B, e⟩ := List.append_of_mem hc
  exact (h1.trans (Oc.kid h e)).mem h
end
end Go.Proofs.Ytfmlpodcldhgdaa.V
set_option linter.unusedVariables false
set_option linter.unusedSimpArgs false
namespace Go.Proofs.Ytfmlpodcldhgdaa.V
open Go
structure Flt (t : List Node) (G : Fo) (n : Nat) : Prop where
  ok : G.ok
  m : G.m = t.length
  ht : ∀ x, Ht G.kids n x
  nd : (idsF G.kids n 0).Nodup
  leaf : ∀ z c, c ∈ G.kids z → ∃ v, t[z]? = some v ∧ (v.kind = 3 ∨ v.kind = 1)
section
variable {t : List Node} {G : Fo} {n i z : Nat}
theorem Flt.lt (h : Flt t G n) (hR : RT t) {z : Nat} (hz : z ∈ idsF G.kids n 0) : z < t.length := by
  have := ids_lt h.ok n 0 (by rw [h.m]; exact hR.pos) z hz
  rwa [h.m] at this
theorem Flt.tl (h : Flt t G n) : (tree t G n).length = (idsF G.kids n 0).length := nodesF_len n 0
theorem Flt.le (h : Flt t G n) (hR : RT t) : (tree t G n).length ≤ t.length := by
  rw [h.tl]
  have h1 := h.nd.length_le_of_subset (l₂ := List.range t.length) (fun z hz => List.mem_range.2 (h.lt hR hz))
  rwa [List.length_range] at h1
theorem Flt.at (h : Flt t G n) (hR : RT t) (hz : Oc G.kids (fun i => kn (bs0 t i)) n 0 i z) : ∃ v, t[z]? = some v ∧ (tree t G n)[i]? = some ⟨v.kind, v.tag, v.text, v.attrs, (sz (tree t G n) i : Nat)⟩ := by
  obtain ⟨v, hv⟩ := get_lt (h.lt hR (hz.mem h.ht))
  refine ⟨v, hv, ?_⟩
  have h1 := hz.nd h.ht
  rw [kn_bs0 hR hv] at h1
  have h2 := hz.sz h.ht
  unfold tree
  rw [h1, h2]
theorem Flt.rt (h : Flt t G n) (hR : RT t) : RT (tree t G n) := by
  have h0 : Oc G.kids (fun i => kn (bs0 t i)) n 0 0 0 := .refl
  refine ⟨?_, ?_, ?_, ?_, ?_, ?_, ?_⟩
  · exact nodes_pos h.ht 0
  · have := h.le hR; have := hR.len; omega
  · exact h0.sz h.ht
  · exact fl_lam h.ht 0
  · obtain ⟨v, hv, hv2⟩ := h.at hR h0
    obtain ⟨w, hw, hw2⟩ := hR.k0
    rw [hv] at hw
    cases hw
    exact ⟨_, hv2, hw2⟩
  · intro i u hu
    obtain ⟨z, hz⟩ := oc_at h.ht (List.getElem?_eq_some_iff.1 hu).1
    obtain ⟨v, hv, hv2⟩ := h.at hR hz
    have hu' : (tree t G n)[i]? = some u := hu
    rw [hv2] at hu'
    cases hu'
    have hN := hR.node z v hv
    refine ⟨hN.kd, fun hk => ?_, fun h3 h1 => ?_, hN.k3, hN.k4, hN.k5, hN.k6, hN.k7⟩
    · have hz0 := hN.k1 hk
      subst hz0
      rw [← idxOf_at h.nd (hz.id h.ht), idxOf_at h.nd (h0.id h.ht)]
    · have hs := hz.sz h.ht
      have hs' : sz (tree t G n) i = _ := hs
      rw [hs', nodes_fix h.ht z]
      have : G.kids z = [] := by
        cases hK : G.kids z with
        | nil => rfl
        | cons c l =>
          obtain ⟨w, hw, hw2⟩ := h.leaf z c (by rw [hK]; simp)
          rw [hv] at hw
          cases hw
          rcases hw2 with hw2 | hw2
          · exact absurd hw2 h3
          · exact absurd hw2 h1
      rw [this]
      rfl
  · intro i u hu
    obtain ⟨z, hz⟩ := oc_at h.ht (List.getElem?_eq_some_iff.1 hu).1
    obtain ⟨v, hv, hv2⟩ := h.at hR hz
    have hu' : (tree t G n)[i]? = some u := hu
    rw [hv2] at hu'
    cases hu'
    exact hR.txt z v hv
theorem reach {F : Fo} {r : Nat → Nat} {M : Nat} (hF : F.ok) (hh : ∀ x, Ht F.kids n x) (hr : ∀ x y, y ∈ F.kids x → r y < r x) (hM : ∀ x, r x ≤ M) (hup : ∀ z, z < F.m → z ≠ 0 → ∃ p, F.up z = some p) : ∀ (d z : Nat), M - r z = d → z < F.m → z ∈ idsF F.kids n 0 := by
  intro d
  induction d using Nat.strongRecOn with
  | ind d ih =>
    intro z hd hz
    by_cases e : z = 0
    · subst e
      rw [ids_fix hh 0]
      exact List.mem_cons_self
    · obtain ⟨p, hp⟩ := hup z hz e
      obtain ⟨h1, h2⟩ := hF.up hp
      have h3 := hr p z h2
      have h4 := hM p
      exact kid_in hh (ih (M - r p) (by omega) p rfl h1) h2
end
end Go.Proofs.Ytfmlpodcldhgdaa.V
set_option linter.unusedVariables false
set_option linter.unusedSimpArgs false
namespace Go.Proofs.Ytfmlpodcldhgdaa.V
open Go
section
variable {t : List Node} {p c d x y z : Nat} {cs A B : List Nat} {n : Nat}
open Classical in
noncomputable def stays (t : List Node) (cs : List Nat) (z : Nat) : Bool := decide (¬ ∃ d ∈ cs, Hld t d z)
theorem stays_false : stays t cs z = false ↔ ∃ d ∈ cs, Hld t d z := by simp [stays]
theorem ft_mem (h : y ∈ (FT t).kids x) : x < t.length ∧ y ∈ kidsN t x := by
  simp only [FT] at h
  by_cases e : x < t.length
  · rw [if_pos e] at h; exact ⟨e, h⟩
  · rw [if_neg e] at h; cases h
theorem kid_facts (hR : RT t) (h : y ∈ (FT t).kids x) : x < y ∧ y < x + sz t x ∧ y < t.length ∧ x < t.length ∧ par t y = some x := by
  obtain ⟨h1, h2⟩ := ft_mem h
  have h3 := kids_par (hR.L h1) h2
  have h4 := par_some h3
  have h5 := hR.le h1
  exact ⟨h4.1, h4.2.1, by omega, h1, h3⟩
theorem hld_down (hR : RT t) (hdl : d < t.length) (hpar : par t y = some x) (h : Hld t d x) : Hld t d y := by
  obtain ⟨h1, h2, h3⟩ := par_some hpar
  obtain ⟨k1, k2⟩ := h
  refine ⟨by omega, ?_⟩
  by_cases e : d = x
  · subst e; exact h2
  · have := hR.lam.nest d x (Nat.zero_le _) hdl (by omega) k2
    omega
theorem hld_self (hR : RT t) (h : d < t.length) : Hld t d d := ⟨Nat.le_refl _, by have := hR.sz1 h; omega⟩
theorem filt_mem {X : List Nat} : y ∈ X.filter (fun j => decide (j ∉ cs)) ↔ y ∈ X ∧ y ∉ cs := by
  rw [List.mem_filter]
  simp
theorem filt_all {X : List Nat} (h : ∀ y ∈ X, y ∉ cs) : X.filter (fun j => decide (j ∉ cs)) = X := by
  rw [List.filter_eq_self]
  intro y hy
  simpa using h y hy
theorem mvd_kids_ne (h : x ≠ p) : (mvd (FT t) p A cs B).kids x = ((FT t).kids x).filter fun j => decide (j ∉ cs) := by
  simp only [mvd, Fo.hang, Fo.off, if_neg h]
theorem mvd_kids_p : (mvd (FT t) p A cs B).kids p = (A.filter fun j => decide (j ∉ cs)) ++ cs ++ (B.filter fun j => decide (j ∉ cs)) := by
  simp only [mvd, Fo.hang, if_true]
theorem mvd_in (hR : RT t) (h : Mv t p cs) (hx : ∃ d ∈ cs, Hld t d x) : (mvd (FT t) p A cs B).kids x = (FT t).kids x := by
  obtain ⟨d, hd, hh⟩ := hx
  have hne : x ≠ p := fun e => h.p d hd (e ▸ hh)
  rw [mvd_kids_ne hne]
  refine filt_all fun y hy hyc => ?_
  obtain ⟨h1, h2, h3, h4, h5⟩ := kid_facts hR hy
  have := h.a d hd y hyc (hld_down hR (h.d.bd d hd) h5 hh)
  have := hh.1
  omega
theorem mvd_ids_in (hR : RT t) (h : Mv t p cs) : ∀ (m x : Nat), (∃ d ∈ cs, Hld t d x) → idsF (mvd (FT t) p A cs B).kids m x = idsF (FT t).kids m x
  | 0, _, _ => rfl
  | m + 1, x, hx => by
    simp only [idsF, mvd_in hR h hx]
    rw [flat_congr fun y hy => mvd_ids_in hR h m y ?_]
    obtain ⟨d, hd, hh⟩ := hx
    exact ⟨d, hd, hld_down hR (h.d.bd d hd) (kid_facts hR hy).2.2.2.2 hh⟩
theorem mvd_nodes_in (hR : RT t) (h : Mv t p cs) {N : Nat → Node} : ∀ (m x : Nat), (∃ d ∈ cs, Hld t d x) → nodesF (mvd (FT t) p A cs B).kids N m x = nodesF (FT t).kids N m x
  | 0, _, _ => rfl
  | m + 1, x, hx => by
    simp only [nodesF, mvd_in hR h hx]
    rw [flat_congr fun y hy => mvd_nodes_in hR h m y ?_]
    obtain ⟨d, hd, hh⟩ := hx
    exact ⟨d, hd, hld_down hR (h.d.bd d hd) (kid_facts hR hy).2.2.2.2 hh⟩
theorem filter_flat {α β : Type} {q : β → Bool} {f : α → List β} : ∀ {l : List α}, (l.flatMap f).filter q = l.flatMap fun a => (f a).filter q
  | [] => rfl
  | a :: l => by rw [List.flatMap_cons, List.filter_append, filter_flat, List.flatMap_cons]
theorem flat_nil {α β : Type} {f : α → List β} : ∀ {l : List α}, (∀ a ∈ l, f a = []) → l.flatMap f = []
  | [], _ => rfl
  | a :: l, h => by rw [List.flatMap_cons, h a (by simp), flat_nil fun b hb => h b (by simp [hb])]; rfl
theorem flat_filt {α β : Type} {q : α → Bool} {f : α → List β} : ∀ {l : List α}, (∀ a ∈ l, q a = false → f a = []) → (l.filter q).flatMap f = l.flatMap f
  | [], _ => rfl
  | a :: l, h => by
    have ih := flat_filt (q := q) (f := f) (l := l) fun b hb => h b (by simp [hb])
    rw [List.flatMap_cons]
    cases hq : q a with
    | true => rw [List.filter_cons_of_pos hq, List.flatMap_cons, ih]
    | false => rw [List.filter_cons_of_neg (by simp [hq]), ih, h a (by simp) hq]; rfl
theorem ids_moved (hR : RT t) (h : Mv t p cs) : ∀ (m x : Nat), (∃ d ∈ cs, Hld t d x) → (idsF (FT t).kids m x).filter (stays t cs) = []
  | 0, _, _ => rfl
  | m + 1, x, hx => by
    simp only [idsF]
    rw [List.filter_cons_of_neg (by rw [stays_false.2 hx]; simp), filter_flat]
    refine flat_nil fun y hy => ids_moved hR h m y ?_
    obtain ⟨d, hd, hh⟩ := hx
    exact ⟨d, hd, hld_down hR (h.d.bd d hd) (kid_facts hR hy).2.2.2.2 hh⟩
theorem ids_stay (hR : RT t) (hp : p < t.length) (hk : kidsN t p = A ++ B) (h : Mv t p cs) : ∀ (m x : Nat), (idsF (mvd (FT t) p A cs B).kids m x).filter (stays t cs) = (idsF (FT t).kids m x).filter (stays t cs)
  | 0, _ => rfl
  | m + 1, x => by
    have e1 : ∀ X : List Nat, (X.filter fun j => decide (j ∉ cs)).flatMap (fun a => (idsF (mvd (FT t) p A cs B).kids m a).filter (stays t cs)) = X.flatMap fun a => (idsF (FT t).kids m a).filter (stays t cs) := fun X => by
      rw [flat_filt (fun a ha hq => ?_)]
      · exact flat_congr fun a ha => ids_stay hR hp hk h m a
      · have hac : a ∈ cs := by simpa using hq
        have hm : ∃ d ∈ cs, Hld t d a := ⟨a, hac, hld_self hR (h.d.bd a hac)⟩
        rw [mvd_ids_in hR h m a hm, ids_moved hR h m a hm]
    have e2 : ((mvd (FT t) p A cs B).kids x).flatMap (fun a => (idsF (mvd (FT t) p A cs B).kids m a).filter (stays t cs)) = ((FT t).kids x).flatMap fun a => (idsF (FT t).kids m a).filter (stays t cs) := by
      by_cases e : x = p
      · subst e
        rw [mvd_kids_p, List.flatMap_append, List.flatMap_append, e1, e1, ft_kids hp, hk, List.flatMap_append]
        rw [flat_nil (l := cs) fun a hac => ?_, List.append_nil]
        have hm : ∃ d ∈ cs, Hld t d a := ⟨a, hac, hld_self hR (h.d.bd a hac)⟩
        rw [mvd_ids_in hR h m a hm, ids_moved hR h m a hm]
      · rw [mvd_kids_ne e, e1]
    simp only [idsF]
    rw [List.filter_cons, List.filter_cons, filter_flat, filter_flat, e2]
theorem par_ex (hR : RT t) (hz : z < t.length) (h0 : z ≠ 0) : ∃ q, par t z = some q := by
  cases h : par t z with
  | some q => exact ⟨q, rfl⟩
  | none =>
    have := parF_none h 0 (by omega)
    have := hR.root
    omega
structure Pl (t : List Node) (p : Nat) (A B cs : List Nat) : Prop where
  hp : p < t.length
  hk : kidsN t p = A ++ B
  mv : Mv t p cs
  kd : ∃ v, t[p]? = some v ∧ (v.kind = 3 ∨ v.kind = 1)
  z : ∀ d ∈ cs, d ≠ 0
theorem kid_kind (hR : RT t) (h : y ∈ (FT t).kids x) : ∃ v, t[x]? = some v ∧ (v.kind = 3 ∨ v.kind = 1) := by
  obtain ⟨h1, h2, h3, h4, h5⟩ := kid_facts hR h
  obtain ⟨v, hv⟩ := get_lt h4
  refine ⟨v, hv, ?_⟩
  have := (hR.node x v hv).k2
  by_cases e3 : v.kind = 3
  · exact .inl e3
  by_cases e1 : v.kind = 1
  · exact .inr e1
  have := this e3 e1
  omega
theorem rankM_le (hR : RT t) (x : Nat) : rankM t cs x ≤ 400 := by
  have := hR.len
  unfold rankM
  split <;> omega
theorem Pl.ne (hR : RT t) (h : Pl t p A B cs) : ∀ d ∈ cs, p ≠ d := fun d hd e => by
  subst e
  exact h.mv.p _ hd (hld_self hR h.hp)
theorem Pl.ok (hR : RT t) (h : Pl t p A B cs) : (mvd (FT t) p A cs B).ok :=
  mvd_ok (FT_ok hR) h.hp (by rw [ft_kids h.hp]; exact h.hk) (fun d hd => ⟨h.mv.d.bd d hd, h.ne hR d hd⟩) h.mv.d.nd
theorem Pl.fl (hR : RT t) (h : Pl t p A B cs) (hn : 1000000 ≤ n) : Flt t (mvd (FT t) p A cs B) n := by
  refine ⟨h.ok hR, rfl, fun x => ht_mvd hR h.hp h.hk h.mv hn x, ids_nodup (h.ok hR) (rank_lt hR h.hp h.hk h.mv) n 0, fun x y hy => ?_⟩
  by_cases e : x = p
  · subst e; exact h.kd
  · rw [mvd_kids_ne e, filt_mem] at hy
    exact kid_kind hR hy.1
theorem Pl.all (hR : RT t) (h : Pl t p A B cs) (hn : 1000000 ≤ n) {z : Nat} (hz : z < t.length) : z ∈ idsF (mvd (FT t) p A cs B).kids n 0 := by
  refine reach (r := rankM t cs) (M := 400) (h.ok hR) (fun x => ht_mvd hR h.hp h.hk h.mv hn x) (rank_lt hR h.hp h.hk h.mv) (rankM_le hR) (fun z hz h0 => ?_) _ z rfl hz
  have hz' : z < t.length := hz
  simp only [mvd, Fo.hang, Fo.off]
  by_cases e : z ∈ cs
  · rw [if_pos e]; exact ⟨p, rfl⟩
  · rw [if_neg e, if_neg e]
    simp only [FT, if_pos hz']
    exact par_ex hR hz' h0
theorem Pl.len (hR : RT t) (h : Pl t p A B cs) (hn : 1000000 ≤ n) : (idsF (mvd (FT t) p A cs B).kids n 0).length = t.length := by
  have h1 := ids_len (h.ok hR) (rank_lt hR h.hp h.hk h.mv) n (x := 0) hR.pos
  have h2 : (List.range t.length).length ≤ (idsF (mvd (FT t) p A cs B).kids n 0).length := List.Nodup.length_le_of_subset List.nodup_range fun z hz => h.all hR hn (List.mem_range.1 hz)
  rw [List.length_range] at h2
  have h3 : (mvd (FT t) p A cs B).m = t.length := rfl
  omega
def wh (t : List Node) (p : Nat) (A B cs : List Nat) (n z : Nat) : Nat := (idsF (mvd (FT t) p A cs B).kids n 0).idxOf z
theorem Pl.wh_lt (hR : RT t) (h : Pl t p A B cs) (hn : 1000000 ≤ n) (hz : z < t.length) : wh t p A B cs n z < t.length := by
  have := List.idxOf_lt_length_of_mem (h.all hR hn hz)
  rw [h.len hR hn] at this
  exact this
theorem Pl.oc (hR : RT t) (h : Pl t p A B cs) (hn : 1000000 ≤ n) (hz : z < t.length) {N : Nat → Node} : Oc (mvd (FT t) p A cs B).kids N n 0 (wh t p A B cs n z) z := oc_in (fun x => ht_mvd hR h.hp h.hk h.mv hn x) (h.all hR hn hz)
theorem Pl.posL (hR : RT t) (h : Pl t p A B cs) (hn : 1000000 ≤ n) (hz : z < t.length) : V.posL (idsF (mvd (FT t) p A cs B).kids n 0) z = (wh t p A B cs n z : Int) := if_pos (h.all hR hn hz)
theorem Pl.spots (hR : RT t) (h : Pl t p A B cs) (hn : 1000000 ≤ n) : V.spots t (mvd (FT t) p A cs B) n = (List.range t.length).map fun z => (wh t p A B cs n z : Int) :=
  List.map_congr_left fun z hz => h.posL hR hn (List.mem_range.1 hz)
theorem Pl.stay (hR : RT t) (h : Pl t p A B cs) (hn : 1000000 ≤ n) (hy : x < y) (hyl : y < t.length) (sx : stays t cs x = true) (sy : stays t cs y = true) : wh t p A B cs n x < wh t p A B cs n y := by
  have hlen := hR.len
  have h1 := ids_stay hR h.hp h.hk h.mv n 0
  rw [ids_tree hR n 0 hR.pos (by rw [hR.root]; omega)] at h1
  have h2 : ((List.range' 0 (sz t 0)).filter (stays t cs)).Pairwise (· < ·) := List.Pairwise.filter _ List.pairwise_lt_range'
  rw [← h1, List.pairwise_filter] at h2
  have a1 := h.wh_lt hR hn (z := x) (by omega)
  have a2 := h.wh_lt hR hn hyl
  have hl := h.len hR hn
  have g1 : (idsF (mvd (FT t) p A cs B).kids n 0)[wh t p A B cs n x]'(by omega) = x := List.getElem_idxOf _
  have g2 : (idsF (mvd (FT t) p A cs B).kids n 0)[wh t p A B cs n y]'(by omega) = y := List.getElem_idxOf _
  rcases Nat.lt_trichotomy (wh t p A B cs n x) (wh t p A B cs n y) with e | e | e
  · exact e
  · have : x = y := by rw [← g1, ← g2]; congr 1
    omega
  · have := List.pairwise_iff_getElem.1 h2 _ _ (by omega) (by omega) e
    rw [g1, g2] at this
    have := this sy sx
    omega
theorem Pl.sub (hR : RT t) (h : Pl t p A B cs) (hn : 1000000 ≤ n) (hd : d ∈ cs) : ((tree t (mvd (FT t) p A cs B) n).drop (wh t p A B cs n d)).take (sz (tree t (mvd (FT t) p A cs B) n) (wh t p A B cs n d)) = (t.drop d).take (sz t d) := by
  have hdl := h.mv.d.bd d hd
  have hlen := hR.len
  have hle := hR.le hdl
  have h1 := (h.oc hR hn hdl (N := fun i => kn (bs0 t i))).sub (h.fl hR hn).ht
  unfold tree
  rw [h1, mvd_nodes_in hR h.mv n d ⟨d, hd, hld_self hR hdl⟩, nodes_tree hR n d hdl (by omega)]
end
end Go.Proofs.Ytfmlpodcldhgdaa.V
set_option linter.unusedVariables false
set_option linter.unusedSimpArgs false
namespace Go.Proofs.Ytfmlpodcldhgdaa.V
open Go
section
variable {t : List Node} {p x : Nat} {A B cs : List Nat}
end
end Go.Proofs.Ytfmlpodcldhgdaa.V
set_option linter.unusedVariables false
set_option linter.unusedSimpArgs false
namespace Go.Proofs.Ytfmlpodcldhgdaa.V
open Go
theorem chosen_in (a : Int) (b : Bool) {on : List Int} (r ks : List (Option Nat)) {i : Nat} (hi : i < on.length) (hlen : on.length ≤ 2147483647) : ∀ d j : Nat, i - j = d → j ≤ i →
    ∃ y, loopO m_spec_forest_chosen_0_0 (((), a, b), on, r, (i : Int), (j : Int), ks) = some y ∧ (y = .inr (((), a, b), [], false, ks) ∨ (y = .inl (((), a, b), on, r, (i : Int), ks) ∧ ∀ k : Nat, j ≤ k → k < i → on[k]? ≠ on[i]?)) := by
  intro d
  induction d with
  | zero =>
    intro j hd hj
    refine ⟨_, loopO_out (b := .inl (((), a, b), on, r, (i : Int), ks)) ?_, .inr ⟨rfl, fun k h1 h2 => by omega⟩⟩
    simp only [m_spec_forest_chosen_0_0, cond_dec]
    rw [if_neg (by omega)]
  | succ d ih =>
    intro j hd hj
    obtain ⟨v, hv⟩ := get_lt (l := on) (k := j) (by omega)
    obtain ⟨w, hw⟩ := get_lt (l := on) (k := i) hi
    by_cases e : v = w
    · refine ⟨_, loopO_out (b := .inr (((), a, b), [], false, ks)) ?_, .inl rfl⟩
      simp only [m_spec_forest_chosen_0_0, cond_dec, atI_nat, hv, hw, bind_some]
      rw [if_pos (by omega), if_pos e]
    · have step : m_spec_forest_chosen_0_0 (((), a, b), on, r, (i : Int), (j : Int), ks) = some (.nx (((), a, b), on, r, (i : Int), ((j + 1 : Nat) : Int), ks)) := by
        simp only [m_spec_forest_chosen_0_0, cond_dec, atI_nat, hv, hw, bind_some]
        rw [if_pos (by omega), if_neg e, w64 (by omega) (by omega)]
        rfl
      obtain ⟨y, h1, h2⟩ := ih (j + 1) (by omega) (by omega)
      refine ⟨y, by rw [loopO_nx step]; exact h1, h2.imp id fun ⟨g1, g2⟩ => ⟨g1, fun k k1 k2 => ?_⟩⟩
      by_cases e2 : k = j
      · subst e2
        rw [hv, hw]
        exact fun h => e (Option.some.inj h)
      · exact g2 k (by omega) k2
theorem chosen_ex (a : Int) (b : Bool) {on : List Int} {n : Nat} (hlen : on.length ≤ 2147483647) : ∀ d i : Nat, on.length - i = d → i ≤ on.length → (∀ (k : Nat) (v : Int), k < i → on[k]? = some v → 1 ≤ v ∧ v < n) → (∀ k l : Nat, k < l → l < i → on[k]? ≠ on[l]?) →
    ∃ y, loopO m_spec_forest_chosen_0 (((), a, b), on, (on.take i).map (fun v => some v.toNat), (i : Int), (List.range n).map some) = some y ∧ (y = .inr (((), a, b), [], false, (List.range n).map some) ∨ (y = .inl (((), a, b), on.map (fun v => some v.toNat), (List.range n).map some) ∧ (∀ (k : Nat) (v : Int), on[k]? = some v → 1 ≤ v ∧ v < n) ∧ ∀ k l : Nat, k < l → l < on.length → on[k]? ≠ on[l]?)) := by
  intro d
  induction d with
  | zero =>
    intro i hd hi h1 h2
    obtain rfl : i = on.length := by omega
    refine ⟨_, loopO_out (b := .inl (((), a, b), on.map (fun v => some v.toNat), (List.range n).map some)) ?_, .inr ⟨rfl, fun k v hk => h1 k v (List.getElem?_eq_some_iff.1 hk).1 hk, h2⟩⟩
    simp only [m_spec_forest_chosen_0, cond_dec]
    rw [if_neg (by omega), List.take_of_length_le (Nat.le_refl _)]
  | succ d ih =>
    intro i hd hi h1 h2
    obtain ⟨v, hv⟩ := get_lt (l := on) (k := i) (by omega)
    by_cases e1 : v < 1
    · refine ⟨_, loopO_out (b := .inr (((), a, b), [], false, (List.range n).map some)) ?_, .inl rfl⟩
      simp only [m_spec_forest_chosen_0, cond_dec, atI_nat, hv, bind_some]
      rw [if_pos (by omega), if_pos e1]
    by_cases e2 : (n : Int) ≤ v
    · refine ⟨_, loopO_out (b := .inr (((), a, b), [], false, (List.range n).map some)) ?_, .inl rfl⟩
      simp only [m_spec_forest_chosen_0, cond_dec, atI_nat, hv, bind_some, List.length_map, List.length_range]
      rw [if_pos (by omega), if_neg e1, if_pos e2]
    obtain ⟨x, rfl⟩ := Int.eq_ofNat_of_zero_le (show 0 ≤ v by omega)
    obtain ⟨y, g1, g2⟩ := chosen_in a b ((on.take i).map fun v => some v.toNat) ((List.range n).map some) (i := i) (by omega) hlen i 0 (by omega) (Nat.zero_le _)
    have g1' : loopO m_spec_forest_chosen_0_0 (((), a, b), on, (on.take i).map (fun v => some v.toNat), (i : Int), (0 : Int), (List.range n).map some) = some y := g1
    rcases g2 with rfl | ⟨rfl, g3⟩
    · refine ⟨_, loopO_out (b := .inr (((), a, b), [], false, (List.range n).map some)) ?_, .inl rfl⟩
      simp only [m_spec_forest_chosen_0, cond_dec, atI_nat, hv, bind_some, List.length_map, List.length_range]
      rw [if_pos (by omega), if_neg e1, if_neg e2, g1']
      rfl
    · have hr : ((List.range n).map some)[x]? = some (some x) := by
        have : x < n := by omega
        simp [this]
      have step : m_spec_forest_chosen_0 (((), a, b), on, (on.take i).map (fun v => some v.toNat), (i : Int), (List.range n).map some) = some (.nx (((), a, b), on, (on.take (i + 1)).map (fun v => some v.toNat), ((i + 1 : Nat) : Int), (List.range n).map some)) := by
        simp only [m_spec_forest_chosen_0, cond_dec, atI_nat, hv, bind_some, List.length_map, List.length_range]
        rw [if_pos (by omega), if_neg e1, if_neg e2, g1']
        simp only [bind_some, selim, atI_nat, hv, hr, Int.toNat_natCast]
        rw [appL_some (by simp; omega), bind_some, w64 (by omega) (by omega), List.take_add_one, hv]
        simp
      rw [loopO_nx step]
      refine ih (i + 1) (by omega) (by omega) (fun k w hk hw => ?_) (fun k l hkl hl => ?_)
      · by_cases e : k = i
        · subst e
          rw [hv] at hw
          cases hw
          omega
        · exact h1 k w (by omega) hw
      · by_cases e : l = i
        · subst e; exact g3 k (Nat.zero_le _) hkl
        · exact h2 k l hkl (by omega)
end Go.Proofs.Ytfmlpodcldhgdaa.V
set_option linter.unusedVariables false
set_option linter.unusedSimpArgs false
namespace Go.Proofs.Ytfmlpodcldhgdaa.V
open Go
theorem cuts_eq {F : Fo} {P : Nat → Int × Node} (a : Int) (b : Bool) (ks : List (Option Nat)) {l : List Nat} (hF : F.ok) (hl : ∀ i, (F.kids i).length ≤ 1000000) (hm : ∀ c ∈ l, c < F.m) (hlen : l.length ≤ 1000000) :
    ∀ d j : Nat, l.length - j = d → j ≤ l.length → loopO m_spec_forest_insert_1 (((), a, b), l.map some, (j : Int), (F.off (l.take j)).kst P, ks) = some (((), a, b), (F.off l).kst P, ks) := by
  intro d
  induction d with
  | zero =>
    intro j hd hj
    refine loopO_out ?_
    simp only [m_spec_forest_insert_1, cond_dec]
    rw [if_neg (by simp; omega), List.take_of_length_le (by omega)]
  | succ d ih =>
    intro j hd hj
    obtain ⟨c, hc⟩ := get_lt (l := l) (k := j) (by omega)
    have hg : (l.map some)[j]? = some (some c) := by rw [List.getElem?_map, hc]; rfl
    have hcut := cut_off (P := P) (off_ok (l := l.take j) hF) (hm c (List.mem_of_getElem? hc)) (fun i => Nat.le_trans (off_len i) (hl i))
    have e1 : l.take j ++ [c] = l.take (j + 1) := by rw [List.take_add_one, hc]; rfl
    rw [off_off, e1] at hcut
    have step : m_spec_forest_insert_1 (((), a, b), l.map some, (j : Int), (F.off (l.take j)).kst P, ks) = some (.nx (((), a, b), l.map some, ((j + 1 : Nat) : Int), (F.off (l.take (j + 1))).kst P, ks)) := by
      simp only [m_spec_forest_insert_1, cond_dec, atI_nat, hg, bind_some, hcut]
      rw [if_pos (by simp; omega), w64 (by omega) (by omega)]
      rfl
    rw [loopO_nx step]
    exact ih (j + 1) (by omega) (by omega)
end Go.Proofs.Ytfmlpodcldhgdaa.V
set_option linter.unusedVariables false
set_option linter.unusedSimpArgs false
namespace Go.Proofs.Ytfmlpodcldhgdaa.V
open Go
theorem chosen_nat (a : Int) (bb : Bool) {on : List Int} {n : Nat} (hlen : on.length ≤ 2147483647) : ∃ r b, m_spec_forest_chosen (((), a, bb), on, (List.range n).map some) = some (r, b, ((), a, bb), (List.range n).map some) ∧ (b = true → ∃ l : List Nat, on = intsN l ∧ r = l.map some ∧ (∀ c ∈ l, 1 ≤ c ∧ c < n) ∧ l.Nodup) := by
  obtain ⟨y, h1, h2⟩ := chosen_ex a bb (on := on) (n := n) hlen on.length 0 rfl (Nat.zero_le _) (fun k v h => absurd h (by omega)) (fun k l _ h => absurd h (by omega))
  have h1' : loopO m_spec_forest_chosen_0 (((), a, bb), on, [], (0 : Int), (List.range n).map some) = some y := h1
  simp only [m_spec_forest_chosen, h1', bind_some]
  rcases h2 with rfl | ⟨rfl, g1, g2⟩
  · exact ⟨_, _, rfl, fun h => by cases h⟩
  · refine ⟨_, _, rfl, fun _ => ⟨on.map Int.toNat, ?_, ?_, ?_, ?_⟩⟩
    · unfold intsN
      rw [List.map_map]
      refine ((List.map_congr_left fun v hv => ?_).trans (List.map_id on)).symm
      obtain ⟨k, hk⟩ := List.mem_iff_getElem?.1 hv
      have := g1 k v hk
      simp only [Function.comp_apply, id_eq]
      show ((v.toNat : Nat) : Int) = v
      omega
    · rw [List.map_map]; rfl
    · intro c hc
      obtain ⟨v, hv, rfl⟩ := List.mem_map.1 hc
      obtain ⟨k, hk⟩ := List.mem_iff_getElem?.1 hv
      have := g1 k v hk
      omega
    · unfold List.Nodup
      rw [List.pairwise_map, List.pairwise_iff_getElem]
      intro i j hi hj hij e
      have := g2 i j hij hj
      rw [List.getElem?_eq_getElem hi, List.getElem?_eq_getElem hj] at this
      have b1 := g1 i _ (List.getElem?_eq_getElem hi)
      have b2 := g1 j _ (List.getElem?_eq_getElem hj)
      exact this (by congr 1; omega)
section
variable {F G : Fo} {P : Nat → Int × Node} {p c x : Nat} {A B l : List Nat}
theorem cutl_eq (a : Int) (b : Bool) (op : Int) (ks on : List (Option Nat)) {i : Nat} (hi : on.length = i + 1) (hi2 : i ≤ 1000000) (hF : F.ok) (hl : ∀ i, (F.kids i).length ≤ 1000000) (hm : ∀ c ∈ l, c < F.m) (hlen : l.length ≤ 1000000) :
    ∀ d j : Nat, l.length - j = d → j ≤ l.length → loopO m_spec_forest_insert_0_0 (((), a, b), op, on, l.map some, (i : Int), (l.take j).map some, (j : Int), (F.off (l.take j)).kst P, ks) = some (((), a, b), op, on, l.map some, (i : Int), l.map some, (F.off l).kst P, ks) := by
  intro d
  induction d with
  | zero =>
    intro j hd hj
    refine loopO_out ?_
    simp only [m_spec_forest_insert_0_0, cond_dec]
    rw [if_neg (by simp; omega), List.take_of_length_le (by omega)]
  | succ d ih =>
    intro j hd hj
    obtain ⟨c, hc⟩ := get_lt (l := l) (k := j) (by omega)
    have hcut := cut_off (P := P) (off_ok (l := l.take j) hF) (hm c (List.mem_of_getElem? hc)) (fun i => Nat.le_trans (off_len i) (hl i))
    have e1 : l.take j ++ [c] = l.take (j + 1) := by rw [List.take_add_one, hc]; rfl
    rw [off_off, e1] at hcut
    have step : m_spec_forest_insert_0_0 (((), a, b), op, on, l.map some, (i : Int), (l.take j).map some, (j : Int), (F.off (l.take j)).kst P, ks) = some (.nx (((), a, b), op, on, l.map some, (i : Int), (l.take (j + 1)).map some, ((j + 1 : Nat) : Int), (F.off (l.take (j + 1))).kst P, ks)) := by
      simp only [m_spec_forest_insert_0_0, cond_dec, atI_nat, map_some_get hc, bind_some, hcut]
      rw [if_pos (by simp; omega), w64 (n := (on.length : Int) - 1) (by omega) (by omega), if_neg (by omega), appL_some (by simp; omega), bind_some, w64 (by omega) (by omega), ← e1]
      simp
    rw [loopO_nx step]
    exact ih (j + 1) (by omega) (by omega)
theorem ins_loop (a : Int) (b : Bool) (ks : List (Option Nat)) (hF : F.ok) (hp : p < F.m) (hk : F.kids p = A ++ B) (h1 : ∀ c ∈ l, c < F.m ∧ F.up c = none ∧ p ≠ c) (hn : l.Nodup) (hlen : A.length + l.length + B.length ≤ 1000000) :
    ∀ d j : Nat, l.length - j = d → j ≤ l.length → loopO m_spec_forest_inserted_0 (((), a, b), l.map some, some p, (A.length : Int), (j : Int), (F.hang p A (l.take j) B).kst P, ks) = some (((), a, b), (F.hang p A l B).kst P, ks) := by
  intro d
  induction d with
  | zero =>
    intro j hd hj
    refine loopO_out ?_
    simp only [m_spec_forest_inserted_0, cond_dec]
    rw [if_neg (by simp; omega), List.take_of_length_le (by omega)]
  | succ d ih =>
    intro j hd hj
    obtain ⟨c, hc⟩ := get_lt (l := l) (k := j) (by omega)
    have hcm := h1 c (List.mem_of_getElem? hc)
    have e1 : l.take j ++ [c] = l.take (j + 1) := by rw [List.take_add_one, hc]; rfl
    have hn1 : (l.take (j + 1)).Nodup := (List.take_sublist _ _).nodup hn
    have hcl : c ∉ l.take j := fun h => by
      rw [← e1, List.nodup_append] at hn1
      exact hn1.2.2 c h c (by simp) rfl
    have hok : (F.hang p A (l.take j) B).ok := hang_ok hF hp hk _ (fun d hd => h1 d (List.mem_of_mem_take hd)) ((List.take_sublist _ _).nodup hn)
    have hsp := hang_sp hok hp hcm.1 hcm.2.1 hcm.2.2 hcl
    have hu : (F.hang p A (l.take j) B).up c = none := by
      simp only [Fo.hang, if_neg hcl]; exact hcm.2.1
    have hkl : ((F.hang p A (l.take j ++ [c]) B).kids p).length ≤ 1000000 := by
      simp only [Fo.hang, if_true, List.length_append, List.length_take, List.length_cons, List.length_nil]; omega
    have hput := put_eq (P := P) (cut_none (F := F.hang p A (l.take j) B) hcm.1 hu) hsp hkl
    rw [e1] at hput
    have e2 : ((A ++ l.take j).length : Int) = (A.length : Int) + (j : Int) := by simp; omega
    rw [e2] at hput
    have step : m_spec_forest_inserted_0 (((), a, b), l.map some, some p, (A.length : Int), (j : Int), (F.hang p A (l.take j) B).kst P, ks) = some (.nx (((), a, b), l.map some, some p, (A.length : Int), ((j + 1 : Nat) : Int), (F.hang p A (l.take (j + 1)) B).kst P, ks)) := by
      simp only [m_spec_forest_inserted_0, cond_dec, atI_nat, map_some_get hc, bind_some]
      rw [if_pos (by simp; omega), w64 (n := (A.length : Int) + (j : Int)) (by omega) (by omega), hput, bind_some, w64 (by omega) (by omega)]
      rfl
    rw [loopO_nx step]
    exact ih (j + 1) (by omega) (by omega)
theorem inserted_pre (a : Int) (b : Bool) (ks : List (Option Nat)) (hF : F.ok) (hp : p < F.m) (hk : F.kids p = B) (h1 : ∀ c ∈ l, c < F.m ∧ F.up c = none ∧ p ≠ c) (hn : l.Nodup) (hlen : l.length + B.length ≤ 1000000) :
    m_spec_forest_inserted (((), a, b), 2, some p, l.map some, ks, F.kst P) = some (((), a, b), ks, (F.hang p [] l B).kst P) := by
  have h := ins_loop (P := P) (A := []) a b ks hF hp (by rw [hk]; rfl) h1 hn (by simpa using hlen) l.length 0 rfl (Nat.zero_le _)
  rw [List.take_zero, hang_nil (by rw [hk]; rfl)] at h
  have h' : loopO m_spec_forest_inserted_0 (((), a, b), l.map some, some p, (0 : Int), (0 : Int), F.kst P, ks) = _ := h
  simp only [m_spec_forest_inserted, cond_dec]
  rw [if_neg (by decide), if_neg (by decide), if_neg (by decide), if_neg (by decide), h', bind_some]
theorem inserted_aft {op : Int} (hop : op = 3 ∨ op = 5) (a : Int) (b : Bool) (ks : List (Option Nat)) (hF : F.ok) (hp : p < F.m) (hx : x < F.m) (hu : F.up x = some p) (hk : F.kids p = (A ++ [x]) ++ B) (h1 : ∀ c ∈ l, c < F.m ∧ F.up c = none ∧ p ≠ c) (hn : l.Nodup) (hlen : A.length + 1 + l.length + B.length ≤ 1000000) :
    m_spec_forest_inserted (((), a, b), op, some x, l.map some, ks, F.kst P) = some (((), a, b), ks, (F.hang p (A ++ [x]) l B).kst P) := by
  have h := ins_loop (P := P) (A := A ++ [x]) a b ks hF hp hk h1 hn (by simpa using hlen) l.length 0 rfl (Nat.zero_le _)
  rw [List.take_zero, hang_nil hk] at h
  have hsp : Sp F (F.setK p (A ++ B) x none) p x A B := ⟨hF, hp, hx, hu, by rw [hk]; simp, rfl⟩
  have hpl := place_eq (P := P) hsp (by rw [hk]; simp; omega)
  have e : IntKind.wrap .i64 ((A.length : Int) + 1) = ((A ++ [x]).length : Int) := by rw [w64 (by omega) (by omega)]; simp
  have hg := Fo.kget (F := F) (P := P) hx
  have hup : (F.kn1 P x).up = some p := hu
  have h' : loopO m_spec_forest_inserted_0 (((), a, b), l.map some, some p, ((A ++ [x]).length : Int), (0 : Int), F.kst P, ks) = _ := h
  simp only [m_spec_forest_inserted, cond_dec, bind_some, hg, hpl, hup, e, h']
  rcases hop with rfl | rfl
  · rw [if_neg (by decide), if_pos rfl]
  · rw [if_neg (by decide), if_neg (by decide), if_pos rfl]
end
section
variable {t : List Node} {o : Nat} {ws : List Nat} {a : Int} {ks : List (Option Nat)}
theorem nd0_kind {c : Nat} (hc : c < t.length) {k : Int} (h : (P0 t c).2.kind = k) : ∃ v, t[c]? = some v ∧ v.kind = k := by
  obtain ⟨v, hv⟩ := get_lt hc
  refine ⟨v, hv, ?_⟩
  have : (P0 t c).2 = v := by simp [P0, nd0, hv]
  rw [← this]; exact h
theorem mv_of (hR : RT t) {p x : Nat} (hw : ∀ c ∈ ws, 1 ≤ c ∧ c < t.length) (hn : ws.Nodup) (h1 : ∀ i k a c : Nat, ws[i]? = some a → ws[k]? = some c → k ≠ i → ¬ Hld t a c) (h2 : ∀ d ∈ ws, ¬ Hld t d p) : Mv t p ws := by
  refine ⟨⟨fun v hv => (hw v hv).2, hn⟩, h2, fun d hd e he hde => ?_⟩
  obtain ⟨i, hi⟩ := List.mem_iff_getElem?.1 hd
  obtain ⟨k, hk⟩ := List.mem_iff_getElem?.1 he
  by_cases e2 : k = i
  · subst e2
    rw [hi] at hk
    exact Option.some.inj hk
  · exact absurd hde (h1 i k d e hi hk e2)
theorem ws_len (hR : RT t) (hw : ∀ c ∈ ws, 1 ≤ c ∧ c < t.length) (hn : ws.Nodup) : ws.length ≤ 200 := Ds.len ⟨fun v hv => (hw v hv).2, hn⟩ hR.len
theorem ft_klen (hR : RT t) (i : Nat) : ((FT t).kids i).length ≤ 200 := by
  by_cases e : i < t.length
  · rw [ft_kids e]
    have h1 : (kidsN t i).length ≤ sz t i := kidsF_len
    have := hR.le e
    have := hR.len
    omega
  · simp only [FT, if_neg e]; simp
theorem off_up_none {F : Fo} {c : Nat} (h : c ∈ ws) : (F.off ws).up c = none := if_pos h
theorem off_up_ne {F : Fo} {c : Nat} (h : c ∉ ws) : (F.off ws).up c = F.up c := if_neg h
theorem filt_len {X : List Nat} : (X.filter fun j => decide (j ∉ ws)).length ≤ X.length := List.length_filter_le _ _
theorem insert1_pre (hR : RT t) (ho : 1 ≤ o ∧ o < t.length) (hw : ∀ c ∈ ws, 1 ≤ c ∧ c < t.length) (hn : ws.Nodup) :
    ∃ b S, m_spec_forest_insert (((), a, false), 2, [some o], ws.map some, ks, (FT t).kst (P0 t)) = some (b, ((), a, false), ks, S) ∧ (b = true → Pl t o [] (kidsN t o) ws ∧ S = (mvd (FT t) o [] ws (kidsN t o)).kst (P0 t)) := by
  have hlen := hR.len
  have hwl := ws_len hR hw hn
  obtain ⟨b1, h1, h1'⟩ := apart_ex (P := P0 t) (ws := ws) (on := [o]) hR (fun c hc => (hw c hc).2) (by simpa using ho.2) (by omega) (by simp)
  obtain ⟨b2, h2, h2'⟩ := are_ex (F := FT t) (P := P0 t) (on := [o]) (fun c hc => by rw [List.mem_singleton.1 hc]; exact ho.2) (by simp)
  have h1q : m_spec_apart (ws.map some, [some o], (FT t).kst (P0 t)) = some b1 := h1
  have h2q : m_spec_are ([some o], (FT t).kst (P0 t)) = some b2 := h2
  simp only [m_spec_forest_insert, cond_dec, h1q, h2q, bind_some]
  rw [if_neg (by decide), if_neg (by decide)]
  cases b1 with
  | false => exact ⟨_, _, rfl, fun h => by cases h⟩
  | true =>
    obtain ⟨k1, k2⟩ := h1' rfl
    simp only [Bool.not_true, cond_false]
    rw [if_neg (by decide)]
    simp only [show (!decide ((2 : Int) = 5)) = true from rfl, cond_true]
    cases b2 with
    | false => exact ⟨_, _, rfl, fun h => by cases h⟩
    | true =>
      obtain ⟨v, hv, hv3⟩ := nd0_kind ho.2 (h2' rfl o (by simp))
      simp only [Bool.not_true, cond_false]
      by_cases e0 : ((ws.map some).length : Int) = 0
      · rw [if_pos e0]
        exact ⟨_, _, rfl, fun h => by cases h⟩
      rw [if_neg e0, if_neg (by decide)]
      have hpl : Pl t o [] (kidsN t o) ws := ⟨ho.2, rfl, mv_of (p := o) (x := o) hR hw hn k1 (fun d hd => k2 d hd o (by simp)), ⟨v, hv, .inl hv3⟩, fun d hd => by have := hw d hd; omega⟩
      have hcut := cutl_eq (F := FT t) (P := P0 t) (l := ws) a false 2 ks [some o] (i := 0) rfl (by omega) (FT_ok hR) (fun i => by have := ft_klen hR i; omega) (fun c hc => (hw c hc).2) (by omega) ws.length 0 rfl (Nat.zero_le _)
      rw [List.take_zero, off_nil] at hcut
      have hcut' : loopO m_spec_forest_insert_0_0 (((), a, false), (2 : Int), [some o], ws.map some, (0 : Int), [], (0 : Int), (FT t).kst (P0 t), ks) = _ := hcut
      have hk2 : ((FT t).off ws).kids o = (kidsN t o).filter fun j => decide (j ∉ ws) := by rw [← ft_kids ho.2]; rfl
      have hkl := ft_klen hR o
      rw [ft_kids ho.2] at hkl
      have hins := inserted_pre (F := (FT t).off ws) (P := P0 t) (l := ws) a false ks (off_ok (FT_ok hR)) (p := o) ho.2 hk2 (fun c hc => ⟨(hw c hc).2, off_up_none hc, hpl.ne hR c hc⟩) hn (by have := filt_len (ws := ws) (X := kidsN t o); omega)
      have st : m_spec_forest_insert_0 (((), a, false), (2 : Int), [some o], ws.map some, (0 : Int), (FT t).kst (P0 t), ks) = some (.nx (((), a, false), (2 : Int), [some o], ws.map some, (1 : Int), (mvd (FT t) o [] ws (kidsN t o)).kst (P0 t), ks)) := by
        simp only [m_spec_forest_insert_0, cond_dec, hcut', bind_some]
        rw [if_pos (by simp)]
        have ha : atI [some o] ((0 : Nat) : Int) = some (some o) := rfl
        simp only [ha, bind_some, hins]
        rfl
      have st2 : loopO m_spec_forest_insert_0 (((), a, false), (2 : Int), [some o], ws.map some, (1 : Int), (mvd (FT t) o [] ws (kidsN t o)).kst (P0 t), ks) = some (((), a, false), (2 : Int), [some o], (mvd (FT t) o [] ws (kidsN t o)).kst (P0 t), ks) := by
        refine loopO_out ?_
        simp only [m_spec_forest_insert_0, cond_dec]
        rw [if_neg (by simp)]
      rw [loopO_nx st, st2, bind_some]
      dsimp only
      rw [if_neg (by decide)]
      exact ⟨_, _, rfl, fun _ => ⟨hpl, rfl⟩⟩
end
end Go.Proofs.Ytfmlpodcldhgdaa.V
set_option linter.unusedVariables false
set_option linter.unusedSimpArgs false
namespace Go.Proofs.Ytfmlpodcldhgdaa.V
open Go
section
variable {t : List Node} {o : Nat} {ws : List Nat} {a : Int} {ks : List (Option Nat)}
structure Pa (t : List Node) (o p : Nat) (A B ws : List Nat) : Prop where
  pl : Pl t p (A ++ [o]) B ws
  no : o ∉ ws
  o1 : 1 ≤ o ∧ o < t.length
  u : (FT t).up o = some p
theorem filt_snoc {A : List Nat} (h : o ∉ ws) : (A ++ [o]).filter (fun j => decide (j ∉ ws)) = A.filter (fun j => decide (j ∉ ws)) ++ [o] := by
  rw [List.filter_append]
  congr 1
  simp [h]
theorem pa_of (hR : RT t) (ho : 1 ≤ o ∧ o < t.length) (hw : ∀ c ∈ ws, 1 ≤ c ∧ c < t.length) (hn : ws.Nodup) (k1 : ∀ i k a c : Nat, ws[i]? = some a → ws[k]? = some c → k ≠ i → ¬ Hld t a c) (k2 : ∀ a ∈ ws, ∀ c ∈ [o], ¬ Hld t a c) {p : Nat} (hp : (FT t).up o = some p) : ∃ A B, Pa t o p A B ws := by
  obtain ⟨h1, h2⟩ := (FT_ok hR).up hp
  obtain ⟨A, B, e⟩ := List.append_of_mem h2
  have hpl : p < t.length := h1
  have hk : kidsN t p = (A ++ [o]) ++ B := by rw [← ft_kids hpl, e]; simp
  obtain ⟨g1, g2, g3, g4, g5⟩ := kid_facts hR h2
  refine ⟨A, B, ⟨hpl, hk, mv_of (p := p) (x := o) hR hw hn k1 (fun d hd hh => k2 d hd o (by simp) (hld_down hR (hw d hd).2 g5 hh)), kid_kind hR h2, fun d hd => by have := hw d hd; omega⟩, fun h => k2 o h o (by simp) (hld_self hR ho.2), ho, hp⟩
theorem Pa.cut (hR : RT t) {p : Nat} {A B : List Nat} (h : Pa t o p A B ws) (hn : ws.Nodup) (hw : ∀ c ∈ ws, 1 ≤ c ∧ c < t.length) {op : Int} (hop : op = 3 ∨ op = 5) :
    loopO m_spec_forest_insert_0 (((), a, false), op, [some o], ws.map some, (0 : Int), (FT t).kst (P0 t), ks) = some (((), a, false), op, [some o], (mvd (FT t) p (A ++ [o]) ws B).kst (P0 t), ks) := by
  have hlen := hR.len
  have hwl := ws_len hR hw hn
  have hcut := cutl_eq (F := FT t) (P := P0 t) (l := ws) a false op ks [some o] (i := 0) rfl (by omega) (FT_ok hR) (fun i => by have := ft_klen hR i; omega) (fun c hc => (hw c hc).2) (by omega) ws.length 0 rfl (Nat.zero_le _)
  rw [List.take_zero, off_nil] at hcut
  have hcut' : loopO m_spec_forest_insert_0_0 (((), a, false), op, [some o], ws.map some, (0 : Int), [], (0 : Int), (FT t).kst (P0 t), ks) = _ := hcut
  have hkl := ft_klen hR p
  rw [ft_kids h.pl.hp, h.pl.hk] at hkl
  simp only [List.length_append, List.length_cons, List.length_nil] at hkl
  have hk2 : ((FT t).off ws).kids p = (A.filter (fun j => decide (j ∉ ws)) ++ [o]) ++ B.filter fun j => decide (j ∉ ws) := by
    show ((FT t).kids p).filter _ = _
    rw [ft_kids h.pl.hp, h.pl.hk, List.filter_append, filt_snoc h.no]
  have f1 := filt_len (ws := ws) (X := A)
  have f2 := filt_len (ws := ws) (X := B)
  have hins := inserted_aft (F := (FT t).off ws) (P := P0 t) (l := ws) hop a false ks (off_ok (FT_ok hR)) (p := p) (x := o) h.pl.hp h.o1.2 (by rw [off_up_ne h.no]; exact h.u) hk2 (fun c hc => ⟨(hw c hc).2, off_up_none hc, h.pl.ne hR c hc⟩) hn (by omega)
  rw [← filt_snoc h.no] at hins
  have st : m_spec_forest_insert_0 (((), a, false), op, [some o], ws.map some, (0 : Int), (FT t).kst (P0 t), ks) = some (.nx (((), a, false), op, [some o], ws.map some, (1 : Int), (mvd (FT t) p (A ++ [o]) ws B).kst (P0 t), ks)) := by
    simp only [m_spec_forest_insert_0, cond_dec, hcut', bind_some]
    rw [if_pos (by simp)]
    have ha : atI [some o] ((0 : Nat) : Int) = some (some o) := rfl
    simp only [ha, bind_some, hins]
    rfl
  have st2 : loopO m_spec_forest_insert_0 (((), a, false), op, [some o], ws.map some, (1 : Int), (mvd (FT t) p (A ++ [o]) ws B).kst (P0 t), ks) = some (((), a, false), op, [some o], (mvd (FT t) p (A ++ [o]) ws B).kst (P0 t), ks) := by
    refine loopO_out ?_
    simp only [m_spec_forest_insert_0, cond_dec]
    rw [if_neg (by simp)]
  rw [loopO_nx st, st2]
theorem insert1_aft (hR : RT t) (ho : 1 ≤ o ∧ o < t.length) (hw : ∀ c ∈ ws, 1 ≤ c ∧ c < t.length) (hn : ws.Nodup) :
    ∃ b S, m_spec_forest_insert (((), a, false), 3, [some o], ws.map some, ks, (FT t).kst (P0 t)) = some (b, ((), a, false), ks, S) ∧ (b = true → ∃ p A B, Pa t o p A B ws ∧ S = (mvd (FT t) p (A ++ [o]) ws B).kst (P0 t)) := by
  have hlen := hR.len
  have hwl := ws_len hR hw hn
  obtain ⟨b1, h1, h1'⟩ := apart_ex (P := P0 t) (ws := ws) (on := [o]) hR (fun c hc => (hw c hc).2) (by simpa using ho.2) (by omega) (by simp)
  obtain ⟨b2, h2, h2'⟩ := stand_ex (F := FT t) (P := P0 t) (on := [o]) (fun c hc => by rw [List.mem_singleton.1 hc]; exact ho.2) (by simp)
  have h1q : m_spec_apart (ws.map some, [some o], (FT t).kst (P0 t)) = some b1 := h1
  have h2q : m_spec_stand ([some o], (FT t).kst (P0 t)) = some b2 := h2
  simp only [m_spec_forest_insert, cond_dec, h1q, h2q, bind_some]
  rw [if_pos trivial]
  cases b1 with
  | false => exact ⟨_, _, rfl, fun h => by cases h⟩
  | true =>
    obtain ⟨k1, k2⟩ := h1' rfl
    cases b2 with
    | false => exact ⟨_, _, rfl, fun h => by cases h⟩
    | true =>
      obtain ⟨p, hp⟩ := h2' rfl o (by simp)
      obtain ⟨A, B, hpa⟩ := pa_of hR ho hw hn k1 k2 hp
      simp only [Bool.not_true, cond_false]
      by_cases e0 : ((ws.map some).length : Int) = 0
      · rw [if_pos e0]
        exact ⟨_, _, rfl, fun h => by cases h⟩
      rw [if_neg e0, if_neg (by decide), hpa.cut hR hn hw (.inl rfl), bind_some]
      dsimp only
      rw [if_neg (by decide)]
      exact ⟨_, _, rfl, fun _ => ⟨p, A, B, hpa, rfl⟩⟩
theorem insert1_rep (hR : RT t) (ho : 1 ≤ o ∧ o < t.length) (hw : ∀ c ∈ ws, 1 ≤ c ∧ c < t.length) (hn : ws.Nodup) :
    ∃ b S, m_spec_forest_insert (((), a, false), 5, [some o], ws.map some, ks, (FT t).kst (P0 t)) = some (b, ((), a, false), ks, S) ∧ (b = true → ∃ p A B, Pa t o p A B ws ∧ S = ((mvd (FT t) p (A ++ [o]) ws B).off [o]).kst (P0 t)) := by
  have hlen := hR.len
  have hwl := ws_len hR hw hn
  obtain ⟨b1, h1, h1'⟩ := apart_ex (P := P0 t) (ws := ws) (on := [o]) hR (fun c hc => (hw c hc).2) (by simpa using ho.2) (by omega) (by simp)
  obtain ⟨b2, h2, h2'⟩ := stand_ex (F := FT t) (P := P0 t) (on := [o]) (fun c hc => by rw [List.mem_singleton.1 hc]; exact ho.2) (by simp)
  obtain ⟨b3, h3, h3'⟩ := apart_ex (P := P0 t) (ws := [o]) (on := []) hR (fun c hc => by rw [List.mem_singleton.1 hc]; exact ho.2) (by simp) (by simp) (by simp)
  have h1q : m_spec_apart (ws.map some, [some o], (FT t).kst (P0 t)) = some b1 := h1
  have h2q : m_spec_stand ([some o], (FT t).kst (P0 t)) = some b2 := h2
  have h3q : m_spec_apart ([some o], [], (FT t).kst (P0 t)) = some b3 := h3
  simp only [m_spec_forest_insert, cond_dec, h1q, h2q, h3q, bind_some]
  rw [if_neg (by decide), if_neg (by decide)]
  cases b1 with
  | false => exact ⟨_, _, rfl, fun h => by cases h⟩
  | true =>
    obtain ⟨k1, k2⟩ := h1' rfl
    simp only [Bool.not_true, cond_false]
    rw [if_pos trivial]
    cases b2 with
    | false => exact ⟨_, _, rfl, fun h => by cases h⟩
    | true =>
      obtain ⟨p, hp⟩ := h2' rfl o (by simp)
      obtain ⟨A, B, hpa⟩ := pa_of hR ho hw hn k1 k2 hp
      simp only [Bool.not_true, cond_false]
      simp only [decide_true, Bool.not_true, cond_false]
      by_cases e0 : ((ws.map some).length : Int) = 0
      · rw [if_pos e0]
        exact ⟨_, _, rfl, fun h => by cases h⟩
      rw [if_neg e0, if_pos trivial]
      cases b3 with
      | false => exact ⟨_, _, rfl, fun h => by cases h⟩
      | true =>
        simp only [Bool.not_true, cond_false]
        rw [hpa.cut hR hn hw (.inr rfl), bind_some]
        dsimp only
        rw [if_pos rfl]
        have hmk : ∀ i, ((mvd (FT t) p (A ++ [o]) ws B).kids i).length ≤ 1000000 := fun i => by
          by_cases e : i = p
          · subst e
            have hkl := ft_klen hR i
            rw [ft_kids hpa.pl.hp, hpa.pl.hk] at hkl
            rw [mvd_kids_p]
            have f1 := filt_len (ws := ws) (X := A ++ [o])
            have f2 := filt_len (ws := ws) (X := B)
            simp only [List.length_append, List.length_cons, List.length_nil] at hkl f1 ⊢
            omega
          · rw [mvd_kids_ne e]
            have f1 := filt_len (ws := ws) (X := (FT t).kids i)
            have := ft_klen hR i
            omega
        have hc := cuts_eq (F := mvd (FT t) p (A ++ [o]) ws B) (P := P0 t) a false ks (l := [o]) (hpa.pl.ok hR) hmk (fun c hc => by rw [List.mem_singleton.1 hc]; exact ho.2) (by simp) 1 0 rfl (Nat.zero_le _)
        rw [List.take_zero, off_nil] at hc
        have hc' : loopO m_spec_forest_insert_1 (((), a, false), [some o], (0 : Int), (mvd (FT t) p (A ++ [o]) ws B).kst (P0 t), ks) = _ := hc
        rw [hc', bind_some]
        exact ⟨_, _, rfl, fun _ => ⟨p, A, B, hpa, rfl⟩⟩
end
end Go.Proofs.Ytfmlpodcldhgdaa.V
set_option linter.unusedVariables false
set_option linter.unusedSimpArgs false
namespace Go.Proofs.Ytfmlpodcldhgdaa.V
open Go Go.Proofs
abbrev p_spec_Shaped : Pt := [(0, .lst .node)]
abbrev q_spec_Shaped : Pt := [(0, .bool)]
abbrev p_spec_Shaped_0 : Pt := [(0, .lst .node), (3, .int .i64)]
abbrev x_spec_Shaped_0 : List (Xt × Pt) := [(.ex 0, [(0, .lst .node)]), (.rt, [(2, .bool)])]
noncomputable def m_spec_Shaped_0 : Tup p_spec_Shaped_0 → Option (Stp (Tup p_spec_Shaped_0) (SumT (x_spec_Shaped_0.map (·.2)))) := fun (x : List Node × Int) => bif decide (x.2 < (↑(List.length x.1) : Int)) then Option.bind (atI x.1 x.2) fun (v : Node) => bif decide (Node.size v < (1 : Int)) then some (Stp.out (Sum.inr false)) else bif decide (IntKind.wrap .i64 ((↑(List.length x.1) : Int) - x.2) < Node.size v) then some (Stp.out (Sum.inr false)) else bif decide ((0 : Int) < x.2) then bif decide (Node.kind v = (1 : Int)) then some (Stp.out (Sum.inr false)) else bif decide (Node.kind v < (1 : Int)) then some (Stp.out (Sum.inr false)) else bif decide ((5 : Int) < Node.kind v) then some (Stp.out (Sum.inr false)) else bif decide ((1 : Int) < Node.size v) then bif decide (Node.kind v ≠ (1 : Int)) then bif decide (Node.kind v ≠ (3 : Int)) then some (Stp.out (Sum.inr false)) else some (Stp.nx (x.1, IntKind.wrap .i64 (x.2 + (1 : Int)))) else some (Stp.nx (x.1, IntKind.wrap .i64 (x.2 + (1 : Int)))) else some (Stp.nx (x.1, IntKind.wrap .i64 (x.2 + (1 : Int)))) else bif decide (Node.kind v < (1 : Int)) then some (Stp.out (Sum.inr false)) else bif decide ((5 : Int) < Node.kind v) then some (Stp.out (Sum.inr false)) else bif decide ((1 : Int) < Node.size v) then bif decide (Node.kind v ≠ (1 : Int)) then bif decide (Node.kind v ≠ (3 : Int)) then some (Stp.out (Sum.inr false)) else some (Stp.nx (x.1, IntKind.wrap .i64 (x.2 + (1 : Int)))) else some (Stp.nx (x.1, IntKind.wrap .i64 (x.2 + (1 : Int)))) else some (Stp.nx (x.1, IntKind.wrap .i64 (x.2 + (1 : Int)))) else some (Stp.out (Sum.inl x.1))
noncomputable def m_spec_Shaped : Tup p_spec_Shaped → Option (Tup q_spec_Shaped) := fun (x : List Node) => bif decide ((↑(List.length x) : Int) = (0 : Int)) then some false else Option.bind (atI x (0 : Int)) fun (v : Node) => bif decide (Node.kind v ≠ (1 : Int)) then some false else Option.bind (atI x (0 : Int)) fun (v : Node) => bif decide (Node.size v ≠ (↑(List.length x) : Int)) then some false else Option.bind (loopO m_spec_Shaped_0 (x, (0 : Int))) fun (y : List Node ⊕ Bool) => selim (fun (y : List Node) => Option.bind (m_spec_sized big (y, (0 : Int), (↑(List.length y) : Int), (2000 : Int))) fun (r : Bool) => some r) (fun (y : Bool) => some y) y
noncomputable def cx_spec_Shaped : Cx := ⟨tb, lookE [(39, e_spec_sized)], lookS []⟩
theorem ck_spec_Shaped : CxOK Try.prog (cx_spec_Shaped) := cx_ok tb_ok (.cons ok_spec_sized Try.call39 .nil)
noncomputable def c_spec_Shaped_0 : Code := loopAt (Go.Proofs.Try.f55.body.getD .skip) 0
noncomputable def l_spec_Shaped_0 : LEnt := ⟨p_spec_Shaped_0, x_spec_Shaped_0, loopO (m_spec_Shaped_0)⟩
theorem lo_spec_Shaped_0 : LOK Try.prog 82 0 false (l_spec_Shaped_0) c_spec_Shaped_0 := loop_ok (body := m_spec_Shaped_0) (L := lookL []) (ck_spec_Shaped) mixed (ls_ok (l := []) (by kernel_rfl) .nil) (by intro x; kernel_rfl) (fun x y h => loopO_iff.1 h)
noncomputable def e_spec_Shaped : Ent := ⟨0, p_spec_Shaped, q_spec_Shaped, m_spec_Shaped⟩
theorem ok_spec_Shaped : FnOK Try.prog 55 e_spec_Shaped := fn_ok (L := lookL [(0, l_spec_Shaped_0)]) ck_spec_Shaped mixed Try.func55 rfl (by kernel_rfl) (by kernel_rfl) (ls_ok (l := [(0, c_spec_Shaped_0)]) (by kernel_rfl) (.cons rfl (lo_spec_Shaped_0) .nil)) (by intro x; kernel_rfl)
end Go.Proofs.Ytfmlpodcldhgdaa.V
set_option linter.unusedVariables false
set_option linter.unusedSimpArgs false
namespace Go.Proofs.Ytfmlpodcldhgdaa.V
open Go Go.Proofs
abbrev p_laws_step7 : Pt := [(0, .int .i64), (1, .lst .int), (2, .lst .int)]
abbrev q_laws_step7 : Pt := [(0, .el (.rc (.int .i64) [.ints, .ints, .str, .str, .strs] 0))]
noncomputable def m_laws_step7 : Tup p_laws_step7 → Option (Tup q_laws_step7) := fun (x : Int × List Int × List Int) => some (x.1, x.2.1, x.2.2, [], [], [])
noncomputable def cx_laws_step7 : Cx := ⟨tb, lookE [], lookS []⟩
theorem ck_laws_step7 : CxOK Try.prog (cx_laws_step7) := cx_ok tb_ok .nil
noncomputable def e_laws_step7 : Ent := ⟨0, p_laws_step7, q_laws_step7, m_laws_step7⟩
theorem ok_laws_step7 : FnOK Try.prog 22 e_laws_step7 := fn_ok (L := lookL []) ck_laws_step7 mixed Try.func22 rfl (by kernel_rfl) (by kernel_rfl) (ls_ok (l := []) (by kernel_rfl) .nil) (by intro x; kernel_rfl)
abbrev p_laws_sure7 : Pt := [(0, .lst .node), (1, .el (.rc (.int .i64) [.ints, .ints, .str, .str, .strs] 0))]
abbrev q_laws_sure7 : Pt := [(0, .bool)]
noncomputable def m_laws_sure7 : Tup p_laws_sure7 → Option (Tup q_laws_sure7) := fun (x : List Node × Int × List Int × List Int × List UInt8 × List UInt8 × List (List UInt8)) => Option.bind (m_spec_Changed_f (x.1, [(x.2.1, x.2.2.1, x.2.2.2.1, x.2.2.2.2.1, x.2.2.2.2.2.1, x.2.2.2.2.2.2)])) fun (r : List Node × List Int × Bool) => some r.2.2
noncomputable def cx_laws_sure7 : Cx := ⟨tb, lookE [(50, e_spec_Changed_f)], lookS []⟩
theorem ck_laws_sure7 : CxOK Try.prog (cx_laws_sure7) := cx_ok tb_ok (.cons ok_spec_Changed_f Try.call50 .nil)
noncomputable def e_laws_sure7 : Ent := ⟨0, p_laws_sure7, q_laws_sure7, m_laws_sure7⟩
theorem ok_laws_sure7 : FnOK Try.prog 21 e_laws_sure7 := fn_ok (L := lookL []) ck_laws_sure7 mixed Try.func21 rfl (by kernel_rfl) (by kernel_rfl) (ls_ok (l := []) (by kernel_rfl) .nil) (by intro x; kernel_rfl)
abbrev p_laws_told7 : Pt := [(0, .lst .node), (1, .lst .node), (2, .lst .int), (3, .bool)]
abbrev q_laws_told7 : Pt := [(0, .bool)]
noncomputable def m_laws_told7 : Tup p_laws_told7 → Option (Tup q_laws_told7) := fun (x : List Node × List Node × List Int × Bool) => bif x.2.2.2 then bif decide ((↑(List.length x.2.2.1) : Int) = (↑(List.length x.1) : Int)) then Option.bind (m_spec_Shaped x.2.1) fun (r : Bool) => some r else some false else some false
noncomputable def cx_laws_told7 : Cx := ⟨tb, lookE [(55, e_spec_Shaped)], lookS []⟩
theorem ck_laws_told7 : CxOK Try.prog (cx_laws_told7) := cx_ok tb_ok (.cons ok_spec_Shaped Try.call55 .nil)
noncomputable def e_laws_told7 : Ent := ⟨0, p_laws_told7, q_laws_told7, m_laws_told7⟩
theorem ok_laws_told7 : FnOK Try.prog 24 e_laws_told7 := fn_ok (L := lookL []) ck_laws_told7 mixed Try.func24 rfl (by kernel_rfl) (by kernel_rfl) (ls_ok (l := []) (by kernel_rfl) .nil) (by intro x; kernel_rfl)
abbrev p_laws_inRow7 : Pt := [(0, .lst .int), (1, .int .i64), (2, .lst .int), (3, .lst .int)]
abbrev q_laws_inRow7 : Pt := [(0, .bool)]
abbrev p_laws_inRow7_0 : Pt := [(0, .lst .int), (1, .int .i64), (2, .lst .int), (3, .lst .int), (9, .int .i64)]
abbrev x_laws_inRow7_0 : List (Xt × Pt) := [(.ex 0, []), (.rt, [(8, .bool)])]
noncomputable def m_laws_inRow7_0 : Tup p_laws_inRow7_0 → Option (Stp (Tup p_laws_inRow7_0) (SumT (x_laws_inRow7_0.map (·.2)))) := fun (x : List Int × Int × List Int × List Int × Int) => bif decide (x.2.2.2.2 < (↑(List.length x.2.2.1) : Int)) then bif decide (IntKind.wrap .i64 (x.2.1 + x.2.2.2.2) < (0 : Int)) then some (Stp.out (Sum.inr false)) else bif decide ((↑(List.length x.1) : Int) ≤ IntKind.wrap .i64 (x.2.1 + x.2.2.2.2)) then some (Stp.out (Sum.inr false)) else Option.bind (atI x.1 (IntKind.wrap .i64 (x.2.1 + x.2.2.2.2))) fun (v : Int) => Option.bind (atI x.2.2.1 x.2.2.2.2) fun (v_1 : Int) => Option.bind (atI x.2.2.2.1 v_1) fun (v_2 : Int) => bif decide (v ≠ v_2) then some (Stp.out (Sum.inr false)) else some (Stp.nx (x.1, x.2.1, x.2.2.1, x.2.2.2.1, IntKind.wrap .i64 (x.2.2.2.2 + (1 : Int)))) else some (Stp.out (Sum.inl ()))
noncomputable def m_laws_inRow7 : Tup p_laws_inRow7 → Option (Tup q_laws_inRow7) := fun (x : List Int × Int × List Int × List Int) => Option.bind (loopO m_laws_inRow7_0 (x.1, x.2.1, x.2.2.1, x.2.2.2, (0 : Int))) fun (y : PUnit ⊕ Bool) => selim (fun (y : PUnit) => some true) (fun (y : Bool) => some y) y
noncomputable def cx_laws_inRow7 : Cx := ⟨tb, lookE [], lookS [(5, [(true, 0), (true, 1), (true, 2), (true, 3), (true, 4), (true, 5), (true, 6), (true, 7), (true, 8), (true, 9), (true, 10), (true, 11), (true, 12), (true, 13), (true, 14), (true, 15), (true, 16), (true, 17), (true, 18), (true, 19), (true, 20), (true, 21)])]⟩
theorem ck_laws_inRow7 : CxOK Try.prog (cx_laws_inRow7) := cx_ok tb_ok .nil
noncomputable def c_laws_inRow7_0 : Code := loopAt (Go.Proofs.Try.f28.body.getD .skip) 0
noncomputable def l_laws_inRow7_0 : LEnt := ⟨p_laws_inRow7_0, x_laws_inRow7_0, loopO (m_laws_inRow7_0)⟩
theorem lo_laws_inRow7_0 : LOK Try.prog 42 0 false (l_laws_inRow7_0) c_laws_inRow7_0 := loop_ok (body := m_laws_inRow7_0) (L := lookL []) (ck_laws_inRow7) mixed (ls_ok (l := []) (by kernel_rfl) .nil) (by intro x; kernel_rfl) (fun x y h => loopO_iff.1 h)
noncomputable def e_laws_inRow7 : Ent := ⟨0, p_laws_inRow7, q_laws_inRow7, m_laws_inRow7⟩
theorem ok_laws_inRow7 : FnOK Try.prog 28 e_laws_inRow7 := fn_ok (L := lookL [(0, l_laws_inRow7_0)]) ck_laws_inRow7 mixed Try.func28 rfl (by kernel_rfl) (by kernel_rfl) (ls_ok (l := [(0, c_laws_inRow7_0)]) (by kernel_rfl) (.cons rfl (lo_laws_inRow7_0) .nil)) (by intro x; kernel_rfl)
abbrev p_laws_beside7 : Pt := [(0, .lst .node), (1, .int .i64)]
abbrev q_laws_beside7 : Pt := [(0, .own .int 3), (1, .int .i64)]
abbrev p_laws_beside7_0 : Pt := [(1, .int .i64), (6, .own .int 3), (7, .int .i64)]
abbrev x_laws_beside7_0 : List (Xt × Pt) := [(.ex 0, [(6, .own .int 3), (7, .int .i64)])]
noncomputable def m_laws_beside7_0 : Tup p_laws_beside7_0 → Option (Stp (Tup p_laws_beside7_0) (SumT (x_laws_beside7_0.map (·.2)))) := fun (x : Int × List Int × Int) => bif decide (x.2.2 < (↑(List.length x.2.1) : Int)) then Option.bind (atI x.2.1 x.2.2) fun (x_1 : Int) => Option.bind x.2.1[Int.toNat x.2.2]? fun (v : Int) => bif decide (v ≠ x.1) then some (Stp.nx (x.1, x.2.1, IntKind.wrap .i64 (x.2.2 + (1 : Int)))) else some (Stp.out (x.2.1, x.2.2)) else some (Stp.out (x.2.1, x.2.2))
noncomputable def m_laws_beside7 : Tup p_laws_beside7 → Option (Tup q_laws_beside7) := fun (x : List Node × Int) => Option.bind (m_spec_Parent (x.1, x.2)) fun (r : Int) => Option.bind (m_spec_Kids (x.1, r)) fun (r : List Int) => Option.bind (loopO m_laws_beside7_0 (x.2, r, (0 : Int))) fun (y : List Int × Int) => some (y.1, y.2)
noncomputable def cx_laws_beside7 : Cx := ⟨tb, lookE [(42, e_spec_Parent), (25, e_spec_Kids)], lookS []⟩
theorem ck_laws_beside7 : CxOK Try.prog (cx_laws_beside7) := cx_ok tb_ok (.cons ok_spec_Parent Try.call42 (.cons ok_spec_Kids Try.call25 .nil))
noncomputable def c_laws_beside7_0 : Code := loopAt (Go.Proofs.Try.f27.body.getD .skip) 0
noncomputable def l_laws_beside7_0 : LEnt := ⟨p_laws_beside7_0, x_laws_beside7_0, loopO (m_laws_beside7_0)⟩
theorem lo_laws_beside7_0 : LOK Try.prog 29 0 false (l_laws_beside7_0) c_laws_beside7_0 := loop_ok (body := m_laws_beside7_0) (L := lookL []) (ck_laws_beside7) mixed (ls_ok (l := []) (by kernel_rfl) .nil) (by intro x; kernel_rfl) (fun x y h => loopO_iff.1 h)
noncomputable def e_laws_beside7 : Ent := ⟨0, p_laws_beside7, q_laws_beside7, m_laws_beside7⟩
theorem ok_laws_beside7 : FnOK Try.prog 27 e_laws_beside7 := fn_ok (L := lookL [(0, l_laws_beside7_0)]) ck_laws_beside7 mixed Try.func27 rfl (by kernel_rfl) (by kernel_rfl) (ls_ok (l := [(0, c_laws_beside7_0)]) (by kernel_rfl) (.cons rfl (lo_laws_beside7_0) .nil)) (by intro x; kernel_rfl)
abbrev p_laws_FnInsertedAfter : Pt := [(0, .lst .node), (1, .int .i64), (2, .lst .int)]
abbrev q_laws_FnInsertedAfter : Pt := [(0, .bool)]
noncomputable def m_laws_FnInsertedAfter : Tup p_laws_FnInsertedAfter → Option (Tup q_laws_FnInsertedAfter) := fun (x : List Node × Int × List Int) => Option.bind (m_laws_zzFits1 x.1) fun (r : Bool) => bif !r then some true else bif decide ((2147483647 : Int) < (↑(List.length x.2.2) : Int)) then some true else Option.bind (m_laws_step7 ((3 : Int), [x.2.1], x.2.2)) fun (r : Int × List Int × List Int × List UInt8 × List UInt8 × List (List UInt8)) => Option.bind (m_laws_sure7 (x.1, r.1, r.2.1, r.2.2.1, r.2.2.2.1, r.2.2.2.2.1, r.2.2.2.2.2)) fun (r : Bool) => bif !r then some true else Option.bind (m_impl_AfterOf_f (x.1, [x.2.1], x.2.2)) fun (r : List Node × List Int × Bool) => Option.bind (m_laws_told7 (x.1, r.1, r.2.1, r.2.2)) fun (r_1 : Bool) => bif !r_1 then some false else bif decide ((↑(List.length r.1) : Int) ≠ (↑(List.length x.1) : Int)) then some false else Option.bind (atI r.2.1 x.2.1) fun (v : Int) => bif decide (v < (1 : Int)) then some false else Option.bind (atI r.2.1 x.2.1) fun (v : Int) => Option.bind (m_laws_beside7 (r.1, v)) fun (r_2 : List Int × Int) => Option.bind (m_laws_inRow7 (r_2.1, IntKind.wrap .i64 (r_2.2 + (1 : Int)), x.2.2, r.2.1)) fun (r : Bool) => some r
noncomputable def cx_laws_FnInsertedAfter : Cx := ⟨tb, lookE [(13, e_laws_zzFits1), (22, e_laws_step7), (21, e_laws_sure7), (26, e_impl_AfterOf_f), (24, e_laws_told7), (27, e_laws_beside7), (28, e_laws_inRow7)], lookS []⟩
theorem ck_laws_FnInsertedAfter : CxOK Try.prog (cx_laws_FnInsertedAfter) := cx_ok tb_ok (.cons ok_laws_zzFits1 Try.call13 (.cons ok_laws_step7 Try.call22 (.cons ok_laws_sure7 Try.call21 (.cons ok_impl_AfterOf_f Try.call26 (.cons ok_laws_told7 Try.call24 (.cons ok_laws_beside7 Try.call27 (.cons ok_laws_inRow7 Try.call28 .nil)))))))
noncomputable def e_laws_FnInsertedAfter : Ent := ⟨0, p_laws_FnInsertedAfter, q_laws_FnInsertedAfter, m_laws_FnInsertedAfter⟩
theorem ok_laws_FnInsertedAfter : FnOK Try.prog 6 e_laws_FnInsertedAfter := fn_ok (L := lookL []) ck_laws_FnInsertedAfter mixed Try.func6 rfl (by kernel_rfl) (by kernel_rfl) (ls_ok (l := []) (by kernel_rfl) .nil) (by intro x; kernel_rfl)
end Go.Proofs.Ytfmlpodcldhgdaa.V
set_option linter.unusedVariables false
set_option linter.unusedSimpArgs false
namespace Go.Proofs.Ytfmlpodcldhgdaa.V
open Go
section
variable {t : List Node} {o p : Nat} {ws A B : List Nat} {n : Nat}
theorem big_ex : ∃ n, big = n ∧ 1000000 ≤ n := ⟨big, rfl, by unfold big; omega⟩
theorem off_mem {F : Fo} {l : List Nat} {x y : Nat} (h : y ∈ (F.off l).kids x) : y ∈ F.kids x := (List.mem_filter.1 h).1
theorem Ht.sub {K K' : Nat → List Nat} (h : ∀ x y, y ∈ K' x → y ∈ K x) : ∀ {n x : Nat}, Ht K n x → Ht K' n x
  | 0, _, hh => hh
  | n + 1, x, hh => fun y hy => Ht.sub h (hh y (h x y hy))
theorem Pa.flo (hR : RT t) (h : Pa t o p A B ws) (hn : 1000000 ≤ n) : Flt t ((mvd (FT t) p (A ++ [o]) ws B).off [o]) n := by
  have hF := h.pl.fl hR hn
  refine ⟨off_ok hF.ok, hF.m, fun x => (hF.ht x).sub fun _ _ => off_mem, ids_nodup (off_ok hF.ok) (fun x y hy => rank_lt hR h.pl.hp h.pl.hk h.pl.mv x y (off_mem hy)) n 0, fun x y hy => hF.leaf x y (off_mem hy)⟩
def Did (t : List Node) (op : Int) (x : Nat) (l : List Nat) (G : Fo) : Prop :=
  (op = 2 → Pl t x [] (kidsN t x) l ∧ G = mvd (FT t) x [] l (kidsN t x)) ∧ (op = 3 → ∃ p A B, Pa t x p A B l ∧ G = mvd (FT t) p (A ++ [x]) l B) ∧ (op = 5 → ∃ p A B, Pa t x p A B l ∧ G = (mvd (FT t) p (A ++ [x]) l B).off [x])
theorem Did.fl (hR : RT t) {op : Int} {x : Nat} {l : List Nat} {G : Fo} (h : Did t op x l G) (hop : op = 2 ∨ op = 3 ∨ op = 5) (hn : 1000000 ≤ n) : Flt t G n := by
  obtain ⟨h1, h2, h3⟩ := h
  rcases hop with e | e | e
  · obtain ⟨k1, rfl⟩ := h1 e
    exact k1.fl hR hn
  · obtain ⟨p, A, B, k1, rfl⟩ := h2 e
    exact k1.pl.fl hR hn
  · obtain ⟨p, A, B, k1, rfl⟩ := h3 e
    exact k1.flo hR hn
theorem step_ex (hR : RT t) {op o : Int} {ws : List Int} (hop : op = 2 ∨ op = 3 ∨ op = 5) (hl : ws.length ≤ 2147483647) :
    ∃ b S, m_spec_forest_step (((), (t.length : Int), false), (op, [o], ws, [], [], []), (List.range t.length).map some, (FT t).kst (P0 t)) = some (b, ((), (t.length : Int), false), (List.range t.length).map some, S) ∧
      (b = true → ∃ (x : Nat) (l : List Nat) (G : Fo), o = (x : Int) ∧ ws = intsN l ∧ S = G.kst (P0 t) ∧ Did t op x l G ∧ (1 ≤ x ∧ x < t.length) ∧ (∀ c ∈ l, 1 ≤ c ∧ c < t.length) ∧ l.Nodup) := by
  obtain ⟨r1, b1, h1, h1'⟩ := chosen_nat (t.length : Int) false (on := [o]) (n := t.length) (by simp)
  obtain ⟨r2, b2, h2, h2'⟩ := chosen_nat (t.length : Int) false (on := ws) (n := t.length) hl
  simp only [m_spec_forest_step, h1, h2, bind_some, cond_dec]
  cases b1 with
  | false => exact ⟨_, _, rfl, fun h => by cases h⟩
  | true =>
    cases b2 with
    | false => exact ⟨_, _, rfl, fun h => by cases h⟩
    | true =>
      obtain ⟨l1, e1, rfl, g1, g2⟩ := h1' rfl
      obtain ⟨l2, e2, rfl, k1, k2⟩ := h2' rfl
      obtain ⟨x, rfl⟩ : ∃ x, l1 = [x] := by
        have : l1.length = 1 := by
          have := congrArg List.length e1
          simpa [intsN] using this.symm
        exact List.length_eq_one_iff.1 this
      have ho : o = (x : Int) := by
        simp only [intsN, List.map_cons, List.map_nil, List.cons.injEq, and_true] at e1
        exact e1
      have hx := g1 x (by simp)
      simp only [Bool.not_true, cond_false, List.map_cons, List.map_nil, List.length_singleton]
      rw [if_neg (by decide)]
      rcases hop with rfl | rfl | rfl
      · obtain ⟨b, S, q1, q2⟩ := insert1_pre (a := (t.length : Int)) (ks := (List.range t.length).map some) hR hx k1 k2
        rw [if_neg (by decide), if_pos rfl, q1, bind_some]
        refine ⟨_, _, rfl, fun hb => ?_⟩
        obtain ⟨q3, q4⟩ := q2 hb
        exact ⟨x, l2, _, ho, e2, q4, ⟨fun _ => ⟨q3, rfl⟩, fun h => absurd h (by decide), fun h => absurd h (by decide)⟩, hx, k1, k2⟩
      · obtain ⟨b, S, q1, q2⟩ := insert1_aft (a := (t.length : Int)) (ks := (List.range t.length).map some) hR hx k1 k2
        rw [if_neg (by decide), if_neg (by decide), if_pos rfl, q1, bind_some]
        refine ⟨_, _, rfl, fun hb => ?_⟩
        obtain ⟨p, A, B, q3, q4⟩ := q2 hb
        exact ⟨x, l2, _, ho, e2, q4, ⟨fun h => absurd h (by decide), fun _ => ⟨p, A, B, q3, rfl⟩, fun h => absurd h (by decide)⟩, hx, k1, k2⟩
      · obtain ⟨b, S, q1, q2⟩ := insert1_rep (a := (t.length : Int)) (ks := (List.range t.length).map some) hR hx k1 k2
        rw [if_neg (by decide), if_neg (by decide), if_neg (by decide), if_neg (by decide), if_pos rfl, q1, bind_some]
        refine ⟨_, _, rfl, fun hb => ?_⟩
        obtain ⟨p, A, B, q3, q4⟩ := q2 hb
        exact ⟨x, l2, _, ho, e2, q4, ⟨fun h => absurd h (by decide), fun h => absurd h (by decide), fun _ => ⟨p, A, B, q3, rfl⟩⟩, hx, k1, k2⟩
theorem fill_eq (a : Int) (b : Bool) (S : List KN) (ks : List (Option Nat)) {m : Nat} (hm : m ≤ 1000000) : ∀ d j : Nat, m - j = d → j ≤ m → loopO m_spec_Changed_1 (((), a, b), List.replicate j (-1) ++ List.replicate (m - j) 0, (j : Int), S, ks) = some (((), a, b), List.replicate m (-1), S, ks) := by
  intro d
  induction d with
  | zero =>
    intro j hd hj
    obtain rfl : j = m := by omega
    refine loopO_out ?_
    simp only [m_spec_Changed_1, cond_dec]
    rw [if_neg (by simp)]
    simp
  | succ d ih =>
    intro j hd hj
    have hg : (List.replicate j (-1) ++ List.replicate (m - j) 0 : List Int)[j]? = some 0 := by
      rw [List.getElem?_append_right (by simp), List.length_replicate, Nat.sub_self, List.getElem?_replicate, if_pos (by omega)]
    have hs : (List.replicate j (-1) ++ List.replicate (m - j) 0 : List Int).set j (-1) = List.replicate (j + 1) (-1) ++ List.replicate (m - (j + 1)) 0 := by
      rw [List.set_append_right _ _ (by simp)]
      rw [show m - j = (m - (j + 1)) + 1 by omega, List.replicate_succ]
      simp only [List.length_replicate, Nat.sub_self, List.set_cons_zero]
      rw [List.replicate_succ', List.append_assoc]
      rfl
    have step : m_spec_Changed_1 (((), a, b), List.replicate j (-1) ++ List.replicate (m - j) 0, (j : Int), S, ks) = some (.nx (((), a, b), List.replicate (j + 1) (-1) ++ List.replicate (m - (j + 1)) 0, ((j + 1 : Nat) : Int), S, ks)) := by
      simp only [m_spec_Changed_1, cond_dec, atI_nat, hg, bind_some, Int.toNat_natCast, hs]
      rw [if_pos (by simp; omega), w64 (by omega) (by omega)]
      rfl
    rw [loopO_nx step]
    exact ih (j + 1) (by omega) (by omega)
theorem changed1 (hf : fits1 t = true) {op o : Int} {ws : List Int} (hop : op = 2 ∨ op = 3 ∨ op = 5) (hl : ws.length ≤ 2147483647) :
    ∃ out at' b, m_spec_Changed_f (t, [(op, [o], ws, [], [], [])]) = some (out, at', b) ∧
      (b = true → RT t ∧ ∃ (x : Nat) (l : List Nat) (G : Fo), o = (x : Int) ∧ ws = intsN l ∧ Did t op x l G ∧ (1 ≤ x ∧ x < t.length) ∧ (∀ c ∈ l, 1 ≤ c ∧ c < t.length) ∧ l.Nodup) := by
  obtain ⟨n, hb, hn⟩ := big_ex
  obtain ⟨b0, h0, h0'⟩ := Right_ex t hf
  suffices h : ∃ out at' b S, m_spec_Changed (t, [(op, [o], ws, [], [], [])], []) = some (out, at', b, S) ∧ (b = true → RT t ∧ ∃ (x : Nat) (l : List Nat) (G : Fo), o = (x : Int) ∧ ws = intsN l ∧ Did t op x l G ∧ (1 ≤ x ∧ x < t.length) ∧ (∀ c ∈ l, 1 ≤ c ∧ c < t.length) ∧ l.Nodup) by
    obtain ⟨out, at', b, S, g1, g2⟩ := h
    refine ⟨out, at', b, ?_, g2⟩
    show (m_spec_Changed (t, [(op, [o], ws, [], [], [])], [])).map _ = _
    rw [g1]; rfl
  simp only [m_spec_Changed, h0, bind_some, cond_dec]
  cases b0 with
  | false => exact ⟨_, _, _, _, rfl, fun h => by cases h⟩
  | true =>
    have hR := h0' rfl
    have hlen := hR.len
    simp only [Bool.not_true, cond_false, knots_eq hR, bind_some]
    obtain ⟨b1, S, h1, h1'⟩ := step_ex (o := o) hR hop hl
    have hat : atI [(op, [o], ws, ([] : List UInt8), ([] : List UInt8), ([] : List (List UInt8)))] (0 : Int) = some (op, [o], ws, [], [], []) := rfl
    have hat' : atI [(op, [o], ws, ([] : List UInt8), ([] : List UInt8), ([] : List (List UInt8)))] (0 : Int) = some (op, [o], ws, [], [], []) := rfl
    cases b1 with
    | false =>
      have st : m_spec_Changed_0 (t, [(op, [o], ws, [], [], [])], ((), (t.length : Int), false), (0 : Int), (FT t).kst (P0 t), (List.range t.length).map some) = some (.out (.inr ([], [], false, S))) := by
        simp only [m_spec_Changed_0, cond_dec, hat, bind_some, h1]
        rw [if_pos (by simp)]
        rfl
      rw [loopO_out st]
      exact ⟨_, _, _, _, rfl, fun h => by cases h⟩
    | true =>
      obtain ⟨x, l, G, e1, e2, rfl, e4, e5, e6, e7⟩ := h1' rfl
      have st : m_spec_Changed_0 (t, [(op, [o], ws, [], [], [])], ((), (t.length : Int), false), (0 : Int), (FT t).kst (P0 t), (List.range t.length).map some) = some (.nx (t, [(op, [o], ws, [], [], [])], ((), (t.length : Int), false), (1 : Int), G.kst (P0 t), (List.range t.length).map some)) := by
        simp only [m_spec_Changed_0, cond_dec, hat, bind_some, h1]
        rw [if_pos (by simp)]
        rfl
      have st2 : m_spec_Changed_0 (t, [(op, [o], ws, [], [], [])], ((), (t.length : Int), false), (1 : Int), G.kst (P0 t), (List.range t.length).map some) = some (.out (.inl (t, ((), (t.length : Int), false), G.kst (P0 t), (List.range t.length).map some))) := by
        simp only [m_spec_Changed_0, cond_dec]
        rw [if_neg (by simp)]
      have hF := e4.fl hR hop hn
      have hfill := fill_eq (t.length : Int) false (G.kst (P0 t)) ((List.range t.length).map some) (m := t.length) (by omega) t.length 0 rfl (Nat.zero_le _)
      have hfill' : loopO m_spec_Changed_1 (((), (t.length : Int), false), List.replicate (Int.toNat (t.length : Int)) (0 : Int), (0 : Int), G.kst (P0 t), (List.range t.length).map some) = some (((), (t.length : Int), false), List.replicate t.length (-1), G.kst (P0 t), (List.range t.length).map some) := hfill
      have hz : ((List.range t.length).map some)[0]? = some (some 0) := by
        have := hR.pos
        rw [List.getElem?_map, List.getElem?_range hR.pos]; rfl
      have hids := ids_len hF.ok (r := fun _ => 0)
      have hle := hF.le hR
      rw [hF.tl] at hle
      have hli := listed_eq (P := P0 t) hF.ok n 0 [] (List.replicate t.length (-1)) (by rw [hF.m]; exact hR.pos) (hF.ht 0) (by simp; omega) (by simp; omega)
      rw [loopO_nx st, loopO_out st2, bind_some]
      simp only [selim]
      rw [if_pos ⟨by omega, by omega, by omega⟩, hfill', bind_some]
      simp only [atI_zero, hz, bind_some, show Int.toNat 0 = 0 from rfl, hb, hli]
      exact ⟨_, _, _, _, rfl, fun _ => ⟨hR, x, l, G, e1, e2, e4, e5, e6, e7⟩⟩
end
end Go.Proofs.Ytfmlpodcldhgdaa.V
set_option linter.unusedVariables false
set_option linter.unusedSimpArgs false
namespace Go.Proofs.Ytfmlpodcldhgdaa.V
open Go
end Go.Proofs.Ytfmlpodcldhgdaa.V
set_option linter.unusedVariables false
set_option linter.unusedSimpArgs false
namespace Go.Proofs.Ytfmlpodcldhgdaa.V
open Go
theorem sized_true (t : List Node) (ht : t.length ≤ 1000000) : ∀ (d n a e : Nat), d < n → d ≤ 1000000 → a + sz t a ≤ e → e ≤ t.length → Lam t a (a + sz t a) → 1 ≤ sz t a → sz t a ≤ d → m_spec_sized n (t, (a : Int), (e : Int), (d : Int)) = some true := by
  intro d
  induction d with
  | zero => intro n a e _ _ _ _ _ h1 h2; omega
  | succ d ih =>
    intro n a e hn hd hae he hL h1 h2
    obtain ⟨m, rfl⟩ : ∃ m, n = m + 1 := ⟨n - 1, by omega⟩
    obtain ⟨v, hv, hvs, _, _⟩ := hL.ok a (Nat.le_refl _) (by omega)
    have key : ∀ f k, a < k → k ≤ a + sz t a → a + sz t a - k ≤ f → loopO (m_spec_sized_0 (m_spec_sized m)) (t, (a : Int), ((d + 1 : Nat) : Int), (sz t a : Int), (k : Int)) = some (.inl ()) := by
      intro f
      induction f with
      | zero =>
        intro k k1 k2 k3
        refine loopO_out ?_
        simp only [m_spec_sized_0, cond_dec]
        rw [w64 (n := (a : Int) + (sz t a : Int)) (by omega) (by omega), if_neg (by omega)]
      | succ f ih2 =>
        intro k k1 k2 k3
        by_cases hk : k < a + sz t a
        · obtain ⟨u, hu, hus, hu1, hu2⟩ := hL.ok k (by omega) hk
          have hs := ih m k (a + sz t a) (by omega) (by omega) hu2 (by omega) (hL.sub (by omega) hk) hu1 (by omega)
          have e1 : IntKind.wrap .i64 (((d + 1 : Nat) : Int) - 1) = (d : Int) := by rw [w64 (by omega) (by omega)]; omega
          have e2 : IntKind.wrap .i64 ((a : Int) + (sz t a : Int)) = ((a + sz t a : Nat) : Int) := by rw [w64 (by omega) (by omega)]; omega
          have step : m_spec_sized_0 (m_spec_sized m) (t, (a : Int), ((d + 1 : Nat) : Int), (sz t a : Int), (k : Int)) = some (.nx (t, (a : Int), ((d + 1 : Nat) : Int), (sz t a : Int), ((k + sz t k : Nat) : Int))) := by
            simp only [m_spec_sized_0, cond_dec, atI_nat, e1, e2, hs, hu, bind_some, hus]
            rw [if_pos (by omega), w64 (by omega) (by omega)]
            simp
          rw [loopO_nx step]
          exact ih2 (k + sz t k) (by omega) (by omega) (by omega)
        · refine loopO_out ?_
          simp only [m_spec_sized_0, cond_dec]
          rw [w64 (n := (a : Int) + (sz t a : Int)) (by omega) (by omega), if_neg (by omega)]
    have h0 := key (sz t a) (a + 1) (by omega) (by omega) (by omega)
    have h0' : loopO (m_spec_sized_0 (m_spec_sized m)) (t, (a : Int), ((d + 1 : Nat) : Int), (sz t a : Int), (a : Int) + 1) = some (.inl ()) := h0
    show b_spec_sized (m_spec_sized m) _ = _
    simp only [b_spec_sized, cond_dec, atI_nat, hv, bind_some, hvs]
    rw [if_neg (by omega), if_neg (by omega), w64 (n := (e : Int) - (a : Int)) (by omega) (by omega), if_neg (by omega), w64 (n := (a : Int) + 1) (by omega) (by omega), h0', bind_some]
    rfl
theorem Shaped_eq {t : List Node} (hR : RT t) : m_spec_Shaped t = some true := by
  have hlen := hR.len
  have hpos := hR.pos
  obtain ⟨n, hb, hn⟩ := big_ex
  obtain ⟨v, hv, hv1⟩ := hR.k0
  have hv0 : v.size = (t.length : Int) := by
    obtain ⟨u, hu, hus, _, _⟩ := hR.lam.ok 0 (Nat.le_refl _) hpos
    rw [hv] at hu
    cases hu
    rw [hus, hR.root]
  obtain ⟨y, h1, h2⟩ := loopO_rule (body := m_spec_Shaped_0) (fun x => ∃ k : Nat, x = (t, (k : Int)) ∧ k ≤ t.length) (fun _ y => y = .inl t) (fun x => ((t.length : Int) - x.2).toNat) (fun x hx => by
    obtain ⟨k, rfl, hk⟩ := hx
    simp only [m_spec_Shaped_0, cond_dec, atI_nat]
    by_cases hkl : k < t.length
    · obtain ⟨u, hu, hus, hu1, hu2⟩ := hR.lam.ok k (Nat.zero_le _) hkl
      have hN := hR.node k u hu
      have hk1 := hN.k1
      have hk2 := hN.k2
      have hkd := hN.kd
      have hnx : (some (.nx (t, IntKind.wrap .i64 ((k : Int) + 1))) : Option (Stp (List Node × Int) (List Node ⊕ Bool))) = some (.nx (t, ((k + 1 : Nat) : Int))) := by rw [w64 (by omega) (by omega)]; rfl
      refine .inr ⟨(t, ((k + 1 : Nat) : Int)), ?_, ⟨k + 1, rfl, by omega⟩, by simp only; omega, fun _ h => h⟩
      rw [if_pos (by omega), hu, bind_some, hus, if_neg (by omega), w64 (n := (t.length : Int) - (k : Int)) (by omega) (by omega), if_neg (by omega)]
      by_cases e0 : (0 : Int) < (k : Int)
      · rw [if_pos e0, if_neg (fun h => by have := hk1 h; omega), if_neg (by omega), if_neg (by omega)]
        by_cases e1 : (1 : Int) < (sz t k : Int)
        · rw [if_pos e1]
          by_cases e2 : u.kind = 1
          · have := hk1 e2; omega
          · rw [if_pos e2]
            by_cases e3 : u.kind = 3
            · rw [if_neg (by simp [e3])]; exact hnx
            · have := hk2 e3 e2; omega
        · rw [if_neg e1]; exact hnx
      · rw [if_neg e0, if_neg (by omega), if_neg (by omega)]
        by_cases e1 : (1 : Int) < (sz t k : Int)
        · rw [if_pos e1]
          by_cases e2 : u.kind = 1
          · rw [if_neg (by simp [e2])]; exact hnx
          · rw [if_pos e2]
            by_cases e3 : u.kind = 3
            · rw [if_neg (by simp [e3])]; exact hnx
            · have := hk2 e3 e2; omega
        · rw [if_neg e1]; exact hnx
    · rw [if_neg (by omega)]
      exact .inl ⟨_, rfl, rfl⟩) (t, ((0 : Nat) : Int)) ⟨0, rfl, Nat.zero_le _⟩
  subst h2
  have h1' : loopO m_spec_Shaped_0 (t, (0 : Int)) = some (.inl t) := h1
  have hs := sized_true t (by omega) 2000 n 0 t.length (by omega) (by omega) (by rw [hR.root]; omega) (Nat.le_refl _) (by rw [hR.root, Nat.zero_add]; exact hR.lam) (by rw [hR.root]; exact hpos) (by rw [hR.root]; omega)
  have hs' : m_spec_sized n (t, (0 : Int), (t.length : Int), (2000 : Int)) = some true := hs
  simp only [m_spec_Shaped, cond_dec, atI_zero, hv, bind_some, h1', hb]
  rw [if_neg (by omega), if_neg (by simp [hv1]), if_neg (by simp [hv0])]
  simp only [selim, hs', bind_some]
theorem told_eq {t out : List Node} {at' : List Int} (hR : RT out) (hl : at'.length = t.length) : m_laws_told7 (t, out, at', true) = some true := by
  simp only [m_laws_told7, cond_dec, cond_true, Shaped_eq hR, bind_some]
  rw [if_pos (by omega)]
section
variable {t : List Node} {p : Nat} {cs A B : List Nat} {n : Nat}
theorem Pl.spots_get (hR : RT t) (h : Pl t p A B cs) (hn : 1000000 ≤ n) {z : Nat} (hz : z < t.length) : (V.spots t (mvd (FT t) p A cs B) n)[z]? = some (wh t p A B cs n z : Int) := by
  rw [h.spots hR hn, List.getElem?_map, List.getElem?_range hz]; rfl
theorem Pl.spots_len : (V.spots t (mvd (FT t) p A cs B) n).length = t.length := by simp [V.spots]
theorem Pl.tlen (hR : RT t) (h : Pl t p A B cs) (hn : 1000000 ≤ n) : (tree t (mvd (FT t) p A cs B) n).length = t.length := by
  rw [(h.fl hR hn).tl, h.len hR hn]
end
theorem sure_ex {t : List Node} (hf : fits1 t = true) {op o : Int} {ws : List Int} (hop : op = 2 ∨ op = 3 ∨ op = 5) (hl : ws.length ≤ 2147483647) :
    ∃ b, m_laws_sure7 (t, op, [o], ws, [], [], []) = some b ∧ (b = true → RT t ∧ ∃ (x : Nat) (l : List Nat) (G : Fo), o = (x : Int) ∧ ws = intsN l ∧ Did t op x l G ∧ (1 ≤ x ∧ x < t.length) ∧ (∀ c ∈ l, 1 ≤ c ∧ c < t.length) ∧ l.Nodup) := by
  obtain ⟨out, at', b, h1, h2⟩ := changed1 (o := o) hf hop hl
  refine ⟨b, ?_, h2⟩
  simp only [m_laws_sure7, h1, bind_some]
end Go.Proofs.Ytfmlpodcldhgdaa.V
set_option linter.unusedVariables false
set_option linter.unusedSimpArgs false
namespace Go.Proofs.Ytfmlpodcldhgdaa.V
open Go
section
variable {t : List Node} {p o : Nat} {ws cs A B : List Nat} {n : Nat}
theorem Pl.wh_inj (hR : RT t) (h : Pl t p A B cs) (hn : 1000000 ≤ n) {x y : Nat} (hx : x < t.length) (hy : y < t.length) (e : wh t p A B cs n x = wh t p A B cs n y) : x = y := by
  have h1 := (h.oc hR hn hx (N := fun _ => ⟨0, [], [], [], 0⟩)).id (h.fl hR hn).ht
  have h2 := (h.oc hR hn hy (N := fun _ => ⟨0, [], [], [], 0⟩)).id (h.fl hR hn).ht
  rw [e, h2] at h1
  exact (Option.some.inj h1).symm
theorem Pl.wh0 (hR : RT t) (h : Pl t p A B cs) (hn : 1000000 ≤ n) : wh t p A B cs n 0 = 0 :=
  idxOf_at (h.fl hR hn).nd ((Oc.refl (K := (mvd (FT t) p A cs B).kids) (N := fun _ => ⟨0, [], [], [], 0⟩) (n := n) (r := 0)).id (h.fl hR hn).ht)
theorem Pl.Kids (hR : RT t) (h : Pl t p A B cs) (hn : 1000000 ≤ n) {x : Nat} (hx : x < t.length) : m_spec_Kids (tree t (mvd (FT t) p A cs B) n, (wh t p A B cs n x : Int)) = some (((mvd (FT t) p A cs B).kids x).map fun c => (wh t p A B cs n c : Int)) := by
  have hF := h.fl hR hn
  have hRT := hF.rt hR
  have hlt := h.wh_lt hR hn hx
  have htl := h.tlen hR hn
  rw [Kids_eq _ (by have := hRT.len; omega) hRT.lam (Nat.zero_le _) (by rw [htl]; exact hlt) (Nat.le_refl _)]
  have h1 := fl_kids_map hF.ht hF.nd (h.oc hR hn hx (N := fun i => kn (bs0 t i)))
  unfold tree
  rw [h1, List.map_map]
  rfl
theorem Pl.Parent (hR : RT t) (h : Pl t p A B cs) (hn : 1000000 ≤ n) {x c : Nat} (hx : x < t.length) (hc : c ∈ (mvd (FT t) p A cs B).kids x) : m_spec_Parent (tree t (mvd (FT t) p A cs B) n, (wh t p A B cs n c : Int)) = some (wh t p A B cs n x : Int) := by
  have hF := h.fl hR hn
  have hRT := hF.rt hR
  have hcl : c < t.length := by have := (hF.ok.kid hc).2; rwa [hF.m] at this
  have hlt := h.wh_lt hR hn hcl
  have htl := h.tlen hR hn
  rw [Parent_eq _ (by have := hRT.len; omega) hRT.lam (by rw [htl]; exact hlt) (Nat.le_refl _)]
  have h1 := fl_par hF.ht hF.nd (h.oc hR hn hx (N := fun i => kn (bs0 t i))) hc
  have h2 : par (tree t (mvd (FT t) p A cs B) n) (wh t p A B cs n c) = some (wh t p A B cs n x) := h1
  simp only [parI, h2]
theorem beside_loop {v : Int} {X Y : List Int} (hX : v ∉ X) (hl : X.length ≤ 1000000) : ∀ d j : Nat, X.length - j = d → j ≤ X.length → loopO m_laws_beside7_0 (v, X ++ v :: Y, (j : Int)) = some (X ++ v :: Y, (X.length : Int)) := by
  intro d
  induction d with
  | zero =>
    intro j hd hj
    obtain rfl : j = X.length := by omega
    have hg : (X ++ v :: Y)[X.length]? = some v := by simp
    refine loopO_out ?_
    simp only [m_laws_beside7_0, cond_dec, atI_nat, hg, bind_some, Int.toNat_natCast]
    rw [if_pos (by simp; omega), if_neg (by simp)]
  | succ d ih =>
    intro j hd hj
    have hg : (X ++ v :: Y)[j]? = some (X[j]'(by omega)) := by
      rw [List.getElem?_append_left (by omega), List.getElem?_eq_getElem (by omega)]
    have hne : X[j]'(by omega) ≠ v := fun e => hX (e ▸ List.getElem_mem _)
    have step : m_laws_beside7_0 (v, X ++ v :: Y, (j : Int)) = some (.nx (v, X ++ v :: Y, ((j + 1 : Nat) : Int))) := by
      simp only [m_laws_beside7_0, cond_dec, atI_nat, hg, bind_some, Int.toNat_natCast]
      rw [if_pos (by simp; omega), if_pos hne, w64 (by omega) (by omega)]
      rfl
    rw [loopO_nx step]
    exact ih (j + 1) (by omega) (by omega)
theorem row_eq {kids at' : List Int} {cs : List Nat} {w : Nat → Int} {q : Nat} (hl : cs.length ≤ 1000000) (hq : q ≤ 1000000) (hk : ∀ i c, cs[i]? = some c → kids[q + i]? = some (w c)) (ha : ∀ c ∈ cs, at'[c]? = some (w c)) : m_laws_inRow7 (kids, (q : Int), intsN cs, at') = some true := by
  have key : ∀ d j : Nat, cs.length - j = d → j ≤ cs.length → loopO m_laws_inRow7_0 (kids, (q : Int), intsN cs, at', (j : Int)) = some (.inl ()) := by
    intro d
    induction d with
    | zero =>
      intro j hd hj
      refine loopO_out ?_
      simp only [m_laws_inRow7_0, cond_dec]
      rw [if_neg (by simp [intsN]; omega)]
    | succ d ih =>
      intro j hd hj
      obtain ⟨c, hc⟩ := get_lt (l := cs) (k := j) (by omega)
      have h1 := hk j c hc
      have h2 := ha c (List.mem_of_getElem? hc)
      have hg : (intsN cs)[j]? = some (c : Int) := by rw [intsN, List.getElem?_map, hc]; rfl
      have hlt := (List.getElem?_eq_some_iff.1 h1).1
      have e : IntKind.wrap .i64 ((q : Int) + (j : Int)) = ((q + j : Nat) : Int) := by rw [w64 (by omega) (by omega)]; omega
      have step : m_laws_inRow7_0 (kids, (q : Int), intsN cs, at', (j : Int)) = some (.nx (kids, (q : Int), intsN cs, at', ((j + 1 : Nat) : Int))) := by
        simp only [m_laws_inRow7_0, cond_dec, e, atI_nat, h1, hg, h2, bind_some]
        rw [if_pos (by simp [intsN]; omega), if_neg (by omega), if_neg (by omega), if_neg (by simp), w64 (by omega) (by omega)]
        rfl
      rw [loopO_nx step]
      exact ih (j + 1) (by omega) (by omega)
  have h0 := key cs.length 0 rfl (Nat.zero_le _)
  have h0' : loopO m_laws_inRow7_0 (kids, (q : Int), intsN cs, at', (0 : Int)) = _ := h0
  simp only [m_laws_inRow7, h0', bind_some]
  rfl
end
theorem fn_insertedAfter (t : List Node) (o : Int) (ws : List Int) : m_laws_FnInsertedAfter (t, o, ws) = some true := by
  simp only [m_laws_FnInsertedAfter, zz1, bind_some, m_laws_step7, cond_dec]
  cases hf : fits1 t with
  | false => rfl
  | true =>
    simp only [Bool.not_true, cond_false]
    by_cases hl : (2147483647 : Int) < (ws.length : Int)
    · rw [if_pos hl]
    rw [if_neg hl]
    obtain ⟨b, h1, h2⟩ := sure_ex (t := t) (op := 3) (o := o) (ws := ws) hf (.inr (.inl rfl)) (by omega)
    rw [h1, bind_some]
    cases b with
    | false => rfl
    | true =>
      obtain ⟨hR, x, l, G, rfl, rfl, hd, hx, hl2, hl3⟩ := h2 rfl
      obtain ⟨p, A, B, hpa, _⟩ := hd.2.1 rfl
      obtain ⟨n, hb, hn⟩ := big_ex
      have hpl := hpa.pl
      have hF := hpl.fl hR hn
      have hRT := hF.rt hR
      have hle := hF.le hR
      rw [hF.tl] at hle
      have hlen := hR.len
      have htl := hpl.tlen hR hn
      have hll := Ds.len ⟨fun c hc => (hl2 c hc).2, hl3⟩ hlen
      have hi := afterOf_eq hf hR hx.2 hpl.hp hpl.hk ⟨fun c hc => (hl2 c hc).2, hl3⟩ (fun d hd => ⟨hpl.ne hR d hd, fun e => hpa.no (e ▸ hd)⟩) hb (hF.ht 0) (by omega)
      have hi' : m_impl_AfterOf_f (t, intsN [x], intsN l) = some (tree t (mvd (FT t) p (A ++ [x]) l B) n, V.spots t (mvd (FT t) p (A ++ [x]) l B) n, true) := by
        show (m_impl_AfterOf (t, intsN [x], intsN l, [])).map _ = _
        rw [hi]; rfl
      have hi'' : m_impl_AfterOf_f (t, [(x : Int)], intsN l) = _ := hi'
      have hg := hpl.spots_get hR hn hx.2
      have h0 := hpl.wh0 hR hn
      have hx0 : wh t p (A ++ [x]) B l n x ≠ 0 := fun e => by
        have := hpl.wh_inj hR hn hx.2 hR.pos (by rw [e, h0])
        omega
      simp only [Bool.not_true, cond_false, hi'', bind_some, told_eq hRT (t := t) Pl.spots_len, htl, atI_nat, hg]
      rw [if_neg (by simp), if_neg (by omega)]
      have hkids : (mvd (FT t) p (A ++ [x]) l B).kids p = A.filter (fun j => decide (j ∉ l)) ++ x :: (l ++ B.filter fun j => decide (j ∉ l)) := by
        rw [mvd_kids_p, filt_snoc hpa.no]; simp
      have hP := hpl.Parent hR hn hpl.hp (c := x) (by rw [hkids]; simp)
      have hK := hpl.Kids hR hn hpl.hp
      rw [hkids, List.map_append, List.map_cons] at hK
      have hkl := ft_klen hR p
      rw [ft_kids hpl.hp, hpl.hk] at hkl
      have f1 := filt_len (ws := l) (X := A)
      simp only [List.length_append, List.length_cons, List.length_nil] at hkl
      have hnin : ((wh t p (A ++ [x]) B l n x : Nat) : Int) ∉ (A.filter fun j => decide (j ∉ l)).map fun c => (wh t p (A ++ [x]) B l n c : Int) := fun h => by
        obtain ⟨y, hy, e⟩ := List.mem_map.1 h
        have hyk : y ∈ (mvd (FT t) p (A ++ [x]) l B).kids p := by rw [hkids]; exact List.mem_append_left _ hy
        have hyl : y < t.length := by have := (hF.ok.kid hyk).2; rwa [hF.m] at this
        have hxy := hpl.wh_inj hR hn hyl hx.2 (by omega)
        subst hxy
        have hnd := hF.ok.nd p
        rw [hkids, List.nodup_append] at hnd
        exact hnd.2.2 y hy y (by simp) rfl
      have hbl := beside_loop (Y := (l ++ B.filter fun j => decide (j ∉ l)).map fun c => (wh t p (A ++ [x]) B l n c : Int)) hnin (by rw [List.length_map]; omega) _ 0 rfl (Nat.zero_le _)
      have hbl' : loopO m_laws_beside7_0 (_, _, (0 : Int)) = _ := hbl
      have hbe : m_laws_beside7 (tree t (mvd (FT t) p (A ++ [x]) l B) n, ((wh t p (A ++ [x]) B l n x : Nat) : Int)) = some ((A.filter fun j => decide (j ∉ l)).map (fun c => (wh t p (A ++ [x]) B l n c : Int)) ++ ((wh t p (A ++ [x]) B l n x : Nat) : Int) :: (l ++ B.filter fun j => decide (j ∉ l)).map (fun c => (wh t p (A ++ [x]) B l n c : Int)), (((A.filter fun j => decide (j ∉ l)).length : Nat) : Int)) := by
        simp only [m_laws_beside7, hP, bind_some, hK, hbl', List.length_map]
      rw [hbe]
      simp only [bind_some]
      rw [w64 (by omega) (by omega)]
      have e1 : (((A.filter fun j => decide (j ∉ l)).length : Nat) : Int) + 1 = (((A.filter fun j => decide (j ∉ l)).length + 1 : Nat) : Int) := by omega
      rw [e1, row_eq (w := fun c => (wh t p (A ++ [x]) B l n c : Int)) (by omega) (by omega) (fun i c hc => ?_) (fun c hc => hpl.spots_get hR hn (hl2 c hc).2)]
      · rfl
      rw [List.getElem?_append_right (by simp; omega), List.length_map]
      rw [show (A.filter fun j => decide (j ∉ l)).length + 1 + i - (A.filter fun j => decide (j ∉ l)).length = i + 1 by omega, List.getElem?_cons_succ, List.map_append, List.getElem?_append_left (by have := (List.getElem?_eq_some_iff.1 hc).1; simpa using this), List.getElem?_map, hc]
      rfl
end Go.Proofs.Ytfmlpodcldhgdaa.V
