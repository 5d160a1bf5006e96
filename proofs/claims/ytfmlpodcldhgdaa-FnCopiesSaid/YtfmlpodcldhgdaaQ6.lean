/-
  Plain facts and an evaluator for what a law needs.
-/
import Derived.Test.YtfmlpodcldhgdaaQ5
set_option linter.unusedVariables false
set_option linter.unusedSimpArgs false
namespace Go.Proofs.Ytfmlpodcldhgdaa.V
open Go
theorem F2.split_r {α β : Type} {R : α → β → Prop} : ∀ {A : List β} {b : β} {B : List β} {l : List α}, F2 R l (A ++ b :: B) → ∃ A' a B', l = A' ++ a :: B' ∧ F2 R A' A ∧ R a b ∧ F2 R B' B
  | [], _, _, _, .cons h t => ⟨[], _, _, rfl, .nil, h, t⟩
  | _ :: A, b, B, _, .cons h t => by
    obtain ⟨A', a, B', e, h1, h2, h3⟩ := F2.split_r (A := A) t
    exact ⟨_ :: A', a, B', by rw [e]; rfl, .cons h h1, h2, h3⟩
theorem F2.mem_l {α β : Type} {R : α → β → Prop} : ∀ {l : List α} {m : List β} {a : α}, F2 R l m → a ∈ l → ∃ b ∈ m, R a b
  | _, _, _, .cons h t, ha => by
    rcases List.mem_cons.1 ha with rfl | ha
    · exact ⟨_, by simp, h⟩
    · obtain ⟨b, hb, hr⟩ := F2.mem_l t ha
      exact ⟨b, by simp [hb], hr⟩
theorem F2.refl {α : Type} {R : α → α → Prop} : ∀ {l : List α}, (∀ a ∈ l, R a a) → F2 R l l
  | [], _ => .nil
  | a :: l, h => .cons (h a (by simp)) (F2.refl fun b hb => h b (by simp [hb]))
def CpR (F : Fo) (R : Nat → Nat → Prop) (K : Nat → List Nat) (lo hi : Nat) : Nat → Nat → Nat → Prop
  | 0, _, _ => False
  | n + 1, c, x => (lo ≤ c ∧ c < hi) ∧ R c x ∧ F2 (CpR F R K lo hi n) (F.kids c) (K x)
theorem CpR.mono {F G : Fo} {R S : Nat → Nat → Prop} {K K' : Nat → List Nat} {lo hi lo' hi' : Nat} {Q : Nat → Prop} (hlo : lo' ≤ lo) (hhi : hi ≤ hi') (hk : ∀ i, lo ≤ i → i < hi → G.kids i = F.kids i) (hr : ∀ i y, lo ≤ i → i < hi → Q y → R i y → S i y) (hK : ∀ y, Q y → K' y = K y) (hQ : ∀ y, Q y → ∀ z ∈ K y, Q z) : ∀ {n c x : Nat}, Q x → CpR F R K lo hi n c x → CpR G S K' lo' hi' n c x
  | 0, _, _, _, h => h
  | n + 1, c, x, hx, ⟨⟨h1, h2⟩, h3, h4⟩ => by
    refine ⟨⟨by omega, by omega⟩, hr c x h1 h2 hx h3, ?_⟩
    rw [hk c h1 h2, hK x hx]
    exact h4.imp fun a b _ hb h => CpR.mono hlo hhi hk hr hK hQ (hQ x hx b hb) h
theorem cpR_of {F : Fo} {L : Nat → HN} {K : Nat → List Nat} {B : Nat → HN} {lo hi : Nat} : ∀ {n c x : Nat}, Cp F L K B lo hi n c x → CpR F (fun c x => cpl (L c) (B x)) K lo hi n c x
  | 0, _, _, h => h
  | n + 1, c, x, ⟨h1, h3, h4⟩ => ⟨h1, h3, h4.imp fun a b _ _ h => cpR_of h⟩
def KD (t : List Node) (D : Nat → List Nat) (i : Nat) : List Nat := if i < t.length then D i else ((FT t).kids (i - t.length)).map fun y => t.length + y
def It (t : List Node) (C : Nat → Nat → Prop) (c y : Nat) : Prop := (y < t.length ∧ c = y) ∨ (t.length ≤ y ∧ t.length ≤ c ∧ C c (y - t.length))
structure Rz (t : List Node) (G : Fo) (C : Nat → Nat → Prop) (D : Nat → List Nat) : Prop where
  ok : G.ok
  le : t.length ≤ G.m
  inc : ∀ c, t.length ≤ c → ∀ y ∈ G.kids c, c < y
  kid : ∀ i, i < t.length → F2 (It t C) (G.kids i) (D i)
section
variable {t : List Node} {G H : Fo} {C C' : Nat → Nat → Prop} {D : Nat → List Nat} {p x : Nat} {A B l : List Nat} {A' B' l' : List Nat}
theorem It.imp (h : ∀ c y, t.length ≤ c → C c y → C' c y) {c y : Nat} (hi : It t C c y) : It t C' c y := Or.imp id (fun ⟨h1, h2, h3⟩ => ⟨h1, h2, h _ _ h2 h3⟩) hi
theorem It.orig {y : Nat} (h : y < t.length) : It t C y y := .inl ⟨h, rfl⟩
theorem Rz.start (hR : RT t) : Rz t (FT t) C (FT t).kids := by
  refine ⟨FT_ok hR, Nat.le_refl _, fun c hc y hy => ?_, fun i hi => F2.refl fun a ha => .orig (kid_facts hR ha).2.2.1⟩
  have : ¬ c < t.length := by omega
  simp only [FT, if_neg this] at hy
  cases hy
theorem Rz.grow (h : Rz t G C D) (hok : H.ok) (hm : G.m ≤ H.m) (hold : ∀ i, i < G.m → H.kids i = G.kids i) (hinc : ∀ c, G.m ≤ c → ∀ y ∈ H.kids c, c < y) (hC : ∀ c y, t.length ≤ c → C c y → C' c y) : Rz t H C' D := by
  refine ⟨hok, Nat.le_trans h.le hm, fun c hc y hy => ?_, fun i hi => ?_⟩
  · by_cases e : c < G.m
    · rw [hold c e] at hy; exact h.inc c hc y hy
    · exact hinc c (by omega) y hy
  · rw [hold i (Nat.lt_of_lt_of_le hi h.le)]
    exact (h.kid i hi).imp fun a b _ _ hi => hi.imp hC
theorem Rz.hang (h : Rz t G C D) (hp : p < t.length) (hk : G.kids p = A ++ B) (hA : F2 (It t C') A A') (hB : F2 (It t C') B B') (hl : F2 (It t C') l l') (h1 : ∀ c ∈ l, c < G.m ∧ G.up c = none ∧ p ≠ c) (hn : l.Nodup) (hC : ∀ c y, t.length ≤ c → C c y → C' c y) : Rz t (G.hang p A l B) C' (upd D p (A' ++ l' ++ B')) := by
  refine ⟨hang_ok h.ok (Nat.lt_of_lt_of_le hp h.le) hk l h1 hn, h.le, fun c hc y hy => ?_, fun i hi => ?_⟩
  · have : c ≠ p := by omega
    simp only [Fo.hang, if_neg this] at hy
    exact h.inc c hc y hy
  · simp only [Fo.hang, upd]
    by_cases e : i = p
    · rw [if_pos e, if_pos e]
      exact (hA.append hl).append hB
    · rw [if_neg e, if_neg e]
      exact (h.kid i hi).imp fun a b _ _ hi => hi.imp hC
theorem Rz.off (h : Rz t G C D) (hl : ∀ c ∈ l, c < t.length) (hC : ∀ c y, t.length ≤ c → C c y → C' c y) : Rz t (G.off l) C' (fun i => (D i).filter fun j => decide (j ∉ l)) := by
  refine ⟨off_ok h.ok, h.le, fun c hc y hy => h.inc c hc y ((List.mem_filter.1 hy).1), fun i hi => ?_⟩
  refine F2.filter (fun a b hab => ?_) ((h.kid i hi).imp fun a b _ _ hi => hi.imp hC)
  rcases hab with ⟨h1, h2⟩ | ⟨h1, h2, h3⟩
  · rw [h2]
  · have e1 : a ∉ l := fun h => by have := hl a h; omega
    have e2 : b ∉ l := fun h => by have := hl b h; omega
    simp [e1, e2]
theorem Rz.at (h : Rz t G C D) (hp : p < t.length) (hx : x < t.length) (hD : D p = A' ++ x :: B') : ∃ A B, G.kids p = A ++ x :: B ∧ F2 (It t C) A A' ∧ F2 (It t C) B B' := by
  have h1 := h.kid p hp
  rw [hD] at h1
  obtain ⟨A, a, B, e, h2, h3, h4⟩ := F2.split_r h1
  rcases h3 with ⟨_, rfl⟩ | ⟨h3, _⟩
  · exact ⟨A, B, e, h2, h4⟩
  · omega
end
end Go.Proofs.Ytfmlpodcldhgdaa.V
set_option linter.unusedVariables false
set_option linter.unusedSimpArgs false
namespace Go.Proofs.Ytfmlpodcldhgdaa.V
open Go
def putP (P : Nat → Int × Node) : List Nat → Nat → List Int → List Int
  | [], _, at' => at'
  | z :: l, k, at' => putP P l (k + 1) (if 0 ≤ (P z).1 ∧ (P z).1 < at'.length then at'.set (P z).1.toNat (k : Int) else at')
theorem putP_len {P : Nat → Int × Node} : ∀ {l : List Nat} {k : Nat} {at' : List Int}, (putP P l k at').length = at'.length
  | [], _, _ => rfl
  | z :: l, k, at' => by
    simp only [putP, putP_len]
    split <;> simp
theorem putP_app {P : Nat → Int × Node} : ∀ {l m : List Nat} {k : Nat} {at' : List Int}, putP P (l ++ m) k at' = putP P m (k + l.length) (putP P l k at')
  | [], _, _, _ => rfl
  | z :: l, m, k, at' => by
    simp only [List.cons_append, putP, putP_app, List.length_cons]
    rw [show k + 1 + l.length = k + (l.length + 1) by omega]
section
variable {F : Fo} {P : Nat → Int × Node}
theorem listed_eq (hF : F.ok) : ∀ (n x : Nat) (T : List Node) (A : List Int), x < F.m → Ht F.kids n x → T.length + (idsF F.kids n x).length ≤ 1000000 → A.length ≤ 1000000 →
    m_spec_knot_listed n (some x, T, A, F.kst P) = some (T ++ nodesF F.kids (fun i => (P i).2) n x, putP P (idsF F.kids n x) T.length A, F.kst P)
  | 0, _, _, _, _, h, _, _ => h.elim
  | n + 1, x, T, A, hx, hh, hT, hA => by
    have hg := Fo.kget (F := F) (P := P) hx
    have hkk : (F.kn1 P x).kids = (F.kids x).map some := rfl
    have hkn : (F.kn1 P x).n = (P x).2 := rfl
    have hkp : (F.kn1 P x).pl = (P x).1 := rfl
    simp only [idsF, List.length_cons, List.length_flatMap] at hT
    have hklen : ((F.kids x).map fun y => (idsF F.kids n y).length).sum = ((F.kids x).flatMap (idsF F.kids n)).length := by rw [List.length_flatMap]
    have hle : (F.kids x).length ≤ ((F.kids x).flatMap (idsF F.kids n)).length := by
      have : ∀ l : List Nat, (∀ y ∈ l, Ht F.kids n y) → l.length ≤ (l.flatMap (idsF F.kids n)).length := fun l => by
        induction l with
        | nil => simp
        | cons a l ih =>
          intro h
          have h1 := ih fun y hy => h y (by simp [hy])
          have h2 : 1 ≤ (idsF F.kids n a).length := by
            have := h a (by simp)
            cases n with
            | zero => exact this.elim
            | succ n => simp [idsF]
          rw [List.flatMap_cons, List.length_append, List.length_cons]
          omega
      exact this _ hh
    have key : ∀ (A : List Int), A.length ≤ 1000000 → ∀ d j, (F.kids x).length - j = d → j ≤ (F.kids x).length → loopO (m_spec_knot_listed_0 (m_spec_knot_listed n)) (some x, T ++ [(P x).2] ++ ((F.kids x).take j).flatMap (nodesF F.kids (fun i => (P i).2) n), putP P (((F.kids x).take j).flatMap (idsF F.kids n)) (T.length + 1) A, (T.length : Int), (j : Int), F.kst P)
        = some (T ++ [(P x).2] ++ (F.kids x).flatMap (nodesF F.kids (fun i => (P i).2) n), putP P ((F.kids x).flatMap (idsF F.kids n)) (T.length + 1) A, (T.length : Int), F.kst P) := by
      intro A hA d
      induction d with
      | zero =>
        intro j hd hj
        obtain rfl : j = (F.kids x).length := by omega
        refine loopO_out ?_
        simp only [m_spec_knot_listed_0, bind_some, hg, hkk, cond_dec, List.length_map]
        rw [if_neg (by omega), List.take_of_length_le (Nat.le_refl _)]
      | succ d ih =>
        intro j hd hj
        obtain ⟨y, hy⟩ := get_lt (l := F.kids x) (k := j) (by omega)
        have hym := List.mem_of_getElem? hy
        obtain ⟨hu, hym2⟩ := hF.kid hym
        have e1 : (F.kids x).take (j + 1) = (F.kids x).take j ++ [y] := by rw [List.take_add_one, hy]; rfl
        have hsum : (((F.kids x).take (j + 1)).map fun y => (idsF F.kids n y).length).sum ≤ ((F.kids x).map fun y => (idsF F.kids n y).length).sum := by
          have h1 : F.kids x = (F.kids x).take (j + 1) ++ (F.kids x).drop (j + 1) := (List.take_append_drop _ _).symm
          conv => rhs; rw [h1]
          rw [List.map_append, List.sum_append]
          omega
        rw [e1, List.map_append, List.sum_append] at hsum
        simp only [List.map_cons, List.map_nil, List.sum_cons, List.sum_nil] at hsum
        have hlI : (((F.kids x).take j).flatMap (idsF F.kids n)).length = (((F.kids x).take j).map fun y => (idsF F.kids n y).length).sum := by rw [List.length_flatMap]
        have hlN : (((F.kids x).take j).flatMap (nodesF F.kids (fun i => (P i).2) n)).length = (((F.kids x).take j).map fun y => (idsF F.kids n y).length).sum := by
          rw [List.length_flatMap]
          congr 1
          exact List.map_congr_left fun y _ => nodesF_len n y
        have hky : ((F.kids x).map some)[j]? = some (some y) := by rw [List.getElem?_map, hy]; rfl
        have step : m_spec_knot_listed_0 (m_spec_knot_listed n) (some x, T ++ [(P x).2] ++ ((F.kids x).take j).flatMap (nodesF F.kids (fun i => (P i).2) n), putP P (((F.kids x).take j).flatMap (idsF F.kids n)) (T.length + 1) A, (T.length : Int), (j : Int), F.kst P)
            = some (.nx (some x, T ++ [(P x).2] ++ ((F.kids x).take (j + 1)).flatMap (nodesF F.kids (fun i => (P i).2) n), putP P (((F.kids x).take (j + 1)).flatMap (idsF F.kids n)) (T.length + 1) A, (T.length : Int), ((j + 1 : Nat) : Int), F.kst P)) := by
          simp only [m_spec_knot_listed_0, bind_some, hg, hkk, cond_dec, List.length_map, atI_nat, Int.toNat_natCast, hky]
          rw [if_pos (by omega), listed_eq hF n y _ _ hym2 (hh y hym) (by simp only [List.length_append, List.length_cons, List.length_nil, hlN]; omega) (by rw [putP_len]; exact hA), bind_some, w64 (by omega) (by omega), e1]
          simp only [List.flatMap_append, List.flatMap_cons, List.flatMap_nil, List.append_nil, List.append_assoc, putP_app]
          have e2 : (T ++ ([(P x).2] ++ ((F.kids x).take j).flatMap (nodesF F.kids (fun i => (P i).2) n))).length = T.length + 1 + (((F.kids x).take j).flatMap (idsF F.kids n)).length := by
            simp only [List.length_append, List.length_cons, List.length_nil, hlN, hlI]; omega
          rw [e2]
          rfl
        rw [loopO_nx step]
        exact ih (j + 1) (by omega) (by omega)
    have h0 : ∀ (A : List Int), A.length ≤ 1000000 → loopO (m_spec_knot_listed_0 (m_spec_knot_listed n)) (some x, T ++ [(P x).2], A, (T.length : Int), (0 : Int), F.kst P) = some (T ++ [(P x).2] ++ (F.kids x).flatMap (nodesF F.kids (fun i => (P i).2) n), putP P ((F.kids x).flatMap (idsF F.kids n)) (T.length + 1) A, (T.length : Int), F.kst P) := fun A hA => by
      have h := key A hA (F.kids x).length 0 (by omega) (Nat.zero_le _)
      simp only [List.take_zero, List.flatMap_nil, List.append_nil, putP] at h
      exact h
    have hlN : ((F.kids x).flatMap (nodesF F.kids (fun i => (P i).2) n)).length = ((F.kids x).map fun y => (idsF F.kids n y).length).sum := by
      rw [List.length_flatMap]
      congr 1
      exact List.map_congr_left fun y _ => nodesF_len n y
    have hget : (T ++ [(P x).2] ++ (F.kids x).flatMap (nodesF F.kids (fun i => (P i).2) n))[T.length]? = some (P x).2 := by simp
    have hset : ∀ v : Node, (T ++ [(P x).2] ++ (F.kids x).flatMap (nodesF F.kids (fun i => (P i).2) n)).set T.length v = T ++ v :: (F.kids x).flatMap (nodesF F.kids (fun i => (P i).2) n) := fun v => by
      rw [List.append_assoc, List.set_append_right _ _ (Nat.le_refl _)]
      simp
    have hsz : ((T ++ [(P x).2] ++ (F.kids x).flatMap (nodesF F.kids (fun i => (P i).2) n)).length : Int) - (T.length : Int) = 1 + (((F.kids x).flatMap (nodesF F.kids (fun i => (P i).2) n)).length : Nat) := by
      simp only [List.length_append, List.length_cons, List.length_nil]
      omega
    have hw : IntKind.wrap .i64 (((T ++ [(P x).2] ++ (F.kids x).flatMap (nodesF F.kids (fun i => (P i).2) n)).length : Int) - (T.length : Int)) = 1 + (((F.kids x).flatMap (nodesF F.kids (fun i => (P i).2) n)).length : Nat) := by
      rw [w64 (by simp only [List.length_append, List.length_cons, List.length_nil, hlN]; omega) (by simp only [List.length_append, List.length_cons, List.length_nil, hlN]; omega), hsz]
    show b_spec_knot_listed (m_spec_knot_listed n) (some x, T, A, F.kst P) = _
    simp only [b_spec_knot_listed, bind_some, hg, hkn, hkp, cond_dec]
    rw [appL_some (by simp; omega)]
    simp only [bind_some]
    by_cases h1 : 0 ≤ (P x).1
    · rw [if_pos h1]
      by_cases h2 : (P x).1 < (A.length : Int)
      · rw [if_pos h2]
        obtain ⟨v, hv⟩ := get_lt (l := A) (k := (P x).1.toNat) (by omega)
        have hv1 : atI A (P x).1 = some v := by
          have : (P x).1 = (((P x).1.toNat : Nat) : Int) := by omega
          rw [this, atI_nat]
          simpa using hv
        rw [hv1, bind_some, hv, bind_some, h0 _ (by simpa using hA), bind_some]
        simp only [atI_nat, Int.toNat_natCast, hget, bind_some, hset, hw]
        simp only [nodesF, idsF, putP]
        rw [if_pos ⟨h1, h2⟩]
      · rw [if_neg h2, h0 _ hA, bind_some]
        simp only [atI_nat, Int.toNat_natCast, hget, bind_some, hset, hw]
        simp only [nodesF, idsF, putP]
        rw [if_neg (fun h => h2 h.2)]
    · rw [if_neg h1, h0 _ hA, bind_some]
      simp only [atI_nat, Int.toNat_natCast, hget, bind_some, hset, hw]
      simp only [nodesF, idsF, putP]
      rw [if_neg (fun h => h1 h.1)]
end
end Go.Proofs.Ytfmlpodcldhgdaa.V
set_option linter.unusedVariables false
set_option linter.unusedSimpArgs false
namespace Go.Proofs.Ytfmlpodcldhgdaa.V
open Go
theorem flat_f2 {α β γ : Type} {R : α → β → Prop} {f : α → List γ} {g : β → List γ} (h : ∀ a b, R a b → f a = g b) : ∀ {l : List α} {m : List β}, F2 R l m → l.flatMap f = m.flatMap g
  | _, _, .nil => rfl
  | _, _, .cons hr t => by rw [List.flatMap_cons, List.flatMap_cons, h _ _ hr, flat_f2 h t]
theorem flat_f2r {α β γ δ : Type} {R : α → β → Prop} {S : γ → δ → Prop} {f : α → List γ} {g : β → List δ} (h : ∀ a b, R a b → F2 S (f a) (g b)) : ∀ {l : List α} {m : List β}, F2 R l m → F2 S (l.flatMap f) (m.flatMap g)
  | _, _, .nil => .nil
  | _, _, .cons hr t => by rw [List.flatMap_cons, List.flatMap_cons]; exact (h _ _ hr).append (flat_f2r h t)
theorem flat_ren {α β γ : Type} {f : β → List γ} {s : α → β} : ∀ {l : List α}, (l.map s).flatMap f = l.flatMap fun a => f (s a)
  | [] => rfl
  | a :: l => by rw [List.map_cons, List.flatMap_cons, List.flatMap_cons, flat_ren]
structure Lb (a b : Node) : Prop where
  kind : a.kind = b.kind
  tag : a.tag = b.tag
  text : a.text = b.text
  attrs : a.attrs = b.attrs
def NdR (t : List Node) (N0 : Nat → Node) (i : Nat) : Node := if i < t.length then N0 i else N0 (i - t.length)
section
variable {t : List Node} {G : Fo} {C : Nat → Nat → Prop} {D : Nat → List Nat} {R : Nat → Nat → Prop} {N N0 : Nat → Node} {lo hi : Nat}
theorem nodes_cpR (hN : ∀ c y, R c y → Lb (N c) (N0 y)) : ∀ {k c x : Nat}, CpR G R (FT t).kids lo hi k c x → ∀ m, nodesF G.kids N m c = nodesF (KD t D) (NdR t N0) m (t.length + x)
  | 0, _, _, h, _ => h.elim
  | k + 1, c, x, _, 0 => rfl
  | k + 1, c, x, ⟨h1, h2, h3⟩, m + 1 => by
    obtain ⟨e1, e2, e3, e4⟩ := hN c x h2
    have hn : NdR t N0 (t.length + x) = N0 x := by
      unfold NdR
      rw [if_neg (by omega)]
      congr 1
      omega
    have hk : KD t D (t.length + x) = ((FT t).kids x).map fun y => t.length + y := by
      unfold KD
      rw [if_neg (by omega)]
      congr 2
      omega
    have hf : (G.kids c).flatMap (nodesF G.kids N m) = (KD t D (t.length + x)).flatMap (nodesF (KD t D) (NdR t N0) m) := by
      rw [hk, flat_ren]
      exact flat_f2 (R := CpR G R (FT t).kids lo hi k) (g := fun a => nodesF (KD t D) (NdR t N0) m (t.length + a)) (fun a b hab => nodes_cpR hN hab m) h3
    simp only [nodesF, hn, hf, e1, e2, e3, e4]
theorem nodesR (h : Rz t G C D) (hC : ∀ c y, t.length ≤ c → C c y → ∃ k, CpR G R (FT t).kids lo hi k c y) (hN : ∀ c y, R c y → Lb (N c) (N0 y)) (hNo : ∀ i, i < t.length → Lb (N i) (N0 i)) : ∀ (m c y : Nat), It t C c y → nodesF G.kids N m c = nodesF (KD t D) (NdR t N0) m y
  | 0, _, _, _ => rfl
  | m + 1, c, y, hi => by
    rcases hi with ⟨h1, rfl⟩ | ⟨h1, h2, h3⟩
    · obtain ⟨e1, e2, e3, e4⟩ := hNo c h1
      have hn : NdR t N0 c = N0 c := if_pos h1
      have hk : KD t D c = D c := if_pos h1
      have hf : (G.kids c).flatMap (nodesF G.kids N m) = (KD t D c).flatMap (nodesF (KD t D) (NdR t N0) m) := by
        rw [hk]
        exact flat_f2 (fun a b hab => nodesR h hC hN hNo m a b hab) (h.kid c h1)
      simp only [nodesF, hn, hf, e1, e2, e3, e4]
    · obtain ⟨k, hk⟩ := hC _ _ h2 h3
      have := nodes_cpR (D := D) hN hk (m + 1)
      rw [this, show t.length + (y - t.length) = y by omega]
def Eqo (t : List Node) (c y : Nat) : Prop := (y < t.length ∧ c = y) ∨ (t.length ≤ y ∧ t.length ≤ c)
theorem ids_cpR (hlo : t.length ≤ lo) : ∀ {k c x : Nat}, CpR G R (FT t).kids lo hi k c x → ∀ m, F2 (Eqo t) (idsF G.kids m c) (idsF (KD t D) m (t.length + x))
  | 0, _, _, h, _ => h.elim
  | k + 1, c, x, _, 0 => .nil
  | k + 1, c, x, ⟨h1, h2, h3⟩, m + 1 => by
    have hk : KD t D (t.length + x) = ((FT t).kids x).map fun y => t.length + y := by
      unfold KD
      rw [if_neg (by omega)]
      congr 2
      omega
    simp only [idsF, hk, flat_ren]
    exact .cons (.inr ⟨by omega, by omega⟩) (flat_f2r (R := CpR G R (FT t).kids lo hi k) (g := fun a => idsF (KD t D) m (t.length + a)) (fun a b hab => ids_cpR hlo hab m) h3)
theorem idsR (hlo : t.length ≤ lo) (h : Rz t G C D) (hC : ∀ c y, t.length ≤ c → C c y → ∃ k, CpR G R (FT t).kids lo hi k c y) : ∀ (m c y : Nat), It t C c y → F2 (Eqo t) (idsF G.kids m c) (idsF (KD t D) m y)
  | 0, _, _, _ => .nil
  | m + 1, c, y, hi => by
    rcases hi with ⟨h1, rfl⟩ | ⟨h1, h2, h3⟩
    · have hk : KD t D c = D c := if_pos h1
      simp only [idsF, hk]
      exact .cons (.inl ⟨h1, rfl⟩) (flat_f2r (fun a b hab => idsR hlo h hC m a b hab) (h.kid c h1))
    · obtain ⟨k, hk⟩ := hC _ _ h2 h3
      have := ids_cpR (D := D) hlo hk (m + 1)
      rwa [show t.length + (y - t.length) = y by omega] at this
theorem posR {i : Nat} (hi : i < t.length) : ∀ {l m : List Nat}, F2 (Eqo t) l m → (i ∈ l ↔ i ∈ m) ∧ l.idxOf i = m.idxOf i
  | _, _, .nil => ⟨Iff.rfl, rfl⟩
  | _, _, .cons (a := a) (b := b) h tl => by
    obtain ⟨h1, h2⟩ := posR hi tl
    have hab : a = i ↔ b = i := by
      rcases h with ⟨_, rfl⟩ | ⟨h3, h4⟩
      · exact Iff.rfl
      · constructor <;> intro e <;> omega
    refine ⟨?_, ?_⟩
    · rw [List.mem_cons, List.mem_cons, h1, eq_comm (a := i) (b := a), eq_comm (a := i) (b := b), hab]
    · rw [List.idxOf_cons, List.idxOf_cons, h2]
      by_cases e : a = i
      · have e1 : (a == i) = true := by simpa using e
        have e2 : (b == i) = true := by simpa using hab.1 e
        rw [e1, e2]
      · have e1 : (a == i) = false := by simpa using e
        have e2 : (b == i) = false := by simpa using fun h => e (hab.2 h)
        rw [e1, e2]
theorem posL_R {l m : List Nat} {i : Nat} (hi : i < t.length) (h : F2 (Eqo t) l m) : posL l i = posL m i := by
  obtain ⟨h1, h2⟩ := posR hi h
  unfold posL
  rw [h2]
  by_cases e : i ∈ l
  · rw [if_pos e, if_pos (h1.1 e)]
  · rw [if_neg e, if_neg fun h => e (h1.2 h)]
def rkR (t : List Node) (G : Fo) (r : Nat → Nat) (i : Nat) : Nat := if i < t.length then r i + G.m + 1 else G.m - i
theorem Rz.rank (h : Rz t G C D) {r : Nat → Nat} (hr : ∀ i, i < t.length → ∀ y ∈ D i, y < t.length → r y < r i) : ∀ x y, y ∈ G.kids x → rkR t G r y < rkR t G r x := fun x y hy => by
  unfold rkR
  have hym := (h.ok.kid hy).2
  by_cases e : x < t.length
  · rw [if_pos e]
    obtain ⟨b, hb, hi⟩ := (h.kid x e).mem_l hy
    rcases hi with ⟨h1, rfl⟩ | ⟨h1, h2, _⟩
    · rw [if_pos h1]
      have := hr x e y hb h1
      omega
    · rw [if_neg (by omega)]
      omega
  · have := h.inc x (by omega) y hy
    rw [if_neg e, if_neg (by omega)]
    omega
theorem Rz.ht (h : Rz t G C D) {r : Nat → Nat} (hr : ∀ i, i < t.length → ∀ y ∈ D i, y < t.length → r y < r i) (hb : ∀ i, r i ≤ 400) (hm : G.m ≤ 900000) {n : Nat} (hn : 1000000 ≤ n) (x : Nat) : Ht G.kids n x := by
  refine ht_rank (h.rank hr) n x ?_
  unfold rkR
  have := hb x
  split <;> omega
theorem Rz.nodup (h : Rz t G C D) {r : Nat → Nat} (hr : ∀ i, i < t.length → ∀ y ∈ D i, y < t.length → r y < r i) (n x : Nat) : (idsF G.kids n x).Nodup := ids_nodup h.ok (h.rank hr) n x
theorem Rz.len (h : Rz t G C D) {r : Nat → Nat} (hr : ∀ i, i < t.length → ∀ y ∈ D i, y < t.length → r y < r i) (n : Nat) {x : Nat} (hx : x < G.m) : (idsF G.kids n x).length ≤ G.m := ids_len h.ok (h.rank hr) n hx
end
theorem putP_get {P : Nat → Int × Node} {T : Nat} : ∀ {l : List Nat} {k : Nat} {A : List Int}, A.length = T → l.Nodup → (∀ z ∈ l, (z < T ∧ (P z).1 = (z : Int)) ∨ (P z).1 = -1 ∧ T ≤ z) → ∀ i, i < T → (putP P l k A)[i]? = if i ∈ l then some ((k + l.idxOf i : Nat) : Int) else A[i]?
  | [], _, _, _, _, _, i, _ => by simp [putP]
  | z :: l, k, A, hA, hn, hP, i, hi => by
    have hn2 := List.nodup_cons.1 hn
    simp only [putP]
    have hget : (if 0 ≤ (P z).1 ∧ (P z).1 < (A.length : Int) then A.set (P z).1.toNat (k : Int) else A)[i]? = if i = z then some (k : Int) else A[i]? := by
      rcases hP z (by simp) with ⟨h1, h2⟩ | ⟨h1, h2⟩
      · rw [if_pos (by rw [h2]; omega), h2, Int.toNat_natCast]
        by_cases e : i = z
        · subst e
          rw [if_pos rfl, List.getElem?_set_self (by omega)]
        · rw [if_neg e, List.getElem?_set_ne (fun h => e h.symm)]
      · rw [if_neg (fun h => by omega), if_neg (by omega)]
    have hlen : (if 0 ≤ (P z).1 ∧ (P z).1 < (A.length : Int) then A.set (P z).1.toNat (k : Int) else A).length = T := by split <;> simp [hA]
    rw [putP_get (l := l) (k := k + 1) hlen hn2.2 (fun w hw => hP w (by simp [hw])) i hi, hget]
    by_cases e : i = z
    · subst e
      rw [if_neg hn2.1, if_pos rfl, if_pos List.mem_cons_self]
      simp
    · have e1 : (z == i) = false := by simpa using fun h => e h.symm
      rw [if_neg e, List.idxOf_cons, e1]
      by_cases e2 : i ∈ l
      · rw [if_pos e2, if_pos (List.mem_cons_of_mem _ e2)]
        congr 2
        show k + 1 + l.idxOf i = k + (l.idxOf i + 1)
        omega
      · rw [if_neg e2, if_neg (fun h => (List.mem_cons.1 h).elim e e2)]
theorem putP_all {P : Nat → Int × Node} {T : Nat} {l : List Nat} (hn : l.Nodup) (hP : ∀ z ∈ l, (z < T ∧ (P z).1 = (z : Int)) ∨ (P z).1 = -1 ∧ T ≤ z) : putP P l 0 (List.replicate T (-1)) = (List.range T).map (posL l) := by
  refine List.ext_getElem? fun i => ?_
  by_cases hi : i < T
  · rw [putP_get (T := T) (by simp) hn hP i hi, List.getElem?_map, List.getElem?_range hi]
    simp only [Option.map_some, posL]
    by_cases e : i ∈ l
    · rw [if_pos e, if_pos e]; simp
    · rw [if_neg e, if_neg e, List.getElem?_replicate, if_pos hi]
  · rw [List.getElem?_eq_none (by rw [putP_len]; simp; omega), List.getElem?_eq_none (by simp; omega)]
end Go.Proofs.Ytfmlpodcldhgdaa.V
set_option linter.unusedVariables false
set_option linter.unusedSimpArgs false
namespace Go.Proofs.Ytfmlpodcldhgdaa.V
open Go
structure ExS (F : Fo) (P : Nat → Int × Node) (G : Fo) (P' : Nat → Int × Node) : Prop where
  ok : G.ok
  m : F.m ≤ G.m
  old : ∀ i, i < F.m → G.up i = F.up i ∧ G.kids i = F.kids i ∧ P' i = P i
  inc : ∀ i, F.m ≤ i → ∀ y ∈ G.kids i, i < y
  neg : ∀ i, F.m ≤ i → i < G.m → (P' i).1 = -1
theorem ExS.trans {F G H : Fo} {P P' P'' : Nat → Int × Node} (h : ExS F P G P') (h' : ExS G P' H P'') : ExS F P H P'' := by
  refine ⟨h'.ok, Nat.le_trans h.m h'.m, fun i hi => ?_, fun i h1 y hy => ?_, fun i h1 h2 => ?_⟩
  · obtain ⟨a, b, c⟩ := h.old i hi
    obtain ⟨a', b', c'⟩ := h'.old i (Nat.lt_of_lt_of_le hi h.m)
    exact ⟨a'.trans a, b'.trans b, c'.trans c⟩
  · by_cases e : i < G.m
    · rw [(h'.old i e).2.1] at hy; exact h.inc i h1 y hy
    · exact h'.inc i (by omega) y hy
  · by_cases e : i < G.m
    · rw [(h'.old i e).2.2]; exact h.neg i h1 e
    · exact h'.neg i (by omega) h2
theorem Fo.add_kst {F : Fo} {P : Nat → Int × Node} {b : Int × Node} : F.kst P ++ [⟨b.1, b.2, none, []⟩] = F.add.kst (upd P F.m b) := by
  unfold Fo.kst
  rw [tab_snoc]
  refine tab_ext fun j hj => ?_
  by_cases e : j = F.m
  · subst e
    rw [upd_same]
    simp [Fo.kn1, Fo.add, upd_same]
  · rw [upd_ne e]
    simp [Fo.kn1, Fo.add, e, upd_ne e]
theorem kst_setK {G : Fo} {P : Nat → Int × Node} {c k : Nat} (hc : c < G.m) (hk : k < G.m) (hck : c ≠ k) :
    ((G.kst P).set k ⟨(P k).1, (P k).2, some c, (G.kids k).map some⟩).set c ⟨(P c).1, (P c).2, G.up c, (G.kids c).map some ++ [some k]⟩ = (G.setK c (G.kids c ++ [k]) k (some c)).kst P := by
  unfold Fo.kst
  rw [tab_set hk, tab_set hc]
  refine tab_ext fun i hi => ?_
  by_cases e1 : i = c
  · subst e1
    simp [upd, Fo.kn1, Fo.setK, hck]
  · by_cases e2 : i = k
    · subst e2
      simp [upd, e1, Fo.kn1, Fo.setK]
    · simp [upd, e1, e2, Fo.kn1, Fo.setK]
section
variable {K : Nat → List Nat} {B : Nat → Node} {Q : Nat → Prop} {m0 : Nat}
abbrev RcS (P : Nat → Int × Node) (B : Nat → Node) (c y : Nat) : Prop := P c = (-1, B y)
structure CoI (K : Nat → List Nat) (B : Nat → Node) (F : Fo) (P : Nat → Int × Node) (a : Int) (ob : Bool) (n x j : Nat) (G : Fo) (P' : Nat → Int × Node) (a' : Int) (ob' : Bool) : Prop where
  ext : ExS F P G P'
  m : (G.m : Int) = F.m + (a' - a)
  up : G.up F.m = none
  len : (G.kids F.m).length = j
  lab : P' F.m = (-1, B x)
  lo : a + 1 ≤ a'
  hi : a' ≤ a + 1 + (((K x).take j).map (szK K n)).sum
  mono : ob = true → ob' = true
  lim : (600 < a → ob = true) → 600 < a' → ob' = true
  cp : ob' = false → F2 (CpR G (RcS P' B) K (F.m + 1) G.m n) (G.kids F.m) ((K x).take j) ∧ a' = a + 1 + (((K x).take j).map (szK K n)).sum
def Cod (K : Nat → List Nat) (B : Nat → Node) (F : Fo) (P : Nat → Int × Node) (a : Int) (ob : Bool) (ks : List (Option Nat)) (n x : Nat) (o : Option (Option Nat × (PUnit × Int × Bool) × List (Option Nat) × List KN)) : Prop :=
  ∃ G P' a' ob', o = some (some F.m, ((), a', ob'), ks, G.kst P') ∧ ExS F P G P' ∧ G.up F.m = none ∧ (G.m : Int) = F.m + (a' - a) ∧ a + 1 ≤ a' ∧ a' ≤ a + szK K n x ∧ (ob = true → ob' = true) ∧ ((600 < a → ob = true) → 600 < a' → ob' = true) ∧
    (ob' = false → CpR G (RcS P' B) K F.m G.m n F.m x ∧ a' = a + szK K n x)
theorem szK_le {K : Nat → List Nat} {n x j : Nat} : (((K x).take j).map (szK K n)).sum ≤ ((K x).map (szK K n)).sum := by
  conv => rhs; rw [← List.take_append_drop j (K x)]
  rw [List.map_append, List.sum_append]
  omega
theorem copied_loop {n x : Nat} {ks : List (Option Nat)} (hx : Q x) (hQ : ∀ y, Q y → ∀ z ∈ K y, Q z) (hm0 : ∀ y, Q y → y < m0) (hKl : ∀ y, Q y → (K y).length ≤ 1000000)
    (ih : ∀ y ∈ K x, ∀ (F : Fo) (P : Nat → Int × Node) (a : Int) (ob : Bool), F.ok → m0 ≤ F.m → (∀ y, Q y → F.kids y = K y ∧ (P y).2 = B y) → 0 ≤ a → a + szK K n y ≤ 1000000000 → Cod K B F P a ob ks n y (m_spec_forest_copied n (((), a, ob), some y, ks, F.kst P)))
    {F : Fo} {P : Nat → Int × Node} {a : Int} {ob : Bool} (hm : m0 ≤ F.m) (hs : ∀ y, Q y → F.kids y = K y ∧ (P y).2 = B y) (ha : 0 ≤ a) (hal : a + 1 + ((K x).map (szK K n)).sum ≤ 1000000000) :
    ∀ (d j : Nat) (G : Fo) (P' : Nat → Int × Node) (a' : Int) (ob' : Bool), (K x).length - j = d → j ≤ (K x).length → CoI K B F P a ob n x j G P' a' ob' →
      ∃ H P'' a'' ob'', loopO (m_spec_forest_copied_0 (m_spec_forest_copied n)) (((), a', ob'), some x, some F.m, (j : Int), G.kst P', ks) = some (((), a'', ob''), some F.m, H.kst P'', ks) ∧ CoI K B F P a ob n x (K x).length H P'' a'' ob'' := by
  have hxm := hm0 x hx
  have hkl := hKl x hx
  intro d
  induction d with
  | zero =>
    intro j G P' a' ob' hd hj hI
    obtain rfl : j = (K x).length := by omega
    have hxG : x < G.m := by have := hI.ext.m; omega
    have hg := Fo.kget (F := G) (P := P') hxG
    have hk : (G.kn1 P' x).kids = (K x).map some := by
      show (G.kids x).map some = _
      rw [(hI.ext.old x (by omega)).2.1, (hs x hx).1]
    refine ⟨G, P', a', ob', loopO_out ?_, hI⟩
    simp only [m_spec_forest_copied_0, bind_some, hg, hk, cond_dec, List.length_map]
    rw [if_neg (by omega)]
  | succ d ihd =>
    intro j G P' a' ob' hd hj hI
    obtain ⟨y, hy⟩ := get_lt (l := K x) (k := j) (by omega)
    have hym := List.mem_of_getElem? hy
    have hsum := szK_le (K := K) (n := n) (x := x) (j := j + 1)
    have e1 : (K x).take (j + 1) = (K x).take j ++ [y] := by rw [List.take_add_one, hy]; rfl
    rw [e1, List.map_append, List.sum_append] at hsum
    simp only [List.map_cons, List.map_nil, List.sum_cons, List.sum_nil] at hsum
    have hhi := hI.hi
    have hlo := hI.lo
    have hGm := hI.m
    have hext := hI.ext.m
    obtain ⟨G1, P1, a1, ob1, q1, q2, q3, q4, q5, q6, q7, q8, q9⟩ := ih y hym G P' a' ob' hI.ext.ok (by omega) (fun z hz => by
      obtain ⟨b1, b2, b3⟩ := hI.ext.old z (by have := hm0 z hz; omega)
      rw [b2, b3]; exact hs z hz) (by omega) (by omega)
    have hxG : x < G.m := by omega
    have hg := Fo.kget (F := G) (P := P') hxG
    have hk : (G.kn1 P' x).kids = (K x).map some := by
      show (G.kids x).map some = _
      rw [(hI.ext.old x (by omega)).2.1, (hs x hx).1]
    have hky : ((K x).map some)[j]? = some (some y) := by rw [List.getElem?_map, hy]; rfl
    have hc : F.m < G.m := by omega
    have hck : F.m ≠ G.m := by omega
    have g1 := Fo.kget (F := G1) (P := P1) (i := G.m) (by omega)
    have g2 : ((G1.kst P1).set G.m ⟨(P1 G.m).1, (P1 G.m).2, some F.m, (G1.kids G.m).map some⟩)[F.m]? = some (G1.kn1 P1 F.m) := by
      rw [List.getElem?_set_ne (Ne.symm hck)]
      exact Fo.kget (by omega)
    have hkc : G1.kids F.m = G.kids F.m := (q2.old F.m hc).2.1
    have hset := kst_setK (G := G1) (P := P1) (c := F.m) (k := G.m) (by omega) (by omega) hck
    have hlen := hI.len
    have step : m_spec_forest_copied_0 (m_spec_forest_copied n) (((), a', ob'), some x, some F.m, (j : Int), G.kst P', ks) = some (.nx (((), a1, ob1), some x, some F.m, ((j + 1 : Nat) : Int), (G1.setK F.m (G1.kids F.m ++ [G.m]) G.m (some F.m)).kst P1, ks)) := by
      simp only [m_spec_forest_copied_0, bind_some, hg, hk, cond_dec, List.length_map, atI_nat, Int.toNat_natCast, hky, q1, g1]
      rw [if_pos (by omega)]
      have e2 : ({ pl := (G1.kn1 P1 G.m).pl, n := (G1.kn1 P1 G.m).n, up := some F.m, kids := (G1.kn1 P1 G.m).kids } : KN) = ⟨(P1 G.m).1, (P1 G.m).2, some F.m, (G1.kids G.m).map some⟩ := rfl
      simp only [e2, g2, bind_some]
      have hkk : (G1.kn1 P1 F.m).kids = (G1.kids F.m).map some := rfl
      rw [hkk, appL_some (by rw [hkc]; simp; omega), bind_some]
      simp only [if_true]
      have e3 : KN.wk (G1.kn1 P1 F.m) ((G1.kids F.m).map some ++ [some G.m]) = ⟨(P1 F.m).1, (P1 F.m).2, G1.up F.m, (G1.kids F.m).map some ++ [some G.m]⟩ := rfl
      rw [e3, hset, w64 (by omega) (by omega)]
      rfl
    rw [loopO_nx step]
    have hsp := Sp.ins (A := G1.kids F.m) (B := []) q2.ok (p := F.m) (c := G.m) (by omega) (by omega) q3 hck (by simp)
    have hok := hsp.okF
    refine ihd (j + 1) _ P1 a1 ob1 (by omega) (by omega) ⟨⟨hok, by show F.m ≤ G1.m; omega, fun i hi => ?_, fun i h1 z hz => ?_, fun i h1 h2 => ?_⟩, ?_, ?_, ?_, ?_, ?_, ?_, ?_, ?_, fun h => ?_⟩
    · have b1 : i ≠ F.m := by omega
      have b2 : i ≠ G.m := by omega
      obtain ⟨c1, c2, c3⟩ := q2.old i (by omega)
      obtain ⟨d1, d2, d3⟩ := hI.ext.old i hi
      simp only [Fo.setK, if_neg b1, if_neg b2]
      exact ⟨c1.trans d1, c2.trans d2, c3.trans d3⟩
    · simp only [Fo.setK] at hz
      by_cases e : i = F.m
      · rw [if_pos e] at hz
        rcases List.mem_append.1 hz with hz | hz
        · rw [hkc] at hz
          have := hI.ext.inc F.m (Nat.le_refl _) z hz
          omega
        · have := List.mem_singleton.1 hz
          omega
      · rw [if_neg e] at hz
        by_cases e2 : i < G.m
        · rw [(q2.old i e2).2.1] at hz; exact hI.ext.inc i h1 z hz
        · exact q2.inc i (by omega) z hz
    · by_cases e2 : i < G.m
      · rw [(q2.old i e2).2.2]; exact hI.ext.neg i h1 e2
      · exact q2.neg i (by omega) h2
    · show (G1.m : Int) = _
      omega
    · simp only [Fo.setK, if_neg hck]
      rw [(q2.old F.m hc).1]; exact hI.up
    · simp only [Fo.setK, if_true, hkc, List.length_append, List.length_singleton, hlen]
    · rw [(q2.old F.m hc).2.2]; exact hI.lab
    · omega
    · rw [e1, List.map_append, List.sum_append]
      simp only [List.map_cons, List.map_nil, List.sum_cons, List.sum_nil]
      omega
    · exact fun h => q7 (hI.mono h)
    · exact fun h h2 => q8 (hI.lim h) h2
    · have hob' : ob' = false := by
        cases ob' with
        | false => rfl
        | true => rw [q7 rfl] at h; cases h
      obtain ⟨k1, k2⟩ := hI.cp hob'
      obtain ⟨k3, k4⟩ := q9 h
      simp only [Fo.setK, if_true, hkc]
      refine ⟨?_, ?_⟩
      · rw [e1]
        refine (k1.imp fun c z _ _ hcz => CpR.mono (Q := fun _ => True) (Nat.le_refl _) (by show G.m ≤ G1.m; omega) (fun i h1 h2 => ?_) (fun i z h1 h2 _ hr => ?_) (fun _ _ => rfl) (fun _ _ _ _ => trivial) trivial hcz).append (.cons (CpR.mono (Q := fun _ => True) (by omega) (Nat.le_refl _) (fun i h1 h2 => ?_) (fun i z h1 h2 _ hr => hr) (fun _ _ => rfl) (fun _ _ _ _ => trivial) trivial k3) .nil)
        · have b1 : i ≠ F.m := by omega
          simp only [if_neg b1]
          exact (q2.old i h2).2.1
        · show P1 i = _
          rw [(q2.old i h2).2.2]; exact hr
        · have b1 : i ≠ F.m := by omega
          simp only [if_neg b1]
      · rw [e1, List.map_append, List.sum_append]
        simp only [List.map_cons, List.map_nil, List.sum_cons, List.sum_nil]
        omega
theorem copied_eq {ks : List (Option Nat)} (hQ : ∀ y, Q y → ∀ z ∈ K y, Q z) (hm0 : ∀ y, Q y → y < m0) (hKl : ∀ y, Q y → (K y).length ≤ 1000000) (hB : ∀ y, Q y → (B y).attrs.length ≤ 1000000) :
    ∀ (n x : Nat) (F : Fo) (P : Nat → Int × Node) (a : Int) (ob : Bool), Q x → Ht K n x → F.ok → m0 ≤ F.m → (∀ y, Q y → F.kids y = K y ∧ (P y).2 = B y) → 0 ≤ a → a + szK K n x ≤ 1000000000 → Cod K B F P a ob ks n x (m_spec_forest_copied n (((), a, ob), some x, ks, F.kst P))
  | 0, _, _, _, _, _, _, h, _, _, _, _, _ => h.elim
  | n + 1, x, F, P, a, ob, hx, hh, hF, hm, hs, ha, hal => by
    have hxm := hm0 x hx
    have hg := Fo.kget (F := F) (P := P) (i := x) (by omega)
    have hn : (F.kn1 P x).n = B x := (hs x hx).2
    have hlen : (F.kst P).length = F.m := tab_len
    have hadd := Fo.add_kst (F := F) (P := P) (b := (-1, B x))
    simp only [szK] at hal
    have hEx : ExS F P F.add (upd P F.m (-1, B x)) := by
      refine ⟨hF.add, by show F.m ≤ F.m + 1; omega, fun i hi => ?_, fun i h1 y hy => ?_, fun i h1 (h2 : i < F.m + 1) => ?_⟩
      · have e : i ≠ F.m := by omega
        simp only [Fo.add, if_neg e, upd_ne e]
        exact ⟨trivial, trivial, trivial⟩
      · simp only [Fo.add] at hy
        by_cases e : i = F.m
        · rw [if_pos e] at hy; cases hy
        · rw [if_neg e] at hy
          have := hF.up (hF.kid hy).1
          omega
      · have e : i = F.m := by omega
        rw [e, upd_same]
    show Cod K B F P a ob ks (n + 1) x (b_spec_forest_copied (m_spec_forest_copied n) (((), a, ob), some x, ks, F.kst P))
    simp only [b_spec_forest_copied, cond_dec]
    rw [w64 (n := a + 1) (by omega) (by omega)]
    by_cases h6 : 600 < a + 1
    · rw [if_pos h6]
      simp only [bind_some, hg, hn, hlen]
      rw [hadd]
      refine ⟨F.add, upd P F.m (-1, B x), a + 1, true, rfl, hEx, by simp [Fo.add], by show ((F.m + 1 : Nat) : Int) = _; omega, by omega, by simp only [szK]; omega, fun _ => rfl, fun _ _ => rfl, fun h => by cases h⟩
    · rw [if_neg h6]
      have hgx : (F.kst P ++ [⟨-1, B x, none, []⟩])[x]? = some (F.kn1 P x) := by rw [List.getElem?_append_left (by omega), hg]
      have hgm : (F.kst P ++ [⟨-1, B x, none, []⟩])[F.m]? = some ⟨-1, B x, none, []⟩ := by rw [List.getElem?_append_right (by omega), hlen]; simp
      have hsetm : (F.add.kst (upd P F.m (-1, B x))).set F.m ({ pl := -1, n := { kind := (B x).kind, tag := (B x).tag, text := (B x).text, attrs := (B x).attrs, size := (B x).size }, up := none, kids := [] } : KN) = F.add.kst (upd P F.m (-1, B x)) := by
        show (F.add.kst (upd P F.m (-1, B x))).set F.m (⟨-1, B x, none, []⟩ : KN) = _
        rw [← hadd, List.set_append_right _ _ (by omega), hlen]
        simp
      have hI : CoI K B F P a ob n x 0 F.add (upd P F.m (-1, B x)) (a + 1) ob := by
        refine ⟨hEx, by show ((F.m + 1 : Nat) : Int) = _; omega, by simp [Fo.add], by simp [Fo.add], upd_same, by omega, by simp, id, fun h h2 => ?_, fun h => ⟨by simp only [Fo.add, if_true, List.take_zero]; exact .nil, by simp⟩⟩
        omega
      obtain ⟨H, P'', a'', ob'', l1, l2⟩ := copied_loop (ks := ks) hx hQ hm0 hKl (fun y hy F' P' a' ob' b1 b2 b3 b4 b5 => copied_eq hQ hm0 hKl hB n y F' P' a' ob' (hQ x hx y hy) (hh y hy) b1 b2 b3 b4 b5) hm hs ha (by omega) _ 0 _ _ _ _ rfl (Nat.zero_le _) hI
      simp only [bind_some, hg, hn, hlen, hgx]
      rw [appL_some (by have := hB x hx; simp; omega)]
      simp only [bind_some, hgm, List.nil_append]
      rw [hadd, hsetm]
      have l1' : loopO (m_spec_forest_copied_0 (m_spec_forest_copied n)) (((), a + 1, ob), some x, some F.m, (0 : Int), F.add.kst (upd P F.m (-1, B x)), ks) = _ := l1
      rw [l1', bind_some]
      have hhi := l2.hi
      rw [List.take_length] at hhi
      refine ⟨H, P'', a'', ob'', rfl, l2.ext, l2.up, l2.m, by have := l2.lo; omega, by simp only [szK]; omega, l2.mono, l2.lim, fun h => ?_⟩
      obtain ⟨k1, k2⟩ := l2.cp h
      rw [List.take_length] at k1 k2
      have := l2.m
      have := l2.lo
      refine ⟨⟨⟨Nat.le_refl _, by omega⟩, l2.lab, k1.imp fun c z _ _ hcz => CpR.mono (Q := fun _ => True) (by omega) (Nat.le_refl _) (fun _ _ _ => rfl) (fun _ _ _ _ _ h => h) (fun _ _ => rfl) (fun _ _ _ _ => trivial) trivial hcz⟩, by simp only [szK]; omega⟩
end
end Go.Proofs.Ytfmlpodcldhgdaa.V
set_option linter.unusedVariables false
set_option linter.unusedSimpArgs false
namespace Go.Proofs.Ytfmlpodcldhgdaa.V
open Go
theorem loop_each {X B : Type} {body : X → Option (Stp X B)} {st : Nat → X} {n : Nat} {good bad : B} {p : Nat → Prop} (h : ∀ k, k < n → body (st k) = some (.out bad) ∨ (body (st k) = some (.nx (st (k + 1))) ∧ p k)) (he : body (st n) = some (.out good)) :
    ∀ k, k ≤ n → ∃ y, loopO body (st k) = some y ∧ (y = bad ∨ (y = good ∧ ∀ j, k ≤ j → j < n → p j)) := by
  have key : ∀ d k, n - k = d → k ≤ n → ∃ y, loopO body (st k) = some y ∧ (y = bad ∨ (y = good ∧ ∀ j, k ≤ j → j < n → p j)) := by
    intro d
    induction d with
    | zero =>
      intro k hd hk
      obtain rfl : k = n := by omega
      exact ⟨_, loopO_out he, .inr ⟨rfl, fun j h1 h2 => by omega⟩⟩
    | succ d ih =>
      intro k hd hk
      rcases h k (by omega) with h1 | ⟨h1, h2⟩
      · exact ⟨_, loopO_out h1, .inl rfl⟩
      · obtain ⟨y, g1, g2⟩ := ih (k + 1) (by omega) (by omega)
        refine ⟨y, by rw [loopO_nx h1]; exact g1, g2.imp id fun ⟨e, g3⟩ => ⟨e, fun j j1 j2 => ?_⟩⟩
        by_cases e2 : j = k
        · subst e2; exact h2
        · exact g3 j (by omega) j2
  exact fun k hk => key _ k rfl hk
theorem map_some_get {l : List Nat} {i c : Nat} (h : l[i]? = some c) : (l.map some)[i]? = some (some c) := by rw [List.getElem?_map, h]; rfl
section
variable {t : List Node} {P : Nat → Int × Node} {ws on : List Nat}
theorem apart_a (hR : RT t) (hw : ∀ c ∈ ws, c < t.length) (hlen : ws.length ≤ 1000000) (on : List Nat) {i a : Nat} (hi : ws[i]? = some a) :
    ∃ y, loopO m_spec_apart_0_0 (ws.map some, on.map some, (i : Int), (0 : Int), (FT t).kst P) = some y ∧ (y = .inr (false, (FT t).kst P) ∨ (y = .inl (ws.map some, on.map some, (i : Int), (FT t).kst P) ∧ ∀ k, 0 ≤ k → k < ws.length → ∀ c, ws[k]? = some c → k ≠ i → ¬ Hld t a c)) := by
  refine loop_each (body := m_spec_apart_0_0) (st := fun k => (ws.map some, on.map some, (i : Int), (k : Int), (FT t).kst P)) (n := ws.length) (p := fun k => ∀ c, ws[k]? = some c → k ≠ i → ¬ Hld t a c) (fun k hk => ?_) ?_ 0 (Nat.zero_le _)
  · obtain ⟨c, hc⟩ := get_lt hk
    have ha' := hw a (List.mem_of_getElem? hi)
    have hc' := hw c (List.mem_of_getElem? hc)
    simp only [m_spec_apart_0_0, cond_dec, atI_nat, map_some_get hi, map_some_get hc, bind_some, holds_eq hR P ha' hc']
    rw [if_pos (by simp; omega)]
    by_cases e : k = i
    · rw [if_neg (by simp [e]), w64 (by omega) (by omega)]
      exact .inr ⟨rfl, fun _ _ h => absurd e h⟩
    · rw [if_pos (by omega)]
      by_cases h : a ≤ c ∧ c < a + sz t a
      · rw [if_pos h]; exact .inl rfl
      · rw [if_neg h, w64 (by omega) (by omega)]
        refine .inr ⟨rfl, fun c' hc' _ => ?_⟩
        rw [hc] at hc'
        cases hc'
        exact h
  · simp only [m_spec_apart_0_0, cond_dec]
    rw [if_neg (by simp)]
theorem apart_b (hR : RT t) (hw : ∀ c ∈ ws, c < t.length) (ho : ∀ c ∈ on, c < t.length) (hlen : on.length ≤ 1000000) {i a : Nat} (hi : ws[i]? = some a) :
    ∃ y, loopO m_spec_apart_0_1 (ws.map some, on.map some, (i : Int), (0 : Int), (FT t).kst P) = some y ∧ (y = .inr (false, (FT t).kst P) ∨ (y = .inl (ws.map some, on.map some, (i : Int), (FT t).kst P) ∧ ∀ k, 0 ≤ k → k < on.length → ∀ c, on[k]? = some c → ¬ Hld t a c)) := by
  refine loop_each (body := m_spec_apart_0_1) (st := fun k => (ws.map some, on.map some, (i : Int), (k : Int), (FT t).kst P)) (n := on.length) (p := fun k => ∀ c, on[k]? = some c → ¬ Hld t a c) (fun k hk => ?_) ?_ 0 (Nat.zero_le _)
  · obtain ⟨c, hc⟩ := get_lt hk
    have ha' := hw a (List.mem_of_getElem? hi)
    have hc' := ho c (List.mem_of_getElem? hc)
    simp only [m_spec_apart_0_1, cond_dec, atI_nat, map_some_get hi, map_some_get hc, bind_some, holds_eq hR P ha' hc']
    rw [if_pos (by simp; omega)]
    by_cases h : a ≤ c ∧ c < a + sz t a
    · rw [if_pos h]; exact .inl rfl
    · rw [if_neg h, w64 (by omega) (by omega)]
      refine .inr ⟨rfl, fun c' hc' => ?_⟩
      rw [hc] at hc'
      cases hc'
      exact h
  · simp only [m_spec_apart_0_1, cond_dec]
    rw [if_neg (by simp)]
theorem apart_ex (hR : RT t) (hw : ∀ c ∈ ws, c < t.length) (ho : ∀ c ∈ on, c < t.length) (hl1 : ws.length ≤ 1000000) (hl2 : on.length ≤ 1000000) :
    ∃ b, m_spec_apart (ws.map some, on.map some, (FT t).kst P) = some b ∧ (b = true → (∀ i k a c : Nat, ws[i]? = some a → ws[k]? = some c → k ≠ i → ¬ Hld t a c) ∧ ∀ a ∈ ws, ∀ c ∈ on, ¬ Hld t a c) := by
  obtain ⟨y, h1, h2⟩ := loop_each (body := m_spec_apart_0) (st := fun k => (ws.map some, on.map some, (k : Int), (FT t).kst P)) (n := ws.length) (good := .inl ((FT t).kst P)) (bad := .inr (false, (FT t).kst P))
    (p := fun i => ∀ a, ws[i]? = some a → (∀ k, 0 ≤ k → k < ws.length → ∀ c, ws[k]? = some c → k ≠ i → ¬ Hld t a c) ∧ ∀ k, 0 ≤ k → k < on.length → ∀ c, on[k]? = some c → ¬ Hld t a c) (fun i hi => by
      obtain ⟨a, ha⟩ := get_lt hi
      obtain ⟨y, g1, g2⟩ := apart_a (P := P) hR hw hl1 on ha
      obtain ⟨z, k1, k2⟩ := apart_b (P := P) hR hw ho hl2 ha
      simp only [m_spec_apart_0, cond_dec]
      rw [if_pos (by simp; omega), g1, bind_some]
      rcases g2 with rfl | ⟨rfl, g3⟩
      · exact .inl rfl
      · simp only [selim]
        rw [k1, bind_some]
        rcases k2 with rfl | ⟨rfl, k3⟩
        · exact .inl rfl
        · simp only [selim]
          rw [w64 (by omega) (by omega)]
          refine .inr ⟨rfl, fun a' ha' => ?_⟩
          rw [ha] at ha'
          cases ha'
          exact ⟨g3, k3⟩) (by
      simp only [m_spec_apart_0, cond_dec]
      rw [if_neg (by simp)]) 0 (Nat.zero_le _)
  have h1' : loopO m_spec_apart_0 (ws.map some, on.map some, (0 : Int), (FT t).kst P) = some y := h1
  simp only [m_spec_apart, h1', bind_some]
  rcases h2 with rfl | ⟨rfl, h3⟩
  · exact ⟨false, rfl, fun h => by cases h⟩
  · refine ⟨true, rfl, fun _ => ⟨fun i k a c ha hc hk => ?_, fun a ha c hc => ?_⟩⟩
    · exact (h3 i (Nat.zero_le _) (List.getElem?_eq_some_iff.1 ha).1 a ha).1 k (Nat.zero_le _) (List.getElem?_eq_some_iff.1 hc).1 c hc hk
    · obtain ⟨i, hi⟩ := List.mem_iff_getElem?.1 ha
      obtain ⟨k, hk⟩ := List.mem_iff_getElem?.1 hc
      exact (h3 i (Nat.zero_le _) (List.getElem?_eq_some_iff.1 hi).1 a hi).2 k (Nat.zero_le _) (List.getElem?_eq_some_iff.1 hk).1 c hk
end
section
variable {F : Fo} {P : Nat → Int × Node} {on : List Nat}
theorem stand_ex (ho : ∀ c ∈ on, c < F.m) (hl : on.length ≤ 1000000) : ∃ b, m_spec_stand (on.map some, F.kst P) = some b ∧ (b = true → ∀ c ∈ on, ∃ p, F.up c = some p) := by
  obtain ⟨y, h1, h2⟩ := loop_each (body := m_spec_stand_0) (st := fun k => (on.map some, (k : Int), F.kst P)) (n := on.length) (good := .inl (F.kst P)) (bad := .inr (false, F.kst P)) (p := fun i => ∀ a, on[i]? = some a → ∃ p, F.up a = some p) (fun i hi => by
      obtain ⟨a, ha⟩ := get_lt hi
      have hg := Fo.kget (F := F) (P := P) (ho a (List.mem_of_getElem? ha))
      simp only [m_spec_stand_0, cond_dec, atI_nat, map_some_get ha, bind_some, hg]
      rw [if_pos (by simp; omega)]
      have hu : (F.kn1 P a).up = F.up a := rfl
      rw [hu]
      cases hup : F.up a with
      | none => exact .inl rfl
      | some p =>
        simp only [Option.isNone_some, cond_false]
        rw [w64 (by omega) (by omega)]
        refine .inr ⟨rfl, fun a' ha' => ?_⟩
        rw [ha] at ha'
        cases ha'
        exact ⟨p, hup⟩) (by
      simp only [m_spec_stand_0, cond_dec]
      rw [if_neg (by simp)]) 0 (Nat.zero_le _)
  have h1' : loopO m_spec_stand_0 (on.map some, (0 : Int), F.kst P) = some y := h1
  simp only [m_spec_stand, h1', bind_some]
  rcases h2 with rfl | ⟨rfl, h3⟩
  · exact ⟨false, rfl, fun h => by cases h⟩
  · refine ⟨true, rfl, fun _ a ha => ?_⟩
    obtain ⟨i, hi⟩ := List.mem_iff_getElem?.1 ha
    exact h3 i (Nat.zero_le _) (List.getElem?_eq_some_iff.1 hi).1 a hi
theorem are_ex (ho : ∀ c ∈ on, c < F.m) (hl : on.length ≤ 1000000) : ∃ b, m_spec_are (on.map some, F.kst P) = some b ∧ (b = true → ∀ c ∈ on, (P c).2.kind = 3) := by
  obtain ⟨y, h1, h2⟩ := loop_each (body := m_spec_are_0) (st := fun k => (on.map some, (k : Int), F.kst P)) (n := on.length) (good := .inl (F.kst P)) (bad := .inr (false, F.kst P)) (p := fun i => ∀ a, on[i]? = some a → (P a).2.kind = 3) (fun i hi => by
      obtain ⟨a, ha⟩ := get_lt hi
      have hg := Fo.kget (F := F) (P := P) (ho a (List.mem_of_getElem? ha))
      simp only [m_spec_are_0, cond_dec, atI_nat, map_some_get ha, bind_some, hg]
      rw [if_pos (by simp; omega)]
      have hu : (F.kn1 P a).n = (P a).2 := rfl
      rw [hu]
      by_cases e : (P a).2.kind = 3
      · rw [if_neg (by simp [e]), w64 (by omega) (by omega)]
        refine .inr ⟨rfl, fun a' ha' => ?_⟩
        rw [ha] at ha'
        cases ha'
        exact e
      · rw [if_pos e]; exact .inl rfl) (by
      simp only [m_spec_are_0, cond_dec]
      rw [if_neg (by simp)]) 0 (Nat.zero_le _)
  have h1' : loopO m_spec_are_0 (on.map some, (0 : Int), F.kst P) = some y := h1
  simp only [m_spec_are, h1', bind_some]
  rcases h2 with rfl | ⟨rfl, h3⟩
  · exact ⟨false, rfl, fun h => by cases h⟩
  · refine ⟨true, rfl, fun _ a ha => ?_⟩
    obtain ⟨i, hi⟩ := List.mem_iff_getElem?.1 ha
    exact h3 i (Nat.zero_le _) (List.getElem?_eq_some_iff.1 hi).1 a hi
end
end Go.Proofs.Ytfmlpodcldhgdaa.V
set_option linter.unusedVariables false
set_option linter.unusedSimpArgs false
namespace Go.Proofs.Ytfmlpodcldhgdaa.V
open Go
section
variable {t : List Node} {p x : Nat} {A B cs : List Nat}
end
end Go.Proofs.Ytfmlpodcldhgdaa.V
set_option linter.unusedVariables false
set_option linter.unusedSimpArgs false
namespace Go.Proofs.Ytfmlpodcldhgdaa.V
open Go
theorem chosen_in (a : Int) (b : Bool) {on : List Int} (r ks : List (Option Nat)) {i : Nat} (hi : i < on.length) (hlen : on.length ≤ 2147483647) : ∀ d j : Nat, i - j = d → j ≤ i →
    ∃ y, loopO m_spec_forest_chosen_0_0 (((), a, b), on, r, (i : Int), (j : Int), ks) = some y ∧ (y = .inr (((), a, b), [], false, ks) ∨ (y = .inl (((), a, b), on, r, (i : Int), ks) ∧ ∀ k : Nat, j ≤ k → k < i → on[k]? ≠ on[i]?)) := by
  intro d
  induction d with
  | zero =>
    intro j hd hj
    refine ⟨_, loopO_out (b := .inl (((), a, b), on, r, (i : Int), ks)) ?_, .inr ⟨rfl, fun k h1 h2 => by omega⟩⟩
    simp only [m_spec_forest_chosen_0_0, cond_dec]
    rw [if_neg (by omega)]
  | succ d ih =>
    intro j hd hj
    obtain ⟨v, hv⟩ := get_lt (l := on) (k := j) (by omega)
    obtain ⟨w, hw⟩ := get_lt (l := on) (k := i) hi
    by_cases e : v = w
    · refine ⟨_, loopO_out (b := .inr (((), a, b), [], false, ks)) ?_, .inl rfl⟩
      simp only [m_spec_forest_chosen_0_0, cond_dec, atI_nat, hv, hw, bind_some]
      rw [if_pos (by omega), if_pos e]
    · have step : m_spec_forest_chosen_0_0 (((), a, b), on, r, (i : Int), (j : Int), ks) = some (.nx (((), a, b), on, r, (i : Int), ((j + 1 : Nat) : Int), ks)) := by
        simp only [m_spec_forest_chosen_0_0, cond_dec, atI_nat, hv, hw, bind_some]
        rw [if_pos (by omega), if_neg e, w64 (by omega) (by omega)]
        rfl
      obtain ⟨y, h1, h2⟩ := ih (j + 1) (by omega) (by omega)
      refine ⟨y, by rw [loopO_nx step]; exact h1, h2.imp id fun ⟨g1, g2⟩ => ⟨g1, fun k k1 k2 => ?_⟩⟩
      by_cases e2 : k = j
      · subst e2
        rw [hv, hw]
        exact fun h => e (Option.some.inj h)
      · exact g2 k (by omega) k2
theorem chosen_ex (a : Int) (b : Bool) {on : List Int} {n : Nat} (hlen : on.length ≤ 2147483647) : ∀ d i : Nat, on.length - i = d → i ≤ on.length → (∀ (k : Nat) (v : Int), k < i → on[k]? = some v → 1 ≤ v ∧ v < n) → (∀ k l : Nat, k < l → l < i → on[k]? ≠ on[l]?) →
    ∃ y, loopO m_spec_forest_chosen_0 (((), a, b), on, (on.take i).map (fun v => some v.toNat), (i : Int), (List.range n).map some) = some y ∧ (y = .inr (((), a, b), [], false, (List.range n).map some) ∨ (y = .inl (((), a, b), on.map (fun v => some v.toNat), (List.range n).map some) ∧ (∀ (k : Nat) (v : Int), on[k]? = some v → 1 ≤ v ∧ v < n) ∧ ∀ k l : Nat, k < l → l < on.length → on[k]? ≠ on[l]?)) := by
  intro d
  induction d with
  | zero =>
    intro i hd hi h1 h2
    obtain rfl : i = on.length := by omega
    refine ⟨_, loopO_out (b := .inl (((), a, b), on.map (fun v => some v.toNat), (List.range n).map some)) ?_, .inr ⟨rfl, fun k v hk => h1 k v (List.getElem?_eq_some_iff.1 hk).1 hk, h2⟩⟩
    simp only [m_spec_forest_chosen_0, cond_dec]
    rw [if_neg (by omega), List.take_of_length_le (Nat.le_refl _)]
  | succ d ih =>
    intro i hd hi h1 h2
    obtain ⟨v, hv⟩ := get_lt (l := on) (k := i) (by omega)
    by_cases e1 : v < 1
    · refine ⟨_, loopO_out (b := .inr (((), a, b), [], false, (List.range n).map some)) ?_, .inl rfl⟩
      simp only [m_spec_forest_chosen_0, cond_dec, atI_nat, hv, bind_some]
      rw [if_pos (by omega), if_pos e1]
    by_cases e2 : (n : Int) ≤ v
    · refine ⟨_, loopO_out (b := .inr (((), a, b), [], false, (List.range n).map some)) ?_, .inl rfl⟩
      simp only [m_spec_forest_chosen_0, cond_dec, atI_nat, hv, bind_some, List.length_map, List.length_range]
      rw [if_pos (by omega), if_neg e1, if_pos e2]
    obtain ⟨x, rfl⟩ := Int.eq_ofNat_of_zero_le (show 0 ≤ v by omega)
    obtain ⟨y, g1, g2⟩ := chosen_in a b ((on.take i).map fun v => some v.toNat) ((List.range n).map some) (i := i) (by omega) hlen i 0 (by omega) (Nat.zero_le _)
    have g1' : loopO m_spec_forest_chosen_0_0 (((), a, b), on, (on.take i).map (fun v => some v.toNat), (i : Int), (0 : Int), (List.range n).map some) = some y := g1
    rcases g2 with rfl | ⟨rfl, g3⟩
    · refine ⟨_, loopO_out (b := .inr (((), a, b), [], false, (List.range n).map some)) ?_, .inl rfl⟩
      simp only [m_spec_forest_chosen_0, cond_dec, atI_nat, hv, bind_some, List.length_map, List.length_range]
      rw [if_pos (by omega), if_neg e1, if_neg e2, g1']
      rfl
    · have hr : ((List.range n).map some)[x]? = some (some x) := by
        have : x < n := by omega
        simp [this]
      have step : m_spec_forest_chosen_0 (((), a, b), on, (on.take i).map (fun v => some v.toNat), (i : Int), (List.range n).map some) = some (.nx (((), a, b), on, (on.take (i + 1)).map (fun v => some v.toNat), ((i + 1 : Nat) : Int), (List.range n).map some)) := by
        simp only [m_spec_forest_chosen_0, cond_dec, atI_nat, hv, bind_some, List.length_map, List.length_range]
        rw [if_pos (by omega), if_neg e1, if_neg e2, g1']
        simp only [bind_some, selim, atI_nat, hv, hr, Int.toNat_natCast]
        rw [appL_some (by simp; omega), bind_some, w64 (by omega) (by omega), List.take_add_one, hv]
        simp
      rw [loopO_nx step]
      refine ih (i + 1) (by omega) (by omega) (fun k w hk hw => ?_) (fun k l hkl hl => ?_)
      · by_cases e : k = i
        · subst e
          rw [hv] at hw
          cases hw
          omega
        · exact h1 k w (by omega) hw
      · by_cases e : l = i
        · subst e; exact g3 k (Nat.zero_le _) hkl
        · exact h2 k l hkl (by omega)
end Go.Proofs.Ytfmlpodcldhgdaa.V
set_option linter.unusedVariables false
set_option linter.unusedSimpArgs false
namespace Go.Proofs.Ytfmlpodcldhgdaa.V
open Go
theorem cuts_eq {F : Fo} {P : Nat → Int × Node} (a : Int) (b : Bool) (ks : List (Option Nat)) {l : List Nat} (hF : F.ok) (hl : ∀ i, (F.kids i).length ≤ 1000000) (hm : ∀ c ∈ l, c < F.m) (hlen : l.length ≤ 1000000) :
    ∀ d j : Nat, l.length - j = d → j ≤ l.length → loopO m_spec_forest_insert_1 (((), a, b), l.map some, (j : Int), (F.off (l.take j)).kst P, ks) = some (((), a, b), (F.off l).kst P, ks) := by
  intro d
  induction d with
  | zero =>
    intro j hd hj
    refine loopO_out ?_
    simp only [m_spec_forest_insert_1, cond_dec]
    rw [if_neg (by simp; omega), List.take_of_length_le (by omega)]
  | succ d ih =>
    intro j hd hj
    obtain ⟨c, hc⟩ := get_lt (l := l) (k := j) (by omega)
    have hg : (l.map some)[j]? = some (some c) := by rw [List.getElem?_map, hc]; rfl
    have hcut := cut_off (P := P) (off_ok (l := l.take j) hF) (hm c (List.mem_of_getElem? hc)) (fun i => Nat.le_trans (off_len i) (hl i))
    have e1 : l.take j ++ [c] = l.take (j + 1) := by rw [List.take_add_one, hc]; rfl
    rw [off_off, e1] at hcut
    have step : m_spec_forest_insert_1 (((), a, b), l.map some, (j : Int), (F.off (l.take j)).kst P, ks) = some (.nx (((), a, b), l.map some, ((j + 1 : Nat) : Int), (F.off (l.take (j + 1))).kst P, ks)) := by
      simp only [m_spec_forest_insert_1, cond_dec, atI_nat, hg, bind_some, hcut]
      rw [if_pos (by simp; omega), w64 (by omega) (by omega)]
      rfl
    rw [loopO_nx step]
    exact ih (j + 1) (by omega) (by omega)
end Go.Proofs.Ytfmlpodcldhgdaa.V
set_option linter.unusedVariables false
set_option linter.unusedSimpArgs false
namespace Go.Proofs.Ytfmlpodcldhgdaa.V
open Go
theorem chosen_nat (a : Int) (bb : Bool) {on : List Int} {n : Nat} (hlen : on.length ≤ 2147483647) : ∃ r b, m_spec_forest_chosen (((), a, bb), on, (List.range n).map some) = some (r, b, ((), a, bb), (List.range n).map some) ∧ (b = true → ∃ l : List Nat, on = intsN l ∧ r = l.map some ∧ (∀ c ∈ l, 1 ≤ c ∧ c < n) ∧ l.Nodup) := by
  obtain ⟨y, h1, h2⟩ := chosen_ex a bb (on := on) (n := n) hlen on.length 0 rfl (Nat.zero_le _) (fun k v h => absurd h (by omega)) (fun k l _ h => absurd h (by omega))
  have h1' : loopO m_spec_forest_chosen_0 (((), a, bb), on, [], (0 : Int), (List.range n).map some) = some y := h1
  simp only [m_spec_forest_chosen, h1', bind_some]
  rcases h2 with rfl | ⟨rfl, g1, g2⟩
  · exact ⟨_, _, rfl, fun h => by cases h⟩
  · refine ⟨_, _, rfl, fun _ => ⟨on.map Int.toNat, ?_, ?_, ?_, ?_⟩⟩
    · unfold intsN
      rw [List.map_map]
      refine ((List.map_congr_left fun v hv => ?_).trans (List.map_id on)).symm
      obtain ⟨k, hk⟩ := List.mem_iff_getElem?.1 hv
      have := g1 k v hk
      simp only [Function.comp_apply, id_eq]
      show ((v.toNat : Nat) : Int) = v
      omega
    · rw [List.map_map]; rfl
    · intro c hc
      obtain ⟨v, hv, rfl⟩ := List.mem_map.1 hc
      obtain ⟨k, hk⟩ := List.mem_iff_getElem?.1 hv
      have := g1 k v hk
      omega
    · unfold List.Nodup
      rw [List.pairwise_map, List.pairwise_iff_getElem]
      intro i j hi hj hij e
      have := g2 i j hij hj
      rw [List.getElem?_eq_getElem hi, List.getElem?_eq_getElem hj] at this
      have b1 := g1 i _ (List.getElem?_eq_getElem hi)
      have b2 := g1 j _ (List.getElem?_eq_getElem hj)
      exact this (by congr 1; omega)
section
variable {F G : Fo} {P : Nat → Int × Node} {p c x : Nat} {A B l : List Nat}
theorem cutl_eq (a : Int) (b : Bool) (op : Int) (ks on : List (Option Nat)) {i : Nat} (hi : on.length = i + 1) (hi2 : i ≤ 1000000) (hF : F.ok) (hl : ∀ i, (F.kids i).length ≤ 1000000) (hm : ∀ c ∈ l, c < F.m) (hlen : l.length ≤ 1000000) :
    ∀ d j : Nat, l.length - j = d → j ≤ l.length → loopO m_spec_forest_insert_0_0 (((), a, b), op, on, l.map some, (i : Int), (l.take j).map some, (j : Int), (F.off (l.take j)).kst P, ks) = some (((), a, b), op, on, l.map some, (i : Int), l.map some, (F.off l).kst P, ks) := by
  intro d
  induction d with
  | zero =>
    intro j hd hj
    refine loopO_out ?_
    simp only [m_spec_forest_insert_0_0, cond_dec]
    rw [if_neg (by simp; omega), List.take_of_length_le (by omega)]
  | succ d ih =>
    intro j hd hj
    obtain ⟨c, hc⟩ := get_lt (l := l) (k := j) (by omega)
    have hcut := cut_off (P := P) (off_ok (l := l.take j) hF) (hm c (List.mem_of_getElem? hc)) (fun i => Nat.le_trans (off_len i) (hl i))
    have e1 : l.take j ++ [c] = l.take (j + 1) := by rw [List.take_add_one, hc]; rfl
    rw [off_off, e1] at hcut
    have step : m_spec_forest_insert_0_0 (((), a, b), op, on, l.map some, (i : Int), (l.take j).map some, (j : Int), (F.off (l.take j)).kst P, ks) = some (.nx (((), a, b), op, on, l.map some, (i : Int), (l.take (j + 1)).map some, ((j + 1 : Nat) : Int), (F.off (l.take (j + 1))).kst P, ks)) := by
      simp only [m_spec_forest_insert_0_0, cond_dec, atI_nat, map_some_get hc, bind_some, hcut]
      rw [if_pos (by simp; omega), w64 (n := (on.length : Int) - 1) (by omega) (by omega), if_neg (by omega), appL_some (by simp; omega), bind_some, w64 (by omega) (by omega), ← e1]
      simp
    rw [loopO_nx step]
    exact ih (j + 1) (by omega) (by omega)
theorem ins_loop (a : Int) (b : Bool) (ks : List (Option Nat)) (hF : F.ok) (hp : p < F.m) (hk : F.kids p = A ++ B) (h1 : ∀ c ∈ l, c < F.m ∧ F.up c = none ∧ p ≠ c) (hn : l.Nodup) (hlen : A.length + l.length + B.length ≤ 1000000) :
    ∀ d j : Nat, l.length - j = d → j ≤ l.length → loopO m_spec_forest_inserted_0 (((), a, b), l.map some, some p, (A.length : Int), (j : Int), (F.hang p A (l.take j) B).kst P, ks) = some (((), a, b), (F.hang p A l B).kst P, ks) := by
  intro d
  induction d with
  | zero =>
    intro j hd hj
    refine loopO_out ?_
    simp only [m_spec_forest_inserted_0, cond_dec]
    rw [if_neg (by simp; omega), List.take_of_length_le (by omega)]
  | succ d ih =>
    intro j hd hj
    obtain ⟨c, hc⟩ := get_lt (l := l) (k := j) (by omega)
    have hcm := h1 c (List.mem_of_getElem? hc)
    have e1 : l.take j ++ [c] = l.take (j + 1) := by rw [List.take_add_one, hc]; rfl
    have hn1 : (l.take (j + 1)).Nodup := (List.take_sublist _ _).nodup hn
    have hcl : c ∉ l.take j := fun h => by
      rw [← e1, List.nodup_append] at hn1
      exact hn1.2.2 c h c (by simp) rfl
    have hok : (F.hang p A (l.take j) B).ok := hang_ok hF hp hk _ (fun d hd => h1 d (List.mem_of_mem_take hd)) ((List.take_sublist _ _).nodup hn)
    have hsp := hang_sp hok hp hcm.1 hcm.2.1 hcm.2.2 hcl
    have hu : (F.hang p A (l.take j) B).up c = none := by
      simp only [Fo.hang, if_neg hcl]; exact hcm.2.1
    have hkl : ((F.hang p A (l.take j ++ [c]) B).kids p).length ≤ 1000000 := by
      simp only [Fo.hang, if_true, List.length_append, List.length_take, List.length_cons, List.length_nil]; omega
    have hput := put_eq (P := P) (cut_none (F := F.hang p A (l.take j) B) hcm.1 hu) hsp hkl
    rw [e1] at hput
    have e2 : ((A ++ l.take j).length : Int) = (A.length : Int) + (j : Int) := by simp; omega
    rw [e2] at hput
    have step : m_spec_forest_inserted_0 (((), a, b), l.map some, some p, (A.length : Int), (j : Int), (F.hang p A (l.take j) B).kst P, ks) = some (.nx (((), a, b), l.map some, some p, (A.length : Int), ((j + 1 : Nat) : Int), (F.hang p A (l.take (j + 1)) B).kst P, ks)) := by
      simp only [m_spec_forest_inserted_0, cond_dec, atI_nat, map_some_get hc, bind_some]
      rw [if_pos (by simp; omega), w64 (n := (A.length : Int) + (j : Int)) (by omega) (by omega), hput, bind_some, w64 (by omega) (by omega)]
      rfl
    rw [loopO_nx step]
    exact ih (j + 1) (by omega) (by omega)
theorem inserted_pre (a : Int) (b : Bool) (ks : List (Option Nat)) (hF : F.ok) (hp : p < F.m) (hk : F.kids p = B) (h1 : ∀ c ∈ l, c < F.m ∧ F.up c = none ∧ p ≠ c) (hn : l.Nodup) (hlen : l.length + B.length ≤ 1000000) :
    m_spec_forest_inserted (((), a, b), 2, some p, l.map some, ks, F.kst P) = some (((), a, b), ks, (F.hang p [] l B).kst P) := by
  have h := ins_loop (P := P) (A := []) a b ks hF hp (by rw [hk]; rfl) h1 hn (by simpa using hlen) l.length 0 rfl (Nat.zero_le _)
  rw [List.take_zero, hang_nil (by rw [hk]; rfl)] at h
  have h' : loopO m_spec_forest_inserted_0 (((), a, b), l.map some, some p, (0 : Int), (0 : Int), F.kst P, ks) = _ := h
  simp only [m_spec_forest_inserted, cond_dec]
  rw [if_neg (by decide), if_neg (by decide), if_neg (by decide), if_neg (by decide), h', bind_some]
theorem inserted_aft {op : Int} (hop : op = 3 ∨ op = 5) (a : Int) (b : Bool) (ks : List (Option Nat)) (hF : F.ok) (hp : p < F.m) (hx : x < F.m) (hu : F.up x = some p) (hk : F.kids p = (A ++ [x]) ++ B) (h1 : ∀ c ∈ l, c < F.m ∧ F.up c = none ∧ p ≠ c) (hn : l.Nodup) (hlen : A.length + 1 + l.length + B.length ≤ 1000000) :
    m_spec_forest_inserted (((), a, b), op, some x, l.map some, ks, F.kst P) = some (((), a, b), ks, (F.hang p (A ++ [x]) l B).kst P) := by
  have h := ins_loop (P := P) (A := A ++ [x]) a b ks hF hp hk h1 hn (by simpa using hlen) l.length 0 rfl (Nat.zero_le _)
  rw [List.take_zero, hang_nil hk] at h
  have hsp : Sp F (F.setK p (A ++ B) x none) p x A B := ⟨hF, hp, hx, hu, by rw [hk]; simp, rfl⟩
  have hpl := place_eq (P := P) hsp (by rw [hk]; simp; omega)
  have e : IntKind.wrap .i64 ((A.length : Int) + 1) = ((A ++ [x]).length : Int) := by rw [w64 (by omega) (by omega)]; simp
  have hg := Fo.kget (F := F) (P := P) hx
  have hup : (F.kn1 P x).up = some p := hu
  have h' : loopO m_spec_forest_inserted_0 (((), a, b), l.map some, some p, ((A ++ [x]).length : Int), (0 : Int), F.kst P, ks) = _ := h
  simp only [m_spec_forest_inserted, cond_dec, bind_some, hg, hpl, hup, e, h']
  rcases hop with rfl | rfl
  · rw [if_neg (by decide), if_pos rfl]
  · rw [if_neg (by decide), if_neg (by decide), if_pos rfl]
end
section
variable {t : List Node} {o : Nat} {ws : List Nat} {a : Int} {ks : List (Option Nat)}
theorem mv_of (hR : RT t) {p x : Nat} (hw : ∀ c ∈ ws, 1 ≤ c ∧ c < t.length) (hn : ws.Nodup) (h1 : ∀ i k a c : Nat, ws[i]? = some a → ws[k]? = some c → k ≠ i → ¬ Hld t a c) (h2 : ∀ d ∈ ws, ¬ Hld t d p) : Mv t p ws := by
  refine ⟨⟨fun v hv => (hw v hv).2, hn⟩, h2, fun d hd e he hde => ?_⟩
  obtain ⟨i, hi⟩ := List.mem_iff_getElem?.1 hd
  obtain ⟨k, hk⟩ := List.mem_iff_getElem?.1 he
  by_cases e2 : k = i
  · subst e2
    rw [hi] at hk
    exact Option.some.inj hk
  · exact absurd hde (h1 i k d e hi hk e2)
theorem ws_len (hR : RT t) (hw : ∀ c ∈ ws, 1 ≤ c ∧ c < t.length) (hn : ws.Nodup) : ws.length ≤ 200 := Ds.len ⟨fun v hv => (hw v hv).2, hn⟩ hR.len
theorem ft_klen (hR : RT t) (i : Nat) : ((FT t).kids i).length ≤ 200 := by
  by_cases e : i < t.length
  · rw [ft_kids e]
    have h1 : (kidsN t i).length ≤ sz t i := kidsF_len
    have := hR.le e
    have := hR.len
    omega
  · simp only [FT, if_neg e]; simp
theorem off_up_none {F : Fo} {c : Nat} (h : c ∈ ws) : (F.off ws).up c = none := if_pos h
end
end Go.Proofs.Ytfmlpodcldhgdaa.V
set_option linter.unusedVariables false
set_option linter.unusedSimpArgs false
namespace Go.Proofs.Ytfmlpodcldhgdaa.V
open Go
def befA (x : Nat) : List Nat → List Nat
  | [] => []
  | a :: l => if a = x then [a] else a :: befA x l
def aftA (x : Nat) : List Nat → List Nat
  | [] => []
  | a :: l => if a = x then l else aftA x l
theorem split_first {x : Nat} : ∀ {l : List Nat}, x ∈ l → ∃ A B, l = A ++ x :: B ∧ x ∉ A ∧ befA x l = A ++ [x] ∧ aftA x l = B
  | a :: l, h => by
    by_cases e : a = x
    · subst e
      exact ⟨[], l, rfl, by simp, by simp [befA], by simp [aftA]⟩
    · have hm : x ∈ l := (List.mem_cons.1 h).resolve_left fun h => e h.symm
      obtain ⟨A, B, e1, e2, e3, e4⟩ := split_first hm
      refine ⟨a :: A, B, by rw [e1]; rfl, fun h => (List.mem_cons.1 h).elim (fun h => e h.symm) e2, ?_, ?_⟩
      · simp only [befA, if_neg e, e3]; rfl
      · simp only [aftA, if_neg e, e4]
theorem bef_mk {x : Nat} {B : List Nat} : ∀ {A : List Nat}, x ∉ A → befA x (A ++ x :: B) = A ++ [x] ∧ aftA x (A ++ x :: B) = B
  | [], _ => by simp [befA, aftA]
  | a :: A, h => by
    simp only [List.mem_cons, not_or] at h
    obtain ⟨h1, h2⟩ := bef_mk (B := B) h.2
    have e : ¬ a = x := fun h' => h.1 h'.symm
    simp only [List.cons_append, befA, aftA, if_neg e, h1, h2]
    exact ⟨trivial, trivial⟩
def parN (t : List Node) (x : Nat) : Nat := (par t x).getD 0
def plD (t : List Node) (op x : Nat) : Nat := if op = 3 then parN t x else x
def befD (t : List Node) (op x : Nat) (D : Nat → List Nat) : List Nat := if op = 1 then D x else if op = 2 then [] else befA x (D (parN t x))
def aftD (t : List Node) (op x : Nat) (D : Nat → List Nat) : List Nat := if op = 1 then [] else if op = 2 then D x else aftA x (D (parN t x))
def stD (t : List Node) (op x : Nat) (new : List Nat) (D : Nat → List Nat) : Nat → List Nat := upd D (plD t op x) (befD t op x D ++ new ++ aftD t op x D)
def fiD (l : List Nat) (D : Nat → List Nat) : Nat → List Nat := fun i => (D i).filter fun j => decide (j ∉ l)
def nwl (op : Nat) (l : List Nat) : List Nat := if op = 1 then l else l.reverse
structure Tg (t : List Node) (op x : Nat) (D : Nat → List Nat) : Prop where
  kd : op = 1 ∨ op = 2 ∨ op = 3
  lt : x < t.length
  p : op = 3 → ∃ p, par t x = some p ∧ x ∈ D p
theorem upd_upd {α : Type} {f : Nat → α} {i : Nat} {v w : α} : upd (upd f i v) i w = upd f i w := by
  funext j
  simp only [upd]
  split <;> rfl
section
variable {t : List Node} {D : Nat → List Nat} {op x y : Nat} {l new : List Nat}
theorem Tg.pl (h : Tg t op x D) : plD t op x < t.length := by
  unfold plD
  split
  · rename_i e
    obtain ⟨p, hp, _⟩ := h.p e
    have := (par_some hp).1
    have := h.lt
    simp only [parN, hp, Option.getD_some]
    omega
  · exact h.lt
theorem Tg.all (h : Tg t op x D) : D (plD t op x) = befD t op x D ++ aftD t op x D := by
  rcases h.kd with rfl | rfl | rfl
  · simp [plD, befD, aftD]
  · simp [plD, befD, aftD]
  · obtain ⟨p, hp, hm⟩ := h.p rfl
    simp only [plD, befD, aftD, parN, hp, Option.getD_some, if_true]
    rw [if_neg (by decide), if_neg (by decide), if_neg (by decide), if_neg (by decide)]
    obtain ⟨A, B, e1, e2, e3, e4⟩ := split_first hm
    rw [e3, e4, e1]; simp
theorem stD_more (h : Tg t op x D) (hn : x ∉ new) : stD t op x [y] (stD t op x (nwl op new) D) = stD t op x (nwl op (new ++ [y])) D := by
  rcases h.kd with rfl | rfl | rfl
  · simp [stD, plD, befD, aftD, nwl, upd_upd, upd_same]
  · simp [stD, plD, befD, aftD, nwl, upd_upd, upd_same]
  · obtain ⟨p, hp, hm⟩ := h.p rfl
    obtain ⟨A, B, e1, e2, e3, e4⟩ := split_first hm
    have e5 : befA x (A ++ [x] ++ new.reverse ++ B) = A ++ [x] ∧ aftA x (A ++ [x] ++ new.reverse ++ B) = new.reverse ++ B := by
      rw [show A ++ [x] ++ new.reverse ++ B = A ++ x :: (new.reverse ++ B) by simp]
      exact bef_mk e2
    have f3 : ¬ (3 : Nat) = 1 := by decide
    have f4 : ¬ (3 : Nat) = 2 := by decide
    simp only [stD, plD, befD, aftD, nwl, parN, hp, Option.getD_some, if_true, if_neg f3, if_neg f4, upd_upd, upd_same, e3, e4, e5.1, e5.2]
    simp
theorem Tg.st (h : Tg t op x D) {op' x' : Nat} (h' : Tg t op' x' D) : Tg t op' x' (stD t op x new D) := by
  refine ⟨h'.kd, h'.lt, fun e => ?_⟩
  obtain ⟨p, hp, hm⟩ := h'.p e
  refine ⟨p, hp, ?_⟩
  unfold stD
  by_cases e2 : p = plD t op x
  · subst e2
    rw [upd_same]
    rw [h.all] at hm
    rcases List.mem_append.1 hm with hm | hm <;> simp [hm]
  · rw [upd_ne e2]; exact hm
theorem Tg.fi (h : Tg t op x D) (hx : x ∉ l) : Tg t op x (fiD l D) := by
  refine ⟨h.kd, h.lt, fun e => ?_⟩
  obtain ⟨p, hp, hm⟩ := h.p e
  exact ⟨p, hp, filt_mem.2 ⟨hm, hx⟩⟩
theorem fiD_nil : fiD [] D = D := by
  funext i
  simp [fiD]
theorem fiD_fiD {m : List Nat} : fiD m (fiD l D) = fiD (l ++ m) D := by
  funext i
  simp only [fiD, List.filter_filter]
  refine List.filter_congr fun j _ => ?_
  simp only [List.mem_append, not_or, Bool.decide_and]
  exact Bool.and_comm _ _
theorem filter_not {X : List Nat} {l : List Nat} (h : ∀ z ∈ X, z ∉ l) : X.filter (fun j => decide (j ∉ l)) = X := filt_all h
theorem bef_filter {l : List Nat} (hx : x ∉ l) : ∀ {X : List Nat}, befA x (X.filter fun j => decide (j ∉ l)) = (befA x X).filter (fun j => decide (j ∉ l)) ∧ aftA x (X.filter fun j => decide (j ∉ l)) = (aftA x X).filter fun j => decide (j ∉ l)
  | [] => ⟨rfl, rfl⟩
  | a :: X => by
    obtain ⟨h1, h2⟩ := bef_filter (X := X) hx
    by_cases e : a = x
    · subst e
      simp [befA, aftA, hx]
    · have e3 : befA x (a :: X) = a :: befA x X ∧ aftA x (a :: X) = aftA x X := by simp [befA, aftA, e]
      by_cases e2 : a ∈ l
      · rw [List.filter_cons_of_neg (by simpa using e2), h1, h2, e3.1, e3.2, List.filter_cons_of_neg (by simpa using e2)]
        exact ⟨rfl, rfl⟩
      · rw [List.filter_cons_of_pos (by simpa using e2), e3.1, e3.2, List.filter_cons_of_pos (by simpa using e2), ← h1, ← h2]
        simp [befA, aftA, e]
theorem stD_move (h : Tg t op x D) (hx : x ∉ l ++ [y]) (hy : y ∉ l) : stD t op x [y] (fiD [y] (stD t op x (nwl op l) (fiD l D))) = stD t op x (nwl op (l ++ [y])) (fiD (l ++ [y]) D) := by
  have hxl : x ∉ l := fun h => hx (by simp [h])
  have hxy : x ∉ [y] := fun h => hx (by simp at h; simp [h])
  have hT := h.fi hxl
  have e1 : fiD [y] (stD t op x (nwl op l) (fiD l D)) = stD t op x (nwl op l) (fiD (l ++ [y]) D) := by
    rw [← fiD_fiD]
    funext i
    have hnl : (nwl op l).filter (fun j => decide (j ∉ [y])) = nwl op l := filter_not fun z hz e => by
      have hzy := List.mem_singleton.1 e
      subst hzy
      unfold nwl at hz
      split at hz
      · exact hy hz
      · exact hy (List.mem_reverse.1 hz)
    have hb : befD t op x (fiD [y] (fiD l D)) = (befD t op x (fiD l D)).filter (fun j => decide (j ∉ [y])) ∧ aftD t op x (fiD [y] (fiD l D)) = (aftD t op x (fiD l D)).filter (fun j => decide (j ∉ [y])) := by
      rcases h.kd with rfl | rfl | rfl
      · exact ⟨rfl, rfl⟩
      · exact ⟨rfl, rfl⟩
      · exact bef_filter hxy
    show (stD t op x (nwl op l) (fiD l D) i).filter _ = _
    unfold stD
    by_cases e : i = plD t op x
    · subst e
      rw [upd_same, upd_same, hb.1, hb.2, List.filter_append, List.filter_append, hnl]
    · rw [upd_ne e, upd_ne e]; rfl
  rw [e1]
  exact stD_more (h.fi hx) hxl
end
noncomputable def mPut : Nat → Option Nat × Option Nat × List HN → Option (List HN)
  | 1 => m_goquery_Selection_AppendNodes_1
  | 2 => m_goquery_Selection_PrependNodes_1
  | _ => m_goquery_Selection_AfterNodes_1
section
variable {t : List Node} {G : Fo} {L : Nat → HN} {C C' : Nat → Nat → Prop} {D : Nat → List Nat} {op x y c p : Nat} {A B : List Nat}
theorem setK_hang : G.setK p (A ++ c :: B) c (some p) = G.hang p A [c] B := by
  refine Fo.ext rfl (fun i => ?_) (fun i => ?_)
  · simp [Fo.setK, Fo.hang]
  · simp [Fo.setK, Fo.hang]
theorem Rz.imp (h : Rz t G C D) (hC : ∀ c y, t.length ≤ c → C c y → C' c y) : Rz t G C' D := ⟨h.ok, h.le, h.inc, fun i hi => (h.kid i hi).imp fun _ _ _ _ h => h.imp hC⟩
theorem put1 (hz : Rz t G C D) (hT : Tg t op x D) (hc : c < G.m) (hu : G.up c = none) (hpc : plD t op x ≠ c) (hI : It t C c y) :
    ∃ A B, G.kids (plD t op x) = A ++ B ∧ mPut op (some x, some c, G.st L) = some ((G.hang (plD t op x) A [c] B).st L) ∧ Rz t (G.hang (plD t op x) A [c] B) C (stD t op x [y] D) := by
  have hp := hT.pl
  have key : ∀ A B A' B', G.kids (plD t op x) = A ++ B → F2 (It t C) A A' → F2 (It t C) B B' → befD t op x D = A' → aftD t op x D = B' → mPut op (some x, some c, G.st L) = some ((G.hang (plD t op x) A [c] B).st L) →
      ∃ A B, G.kids (plD t op x) = A ++ B ∧ mPut op (some x, some c, G.st L) = some ((G.hang (plD t op x) A [c] B).st L) ∧ Rz t (G.hang (plD t op x) A [c] B) C (stD t op x [y] D) := fun A B A' B' h1 h2 h3 h4 h5 h6 => by
    refine ⟨A, B, h1, h6, ?_⟩
    unfold stD
    rw [h4, h5]
    exact hz.hang hp h1 h2 h3 (.cons hI .nil) (fun d hd => by rw [List.mem_singleton.1 hd]; exact ⟨hc, hu, hpc⟩) (by simp) (fun _ _ _ h => h)
  have hpm : plD t op x < G.m := Nat.lt_of_lt_of_le hp hz.le
  have hop := hT.kd
  rcases hop with rfl | rfl | rfl
  · have hx : x < t.length := hT.lt
    have hs := Sp.ins (A := G.kids x) (B := []) hz.ok hpm hc hu hpc (by simp [plD])
    refine key (G.kids x) [] (D x) [] (by simp [plD]) (hz.kid x hx) .nil rfl rfl ?_
    show m_goquery_Selection_AppendNodes_1 (some x, some c, G.st L) = _
    have e := append_eq (L := L) hs
    have e' : m_html_Node_AppendChild (some x, some c, G.st L) = _ := e
    simp only [m_goquery_Selection_AppendNodes_1, e', bind_some, setK_hang]
  · have hx : x < t.length := hT.lt
    have hs := Sp.ins (A := []) (B := G.kids x) hz.ok hpm hc hu hpc (by simp [plD])
    refine key [] (G.kids x) [] (D x) (by simp [plD]) .nil (hz.kid x hx) rfl rfl ?_
    show m_goquery_Selection_PrependNodes_1 (some x, some c, G.st L) = _
    have e := prepend1 (L := L) hs
    have e' : m_goquery_Selection_PrependNodes_1 (some x, some c, G.st L) = _ := e
    rw [e', setK_hang]
  · obtain ⟨q, hq, hm⟩ := hT.p rfl
    have hpl : plD t 3 x = q := by simp [plD, parN, hq]
    have hpn : parN t x = q := by simp [parN, hq]
    rw [hpl] at hp hpm hpc key ⊢
    obtain ⟨A', B', e1, e2, e3, e4⟩ := split_first hm
    obtain ⟨A, B, g1, g2, g3⟩ := hz.at hp hT.lt e1
    have hk : G.kids q = (A ++ [x]) ++ B := by rw [g1]; simp
    have hs := Sp.ins (A := A ++ [x]) (B := B) hz.ok hpm hc hu hpc hk
    have f3 : ¬ (3 : Nat) = 1 := by decide
    have f4 : ¬ (3 : Nat) = 2 := by decide
    refine key (A ++ [x]) B (A' ++ [x]) B' hk (g2.append (.cons (.orig hT.lt) .nil)) g3 (by simp only [befD, if_neg f3, if_neg f4, hpn, e3]) (by simp only [aftD, if_neg f3, if_neg f4, hpn, e4]) ?_
    show m_goquery_Selection_AfterNodes_1 (some x, some c, G.st L) = _
    rw [after1 hs, setK_hang]
end
end Go.Proofs.Ytfmlpodcldhgdaa.V
set_option linter.unusedVariables false
set_option linter.unusedSimpArgs false
namespace Go.Proofs.Ytfmlpodcldhgdaa.V
open Go
def CI (t : List Node) (G : Fo) (M : Nat → HN) (c y : Nat) : Prop := ∃ k, CpR G (fun c y => cpl (M c) (bs0 t y)) (FT t).kids t.length G.m k c y
structure Im (t : List Node) (G : Fo) (M : Nat → HN) (D : Nat → List Nat) : Prop where
  rz : Rz t G (CI t G M) D
  lab : ∀ i, i < t.length → M i = bs0 t i
  att : ∀ i, i < G.m → (M i).attrs.length ≤ 1000000
def Sub (t : List Node) (ws : List Nat) (G : Fo) : Prop := ∀ y, (∃ w ∈ ws, Hld t w y) → G.kids y = (FT t).kids y
theorem Ht.congr {K K' : Nat → List Nat} {Q : Nat → Prop} (hK : ∀ y, Q y → K' y = K y) (hQ : ∀ y, Q y → ∀ z ∈ K y, Q z) : ∀ {n x : Nat}, Q x → Ht K n x → Ht K' n x
  | 0, _, _, h => h
  | n + 1, x, hx, h => fun y hy => by
    rw [hK x hx] at hy
    exact Ht.congr hK hQ (hQ x hx y hy) (h y hy)
theorem szK_congr {K K' : Nat → List Nat} {Q : Nat → Prop} (hK : ∀ y, Q y → K' y = K y) (hQ : ∀ y, Q y → ∀ z ∈ K y, Q z) : ∀ {n x : Nat}, Q x → szK K' n x = szK K n x
  | 0, _, _ => rfl
  | n + 1, x, hx => by
    simp only [szK, hK x hx]
    congr 2
    exact List.map_congr_left fun y hy => szK_congr hK hQ (hQ x hx y hy)
section
variable {t : List Node} {G H : Fo} {M N : Nat → HN} {D : Nat → List Nat} {op x y c p w : Nat} {A B l ws : List Nat}
theorem hld_kids (hR : RT t) (hw : w < t.length) {z : Nat} (hy : Hld t w y) (hz : z ∈ (FT t).kids y) : Hld t w z := hld_down hR hw (kid_facts hR hz).2.2.2.2 hy
theorem CI.hang (hp : p < t.length) {c y : Nat} (h : CI t G M c y) : CI t (G.hang p A l B) M c y := by
  obtain ⟨k, hk⟩ := h
  refine ⟨k, CpR.mono (Q := fun _ => True) (Nat.le_refl _) (Nat.le_refl _) (fun i h1 h2 => ?_) (fun _ _ _ _ _ h => h) (fun _ _ => rfl) (fun _ _ _ _ => trivial) trivial hk⟩
  have : i ≠ p := by omega
  simp only [Fo.hang, if_neg this]
theorem CI.off (hi : ∀ c, t.length ≤ c → ∀ y ∈ G.kids c, c < y) (hl : ∀ c ∈ l, c < t.length) {c y : Nat} (h : CI t G M c y) : CI t (G.off l) M c y := by
  obtain ⟨k, hk⟩ := h
  refine ⟨k, CpR.mono (Q := fun _ => True) (Nat.le_refl _) (Nat.le_refl _) (fun i h1 h2 => ?_) (fun _ _ _ _ _ h => h) (fun _ _ => rfl) (fun _ _ _ _ => trivial) trivial hk⟩
  exact filt_all fun y hy h => by
    have := hi i h1 y hy
    have := hl y h
    omega
theorem CI.lt (h : CI t G M c y) : t.length ≤ c ∧ c < G.m := by
  obtain ⟨k, hk⟩ := h
  cases k with
  | zero => exact hk.elim
  | succ k => exact hk.1
theorem CI.ext (h : Ext G M H N) {c y : Nat} (hc : CI t G M c y) : CI t H N c y := by
  obtain ⟨k, hk⟩ := hc
  refine ⟨k, CpR.mono (Q := fun _ => True) (Nat.le_refl _) h.m (fun i _ h2 => (h.old i h2).2.1) (fun i z _ h2 _ hr => ?_) (fun _ _ => rfl) (fun _ _ _ _ => trivial) trivial hk⟩
  rw [(h.old i h2).2.2]; exact hr
theorem Im.copy (hR : RT t) {n : Nat} (hn : 1000000 ≤ n) (h : Im t G M D) (hs : Sub t ws G) (hw : w ∈ ws) (hwl : w < t.length) (hT : Tg t op x D) (hpw : ¬ ∃ w ∈ ws, Hld t w (plD t op x)) :
    ∃ (H1 H : Fo) (N : Nat → HN), m_goquery_cloneNode n (some w, G.st M) = some (some G.m, H1.st N) ∧ mPut op (some x, some G.m, H1.st N) = some (H.st N) ∧ Im t H N (stD t op x [t.length + w] D) ∧ Sub t ws H ∧ H.m = G.m + sz t w := by
  have hlen := hR.len
  have hle := hR.le hwl
  have hQ : ∀ y, Hld t w y → ∀ z ∈ (FT t).kids y, Hld t w z := fun y hy z hz => hld_kids hR hwl hy hz
  have hK : ∀ y, Hld t w y → G.kids y = (FT t).kids y := fun y hy => hs y ⟨w, hw, hy⟩
  have hwm : w < G.m := Nat.lt_of_lt_of_le hwl h.rz.le
  obtain ⟨H1, N, e1, e2, e3, e4, e5⟩ := clone_eq (K := G.kids) (B := M) (m0 := G.m) (fun i _ y hy => (h.rz.ok.kid hy).2) (fun i _ => h.rz.ok.nd i) h.att n w G M h.rz.ok (Nat.le_refl _) (fun i _ => ⟨rfl, rfl⟩) hwm (Ht.congr hK hQ (hld_self hR hwl) (ht_kids hR n w hwl (by omega)))
  have hsz : szK G.kids n w = sz t w := by
    rw [szK_congr hK hQ (hld_self hR hwl), ← szK_ids, ids_tree hR n w hwl (by omega), List.length_range']
  rw [hsz] at e4
  have hs1 := hR.sz1 hwl
  have hci : CI t H1 N G.m w := ⟨n, CpR.mono (Q := Hld t w) h.rz.le (Nat.le_refl _) (fun _ _ _ => rfl) (fun i y _ _ hy hr => by
    have hyl : y < t.length := by have := hy.2; omega
    rw [← h.lab y hyl]; exact hr) (fun y hy => (hK y hy).symm) (fun y hy z hz => hQ y hy z (by rw [← hK y hy]; exact hz)) (hld_self hR hwl) (cpR_of e5)⟩
  have hrz : Rz t H1 (CI t H1 N) D := h.rz.grow e2.ok e2.m (fun i hi => (e2.old i hi).2.1) e2.inc (fun c y _ hc => hc.ext e2)
  have hpl := hT.pl
  obtain ⟨A, B, k1, k2, k3⟩ := put1 (L := N) hrz hT (c := G.m) (y := t.length + w) (by omega) e3 (by have := h.rz.le; omega) (.inr ⟨by omega, h.rz.le, by rw [show t.length + w - t.length = w by omega]; exact hci⟩)
  refine ⟨H1, _, N, e1, k2, ⟨k3.imp fun c y _ hc => hc.hang hpl, fun i hi => ?_, fun i (hi : i < H1.m) => ?_⟩, fun y hy => ?_, e4⟩
  · rw [(e2.old i (Nat.lt_of_lt_of_le hi h.rz.le)).2.2]; exact h.lab i hi
  · by_cases e : i < G.m
    · rw [(e2.old i e).2.2]; exact h.att i e
    · exact e2.lab i (by omega) hi
  · have hne : y ≠ plD t op x := fun e => hpw (e ▸ hy)
    obtain ⟨w', hw', hyw⟩ := hy
    simp only [Fo.hang, if_neg hne]
    have hyl : y < G.m := by
      by_cases e : y < t.length
      · exact Nat.lt_of_lt_of_le e h.rz.le
      · have := hyw.2
        have hz : sz t w' = 0 ∨ w' < t.length := by
          by_cases e2 : w' < t.length
          · exact .inr e2
          · left; simp [sz, List.getElem?_eq_none (Nat.le_of_not_lt e2)]
        rcases hz with hz | hz
        · have := hyw.1; omega
        · have := hR.le hz; omega
    rw [(e2.old y hyl).2.1]
    exact hs y ⟨w', hw', hyw⟩
theorem Im.move (h : Im t G M D) (hc : c < t.length) (hT : Tg t op x D) (hxc : x ≠ c) (hpc : plD t op x ≠ c) :
    ∃ H, mPut op (some x, some c, (G.off [c]).st M) = some (H.st M) ∧ Im t H M (stD t op x [c] (fiD [c] D)) ∧ H.m = G.m := by
  have hrz := (h.rz.off (l := [c]) (C' := CI t (G.off [c]) M) (fun d hd => by rw [List.mem_singleton.1 hd]; exact hc) fun c' y _ hc' => hc'.off h.rz.inc (fun d hd => by rw [List.mem_singleton.1 hd]; exact hc))
  have hT' := hT.fi (l := [c]) (by simpa using hxc)
  have hpl := hT.pl
  obtain ⟨A, B, k1, k2, k3⟩ := put1 (L := M) hrz hT' (c := c) (y := c) (Nat.lt_of_lt_of_le hc h.rz.le) (by simp [Fo.off]) hpc (.orig hc)
  exact ⟨_, k2, ⟨k3.imp fun c y _ hc => hc.hang hpl, h.lab, h.att⟩, rfl⟩
end
def Dm (t : List Node) (op : Nat) (ws xs : List Nat) (D : Nat → List Nat) : Nat → List Nat := xs.foldl (fun D x => stD t op x (ws.map fun w => t.length + w) D) D
theorem Dm_snoc {t : List Node} {op x : Nat} {ws xs : List Nat} {D : Nat → List Nat} : Dm t op ws (xs ++ [x]) D = stD t op x (ws.map fun w => t.length + w) (Dm t op ws xs D) := by
  simp [Dm, List.foldl_append]
theorem Tg.dm {t : List Node} {op : Nat} {ws : List Nat} : ∀ {xs : List Nat} {D : Nat → List Nat} {x : Nat}, (∀ y ∈ xs, Tg t op y D) → Tg t op x D → Tg t op x (Dm t op ws xs D)
  | [], _, _, _, h => h
  | y :: xs, D, x, hs, h => by
    have h1 := hs y (by simp)
    exact Tg.dm (xs := xs) (D := stD t op y (ws.map fun w => t.length + w) D) (fun z hz => h1.st (hs z (by simp [hz]))) (h1.st h)
structure Tgs (t : List Node) (op : Nat) (xs ws : List Nat) : Prop where
  tg : ∀ x ∈ xs, Tg t op x (FT t).kids
  pw : ∀ x ∈ xs, ¬ ∃ w ∈ ws, Hld t w (plD t op x)
  xw : ∀ x ∈ xs, x ∉ ws
  ds : Ds t ws
def sumS (t : List Node) (l : List Nat) : Nat := (l.map (sz t)).sum
section
variable {t : List Node} {G : Fo} {M : Nat → HN} {D : Nat → List Nat} {x : Nat} {ws rs : List Nat}
theorem app_copies (hR : RT t) (hr : ∀ w ∈ rs, w ∈ ws ∧ w < t.length) (hl : rs.length ≤ 1000000) (hT : Tg t 1 x D) (hpw : ¬ ∃ w ∈ ws, Hld t w (plD t 1 x)) (s s' : List (Option Nat)) {last i : Int} (hi : i ≠ last) (nn i' : Int) :
    ∀ (d j : Nat) (G : Fo) (M : Nat → HN), rs.length - j = d → j ≤ rs.length → Im t G M (stD t 1 x (nwl 1 ((rs.take j).map fun w => t.length + w)) D) → Sub t ws G →
      ∃ H N, loopO m_goquery_Selection_manipulateNodes_app_1_0 (s, rs.map some, (), last, i, some x, s', nn, i', (), (rs.length : Int), (j : Int), G.st M) = some (s, rs.map some, (), last, s', nn, i', H.st N) ∧ Im t H N (stD t 1 x (nwl 1 (rs.map fun w => t.length + w)) D) ∧ Sub t ws H ∧ H.m = G.m + sumS t (rs.drop j) := by
  obtain ⟨n, hb, hn⟩ : ∃ n, big = n ∧ 1000000 ≤ n := ⟨big, rfl, by unfold big; omega⟩
  intro d
  induction d with
  | zero =>
    intro j G M hd hj hI hS
    obtain rfl : j = rs.length := by omega
    rw [List.take_of_length_le (Nat.le_refl _)] at hI
    refine ⟨G, M, loopO_out ?_, hI, hS, by simp [sumS]⟩
    simp only [m_goquery_Selection_manipulateNodes_app_1_0, cond_dec]
    rw [if_neg (by omega)]
  | succ d ih =>
    intro j G M hd hj hI hS
    obtain ⟨w, hw⟩ := get_lt (l := rs) (k := j) (by omega)
    obtain ⟨hww, hwl⟩ := hr w (List.mem_of_getElem? hw)
    have hg : (rs.map some)[j]? = some (some w) := by rw [List.getElem?_map, hw]; rfl
    have e1 : rs.take (j + 1) = rs.take j ++ [w] := by rw [List.take_add_one, hw]; rfl
    have hdr : rs.drop j = w :: rs.drop (j + 1) := by
      obtain ⟨h1, h2⟩ := List.getElem?_eq_some_iff.1 hw
      rw [← h2]; exact List.drop_eq_getElem_cons h1
    obtain ⟨H1, H, N, k1, k2, k3, k4, k5⟩ := hI.copy hR hn hS hww hwl (hT.st hT) hpw
    have hx : x ∉ (rs.take j).map fun w => t.length + w := fun h => by
      obtain ⟨z, _, hz⟩ := List.mem_map.1 h
      have := hT.lt
      omega
    rw [stD_more hT hx] at k3
    have k2' : m_goquery_Selection_AppendNodes_1 (some x, some G.m, H1.st N) = some (H.st N) := k2
    have step : m_goquery_Selection_manipulateNodes_app_1_0 (s, rs.map some, (), last, i, some x, s', nn, i', (), (rs.length : Int), (j : Int), G.st M) = some (.nx (s, rs.map some, (), last, i, some x, s', nn, i', (), (rs.length : Int), ((j + 1 : Nat) : Int), H.st N)) := by
      simp only [m_goquery_Selection_manipulateNodes_app_1_0, cond_dec, atI_nat, Int.toNat_natCast, hg, bind_some, hb, k1, k2']
      rw [if_pos (by omega), if_pos hi, w64 (by omega) (by omega)]
      rfl
    have e2 : ((rs.take j).map fun w => t.length + w) ++ [t.length + w] = (rs.take (j + 1)).map fun w => t.length + w := by rw [e1]; simp
    rw [e2] at k3
    obtain ⟨H', N', q1, q2, q3, q4⟩ := ih (j + 1) H N (by omega) (by omega) k3 k4
    refine ⟨H', N', by rw [loopO_nx step]; exact q1, q2, q3, ?_⟩
    rw [q4, k5, hdr]
    simp only [sumS, List.map_cons, List.sum_cons]
    omega
theorem app_moves (hR : RT t) (hr : ∀ w ∈ rs, w < t.length ∧ plD t 1 x ≠ w) (hn : rs.Nodup) (hl : rs.length ≤ 1000000) (hT : Tg t 1 x D) (hx : x ∉ rs) (s s' : List (Option Nat)) (i nn i' : Int) :
    ∀ (d j : Nat) (G : Fo), rs.length - j = d → j ≤ rs.length → Im t G M (stD t 1 x (nwl 1 (rs.take j)) (fiD (rs.take j) D)) →
      ∃ H, loopO m_goquery_Selection_manipulateNodes_app_1_0 (s, rs.map some, (), i, i, some x, s', nn, i', (), (rs.length : Int), (j : Int), G.st M) = some (s, rs.map some, (), i, s', nn, i', H.st M) ∧ Im t H M (stD t 1 x (nwl 1 rs) (fiD rs D)) ∧ H.m = G.m := by
  intro d
  induction d with
  | zero =>
    intro j G hd hj hI
    obtain rfl : j = rs.length := by omega
    rw [List.take_of_length_le (Nat.le_refl _)] at hI
    refine ⟨G, loopO_out ?_, hI, rfl⟩
    simp only [m_goquery_Selection_manipulateNodes_app_1_0, cond_dec]
    rw [if_neg (by omega)]
  | succ d ih =>
    intro j G hd hj hI
    obtain ⟨c, hc⟩ := get_lt (l := rs) (k := j) (by omega)
    have hcm := List.mem_of_getElem? hc
    obtain ⟨hcl, hpc⟩ := hr c hcm
    have hg : (rs.map some)[j]? = some (some c) := by rw [List.getElem?_map, hc]; rfl
    have e1 : rs.take (j + 1) = rs.take j ++ [c] := by rw [List.take_add_one, hc]; rfl
    have hxj : x ∉ rs.take j := fun h => hx (List.mem_of_mem_take h)
    have hxj1 : x ∉ rs.take j ++ [c] := fun h => hx (by rw [← e1] at h; exact List.mem_of_mem_take h)
    have hcj : c ∉ rs.take j := fun h => by
      have hn1 := (List.take_sublist (j + 1) rs).nodup hn
      rw [e1, List.nodup_append] at hn1
      exact hn1.2.2 c h c (by simp) rfl
    obtain ⟨H, k2, k3, k4⟩ := hI.move hcl ((hT.fi hxj).st (hT.fi hxj)) (fun e => hx (e ▸ hcm)) hpc
    rw [stD_move hT hxj1 hcj, ← e1] at k3
    have k2' : m_goquery_Selection_AppendNodes_1 (some x, some c, (G.off [c]).st M) = some (H.st M) := k2
    have hcG : c < G.m := Nat.lt_of_lt_of_le hcl hI.rz.le
    have gc : (G.st M)[c]? = some (G.mk1 M c) := Fo.get hcG
    have step : m_goquery_Selection_manipulateNodes_app_1_0 (s, rs.map some, (), i, i, some x, s', nn, i', (), (rs.length : Int), (j : Int), G.st M) = some (.nx (s, rs.map some, (), i, i, some x, s', nn, i', (), (rs.length : Int), ((j + 1 : Nat) : Int), H.st M)) := by
      simp only [m_goquery_Selection_manipulateNodes_app_1_0, cond_dec, atI_nat, Int.toNat_natCast, hg, bind_some, gc]
      rw [if_pos (by omega), if_neg (by simp)]
      cases hu : G.up c with
      | none =>
        have hpar : (G.mk1 M c).par = none := hu
        rw [off_none hI.rz.ok hu] at k2'
        simp only [hpar, Option.isNone_none, Bool.not_true, cond_false, k2', bind_some]
        rw [w64 (by omega) (by omega)]
        rfl
      | some q =>
        have hpar : (G.mk1 M c).par = some q := hu
        simp only [hpar, Option.isNone_some, Bool.not_false, cond_true]
        rw [rem_off hI.rz.ok hu, bind_some, k2', bind_some, w64 (by omega) (by omega)]
        rfl
    obtain ⟨H', q1, q2, q3⟩ := ih (j + 1) H (by omega) (by omega) k3
    exact ⟨H', by rw [loopO_nx step]; exact q1, q2, by rw [q3, k4]⟩
theorem app_outer (hR : RT t) {xs : List Nat} {xl : Nat} (hx : Tgs t 1 (xs ++ [xl]) ws) (hrs : nwl 1 rs = ws) (hxs : xs.length ≤ 100000) (s : List (Option Nat)) :
    ∀ (d i : Nat) (G : Fo) (M : Nat → HN), xs.length - i = d → i ≤ xs.length → Im t G M (Dm t 1 ws (xs.take i) (FT t).kids) → Sub t ws G →
      ∃ H N, loopO m_goquery_Selection_manipulateNodes_app_1 (s, rs.map some, (), (xs.length : Int), (xs ++ [xl]).map some, ((xs.length + 1 : Nat) : Int), (i : Int), G.st M) = some (s, rs.map some, H.st N) ∧ Im t H N (stD t 1 xl ws (fiD ws (Dm t 1 ws xs (FT t).kids))) ∧ H.m = G.m + (xs.length - i) * sumS t ws := by
  have hlen := hR.len
  have hrm : ∀ w, w ∈ rs ↔ w ∈ ws := fun w => by
    rw [← hrs]; unfold nwl; split
    · exact Iff.rfl
    · exact List.mem_reverse.symm
  have hrl : rs.length = ws.length := by rw [← hrs]; unfold nwl; split <;> simp
  have hwl := hx.ds.len hlen
  have hrn : rs.Nodup := by
    have := hx.ds.nd
    rw [← hrs] at this
    unfold nwl at this
    split at this
    · exact this
    · exact (List.reverse_perm _).nodup_iff.1 this
  have hmap : nwl 1 (rs.map fun w => t.length + w) = ws.map fun w => t.length + w := by
    rw [← hrs]; unfold nwl; split
    · rfl
    · rw [List.map_reverse]
  have hsum : sumS t rs = sumS t ws := by
    rw [← hrs]; unfold nwl sumS; split
    · rfl
    · rw [List.map_reverse, List.sum_reverse]
  intro d
  induction d with
  | zero =>
    intro i G M hd hi hI hS
    obtain rfl : i = xs.length := by omega
    rw [List.take_of_length_le (Nat.le_refl _)] at hI
    have hT : Tg t 1 xl (Dm t 1 ws xs (FT t).kids) := Tg.dm (fun y hy => hx.tg y (by simp [hy])) (hx.tg xl (by simp))
    have hxw := hx.xw xl (by simp)
    have hpw := hx.pw xl (by simp)
    have h0 : Im t G M (stD t 1 xl (nwl 1 (rs.take 0)) (fiD (rs.take 0) (Dm t 1 ws xs (FT t).kids))) := by
      have e : stD t 1 xl (nwl 1 (rs.take 0)) (fiD (rs.take 0) (Dm t 1 ws xs (FT t).kids)) = Dm t 1 ws xs (FT t).kids := by
        rw [List.take_zero, fiD_nil]
        have hn0 : nwl 1 ([] : List Nat) = [] := by unfold nwl; split <;> rfl
        unfold stD
        rw [hn0, List.append_nil, ← hT.all]
        funext j
        simp only [upd]
        split
        · rename_i e; rw [e]
        · rfl
      rw [e]; exact hI
    obtain ⟨H, q1, q2, q3⟩ := app_moves hR (fun w hw => ⟨hx.ds.bd w ((hrm w).1 hw), fun e => hpw ⟨w, (hrm w).1 hw, by rw [e]; exact hld_self hR (hx.ds.bd w ((hrm w).1 hw))⟩⟩) hrn (by omega) hT (fun h => hxw ((hrm xl).1 h)) s ((xs ++ [xl]).map some) (xs.length : Int) ((xs.length + 1 : Nat) : Int) (xs.length : Int) rs.length 0 G rfl (Nat.zero_le _) h0
    rw [hrs] at q2
    have hfi : fiD rs (Dm t 1 ws xs (FT t).kids) = fiD ws (Dm t 1 ws xs (FT t).kids) := by
      funext j
      refine List.filter_congr fun z _ => ?_
      simp only [hrm]
    rw [hfi] at q2
    have hg : ((xs ++ [xl]).map some)[xs.length]? = some (some xl) := by simp
    have q1' : loopO m_goquery_Selection_manipulateNodes_app_1_0 (s, rs.map some, (), (xs.length : Int), (xs.length : Int), some xl, (xs ++ [xl]).map some, ((xs.length + 1 : Nat) : Int), (xs.length : Int), (), (((rs.map some).length : Nat) : Int), (0 : Int), G.st M) = some (s, rs.map some, (), (xs.length : Int), (xs ++ [xl]).map some, ((xs.length + 1 : Nat) : Int), (xs.length : Int), H.st M) := by
      rw [List.length_map]; exact q1
    have step : m_goquery_Selection_manipulateNodes_app_1 (s, rs.map some, (), (xs.length : Int), (xs ++ [xl]).map some, ((xs.length + 1 : Nat) : Int), (xs.length : Int), G.st M) = some (.nx (s, rs.map some, (), (xs.length : Int), (xs ++ [xl]).map some, ((xs.length + 1 : Nat) : Int), ((xs.length + 1 : Nat) : Int), H.st M)) := by
      simp only [m_goquery_Selection_manipulateNodes_app_1, cond_dec, atI_nat, hg, bind_some, q1']
      rw [if_pos (by omega), w64 (by omega) (by omega)]
      rfl
    refine ⟨H, M, ?_, q2, by rw [q3]; simp⟩
    rw [loopO_nx step]
    refine loopO_out ?_
    simp only [m_goquery_Selection_manipulateNodes_app_1, cond_dec]
    rw [if_neg (by omega)]
  | succ d ih =>
    intro i G M hd hi hI hS
    obtain ⟨x, hxi⟩ := get_lt (l := xs) (k := i) (by omega)
    have hxm := List.mem_of_getElem? hxi
    have e1 : xs.take (i + 1) = xs.take i ++ [x] := by rw [List.take_add_one, hxi]; rfl
    have hT : Tg t 1 x (Dm t 1 ws (xs.take i) (FT t).kids) := Tg.dm (fun y hy => hx.tg y (by simp [List.mem_of_mem_take hy])) (hx.tg x (by simp [hxm]))
    have hpw := hx.pw x (by simp [hxm])
    have h0 : Im t G M (stD t 1 x (nwl 1 ((rs.take 0).map fun w => t.length + w)) (Dm t 1 ws (xs.take i) (FT t).kids)) := by
      have e : stD t 1 x (nwl 1 ((rs.take 0).map fun w => t.length + w)) (Dm t 1 ws (xs.take i) (FT t).kids) = Dm t 1 ws (xs.take i) (FT t).kids := by
        rw [List.take_zero, List.map_nil]
        have hn0 : nwl 1 ([] : List Nat) = [] := by unfold nwl; split <;> rfl
        unfold stD
        rw [hn0, List.append_nil, ← hT.all]
        funext j
        simp only [upd]
        split
        · rename_i e; rw [e]
        · rfl
      rw [e]; exact hI
    obtain ⟨H, N, q1, q2, q3, q4⟩ := app_copies (ws := ws) hR (fun w hw => ⟨(hrm w).1 hw, hx.ds.bd w ((hrm w).1 hw)⟩) (by omega) hT hpw s ((xs ++ [xl]).map some) (last := (xs.length : Int)) (i := (i : Int)) (by omega) ((xs.length + 1 : Nat) : Int) (i : Int) rs.length 0 G M rfl (Nat.zero_le _) h0 hS
    rw [hmap, ← Dm_snoc, ← e1] at q2
    have hg : ((xs ++ [xl]).map some)[i]? = some (some x) := by
      rw [List.getElem?_map, List.getElem?_append_left (by omega), hxi]; rfl
    have q1' : loopO m_goquery_Selection_manipulateNodes_app_1_0 (s, rs.map some, (), (xs.length : Int), (i : Int), some x, (xs ++ [xl]).map some, ((xs.length + 1 : Nat) : Int), (i : Int), (), (((rs.map some).length : Nat) : Int), (0 : Int), G.st M) = some (s, rs.map some, (), (xs.length : Int), (xs ++ [xl]).map some, ((xs.length + 1 : Nat) : Int), (i : Int), H.st N) := by
      rw [List.length_map]; exact q1
    have step : m_goquery_Selection_manipulateNodes_app_1 (s, rs.map some, (), (xs.length : Int), (xs ++ [xl]).map some, ((xs.length + 1 : Nat) : Int), (i : Int), G.st M) = some (.nx (s, rs.map some, (), (xs.length : Int), (xs ++ [xl]).map some, ((xs.length + 1 : Nat) : Int), ((i + 1 : Nat) : Int), H.st N)) := by
      simp only [m_goquery_Selection_manipulateNodes_app_1, cond_dec, atI_nat, hg, bind_some, q1']
      rw [if_pos (by omega), w64 (by omega) (by omega)]
      rfl
    obtain ⟨H', N', r1, r2, r3⟩ := ih (i + 1) H N (by omega) (by omega) q2 q3
    refine ⟨H', N', by rw [loopO_nx step]; exact r1, r2, ?_⟩
    rw [r3, q4, List.drop_zero, hsum, show xs.length - i = (xs.length - (i + 1)) + 1 by omega, Nat.add_mul]
    omega
end
section
variable {t : List Node} {G : Fo} {M : Nat → HN} {D : Nat → List Nat} {x : Nat} {ws rs : List Nat}
end
section
variable {t : List Node} {G : Fo} {M : Nat → HN} {D : Nat → List Nat} {x : Nat} {ws rs : List Nat}
end
end Go.Proofs.Ytfmlpodcldhgdaa.V
set_option linter.unusedVariables false
set_option linter.unusedSimpArgs false
namespace Go.Proofs.Ytfmlpodcldhgdaa.V
open Go
def Df (t : List Node) (op : Nat) (ws xs : List Nat) (xl : Nat) : Nat → List Nat := stD t op xl ws (fiD ws (Dm t op ws xs (FT t).kids))
def treeD (t : List Node) (D : Nat → List Nat) (n : Nat) : List Node := nodesF (KD t D) (NdR t (fun i => kn (bs0 t i))) n 0
def spotsD (t : List Node) (D : Nat → List Nat) (n : Nat) : List Int := (List.range t.length).map (posL (idsF (KD t D) n 0))
section
variable {t : List Node} {ws xs : List Nat} {xl op : Nat} {D : Nat → List Nat} {G : Fo} {M : Nat → HN}
theorem st_orig {x i y : Nat} {new : List Nat} (hT : Tg t op x D) (hn : ∀ z ∈ new, t.length ≤ z) (h : y ∈ stD t op x new D i) (hy : y < t.length) : y ∈ D i := by
  unfold stD at h
  by_cases e : i = plD t op x
  · subst e
    rw [upd_same] at h
    rw [hT.all]
    simp only [List.mem_append] at h ⊢
    rcases h with (h | h) | h
    · exact .inl h
    · have := hn y h; omega
    · exact .inr h
  · rw [upd_ne e] at h; exact h
theorem cps_ge : ∀ z ∈ ws.map (fun w => t.length + w), t.length ≤ z := fun z hz => by
  obtain ⟨w, _, rfl⟩ := List.mem_map.1 hz
  omega
theorem Dm_orig {i y : Nat} : ∀ {xs : List Nat} {D : Nat → List Nat}, (∀ x ∈ xs, Tg t op x D) → y ∈ Dm t op ws xs D i → y < t.length → y ∈ D i
  | [], _, _, h, _ => h
  | x :: xs, D, hT, h, hy => by
    have h1 := hT x (by simp)
    have h2 : y ∈ stD t op x (ws.map fun w => t.length + w) D i := Dm_orig (xs := xs) (fun z hz => h1.st (hT z (by simp [hz]))) h hy
    exact st_orig h1 cps_ge h2 hy
structure Tgm (t : List Node) (op : Nat) (xs : List Nat) (xl : Nat) (ws : List Nat) : Prop where
  ts : Tgs t op (xs ++ [xl]) ws
  ap : ∀ d ∈ ws, ∀ e ∈ ws, Hld t d e → d = e
theorem Tgm.mv (h : Tgm t op xs xl ws) : Mv t (plD t op xl) ws := ⟨h.ts.ds, fun d hd hh => h.ts.pw xl (by simp) ⟨d, hd, hh⟩, h.ap⟩
theorem Tgm.pl (h : Tgm t op xs xl ws) : plD t op xl < t.length := (h.ts.tg xl (by simp)).pl
theorem Tgm.stay (hR : RT t) (h : Tgm t op xs xl ws) {x y : Nat} (hy : y ∈ (FT t).kids x) (hw : y ∉ ws) : rankM t ws y < rankM t ws x := by
  refine rank_lt hR h.pl (A := kidsN t (plD t op xl)) (B := []) (by simp) h.mv x y ?_
  by_cases e : x = plD t op xl
  · subst e
    rw [mvd_kids_p]
    rw [ft_kids h.pl] at hy
    exact List.mem_append_left _ (List.mem_append_left _ (filt_mem.2 ⟨hy, hw⟩))
  · rw [mvd_kids_ne e]; exact filt_mem.2 ⟨hy, hw⟩
theorem Tgm.into (hR : RT t) (h : Tgm t op xs xl ws) {y : Nat} (hw : y ∈ ws) : rankM t ws y < rankM t ws (plD t op xl) := by
  refine rank_lt hR h.pl (A := kidsN t (plD t op xl)) (B := []) (by simp) h.mv _ y ?_
  rw [mvd_kids_p]
  exact List.mem_append_left _ (List.mem_append_right _ hw)
theorem Tgm.rank (hR : RT t) (h : Tgm t op xs xl ws) : ∀ i, i < t.length → ∀ y ∈ Df t op ws xs xl i, y < t.length → rankM t ws y < rankM t ws i := fun i hi y hy hyl => by
  have hT := h.ts.tg xl (by simp)
  have hTd : Tg t op xl (Dm t op ws xs (FT t).kids) := Tg.dm (fun z hz => h.ts.tg z (by simp [hz])) hT
  have hTf := hTd.fi (l := ws) (h.ts.xw xl (by simp))
  have base : y ∈ fiD ws (Dm t op ws xs (FT t).kids) i → rankM t ws y < rankM t ws i := fun h1 => by
    obtain ⟨h2, h3⟩ := filt_mem.1 h1
    exact h.stay hR (Dm_orig (fun z hz => h.ts.tg z (by simp [hz])) h2 hyl) h3
  unfold Df stD at hy
  by_cases e : i = plD t op xl
  · subst e
    rw [upd_same] at hy
    simp only [List.mem_append] at hy
    rcases hy with (hy | hy) | hy
    · exact base (by rw [hTf.all]; exact List.mem_append_left _ hy)
    · exact h.into hR hy
    · exact base (by rw [hTf.all]; exact List.mem_append_right _ hy)
  · rw [upd_ne e] at hy
    exact base hy
theorem Im.ends (hR : RT t) (h : Im t G M D) (hr : ∀ i, i < t.length → ∀ y ∈ D i, y < t.length → rankM t ws y < rankM t ws i) (hm : G.m ≤ 900000) {n : Nat} (hb : big = n) (hn : 1000000 ≤ n) :
    m_impl_world_ends ((ptrs t, ()), G.st M) = some (treeD t D n, spotsD t D n, G.st M) := by
  have hpos := hR.pos
  have hlen := hR.len
  have h0 : It t (CI t G M) 0 0 := .orig hpos
  have hC : ∀ c y, t.length ≤ c → CI t G M c y → ∃ k, CpR G (fun c y => cpl (M c) (bs0 t y)) (FT t).kids t.length G.m k c y := fun c y _ h => h
  have e1 : nodesF G.kids (fun i => kn (M i)) n 0 = treeD t D n := nodesR h.rz hC (fun c y hc => by
    have := kn_cpl hc
    exact ⟨by rw [this], by rw [this], by rw [this], by rw [this]⟩) (fun i hi => by rw [h.lab i hi]; exact ⟨rfl, rfl, rfl, rfl⟩) n 0 0 h0
  have e2 : (List.range t.length).map (posL (idsF G.kids n 0)) = spotsD t D n := List.map_congr_left fun i hi => posL_R (List.mem_range.1 hi) (idsR (Nat.le_refl _) h.rz hC n 0 0 h0)
  have h1 := ends_eq h.rz.ok h.att hb (m := List.range t.length) (r := 0) (by simp [hpos]) (Nat.lt_of_lt_of_le hpos h.rz.le) (h.rz.ht hr (rankM_le hR) hm hn 0) (by
    have := h.rz.len hr n (x := 0) (Nat.lt_of_lt_of_le hpos h.rz.le)
    omega) (by simp; omega)
  rw [e1, e2] at h1
  exact h1
theorem Im.start (hR : RT t) : Im t (FT t) (bs0 t) (FT t).kids := ⟨.start hR, fun _ _ => rfl, fun i _ => by have := bs0_attrs hR i; omega⟩
theorem man_app (hR : RT t) (h : Tgm t 1 xs xl ws) (hxs : xs.length ≤ 100000) :
    ∃ H N, m_goquery_Selection_AppendNodes ((xs ++ [xl]).map some, ws.map some, (FT t).st (bs0 t)) = some ((xs ++ [xl]).map some, H.st N) ∧ Im t H N (Df t 1 ws xs xl) ∧ H.m = t.length + xs.length * sumS t ws := by
  obtain ⟨H, N, q1, q2, q3⟩ := app_outer (rs := ws) hR h.ts (by simp [nwl]) hxs ((xs ++ [xl]).map some) xs.length 0 (FT t) (bs0 t) rfl (Nat.zero_le _) (Im.start hR) (fun _ _ => rfl)
  refine ⟨H, N, ?_, q2, by rw [q3]; rfl⟩
  have e0 : (((xs ++ [xl]).map some).length : Int) = ((xs.length + 1 : Nat) : Int) := by simp
  have e1 : IntKind.wrap .i64 ((((xs ++ [xl]).map some).length : Int) - 1) = (xs.length : Int) := by rw [e0, w64 (by omega) (by omega)]; omega
  have q1' : loopO m_goquery_Selection_manipulateNodes_app_1 ((xs ++ [xl]).map some, ws.map some, (), (xs.length : Int), (xs ++ [xl]).map some, (((xs ++ [xl]).map some).length : Int), (0 : Int), (FT t).st (bs0 t)) = some ((xs ++ [xl]).map some, ws.map some, H.st N) := by
    rw [e0]; exact q1
  simp only [m_goquery_Selection_AppendNodes, m_goquery_Selection_manipulateNodes_app, m_goquery_Selection_Size, m_goquery_Selection_Length, bind_some, cond_false]
  rw [e1, q1']
  rfl
theorem AppendOf_many (hf : fits1 t = true) (hR : RT t) (h : Tgm t 1 xs xl ws) (hon : Ds t (xs ++ [xl])) (hm : t.length + xs.length * sumS t ws ≤ 900000) {n : Nat} (hb : big = n) (hn : 1000000 ≤ n) :
    ∃ S, m_impl_AppendOf (t, intsN (xs ++ [xl]), intsN ws, []) = some (treeD t (Df t 1 ws xs xl) n, spotsD t (Df t 1 ws xs xl) n, true, S) := by
  have hlen := hR.len
  have hxl := hon.len hlen
  simp only [List.length_append, List.length_singleton] at hxl
  obtain ⟨H, N, q1, q2, q3⟩ := man_app hR h (by omega)
  refine ⟨H.st N, ?_⟩
  simp only [m_impl_AppendOf, selected_eq hf hR hon, bind_some, Bool.not_true, cond_false, these_nat hR h.ts.ds]
  rw [store_st hR, q1, bind_some, q2.ends hR (h.rank hR) (by omega) hb hn]
  rfl
end
end Go.Proofs.Ytfmlpodcldhgdaa.V
set_option linter.unusedVariables false
set_option linter.unusedSimpArgs false
namespace Go.Proofs.Ytfmlpodcldhgdaa.V
open Go
theorem sum_le {t : List Node} (hR : RT t) {ws : List Nat} (hd : Ds t ws) (ha : ∀ d ∈ ws, ∀ e ∈ ws, Hld t d e → d = e) : sumS t ws ≤ t.length := by
  have h1 : (ws.flatMap fun w => List.range' w (sz t w)).Nodup := by
    unfold List.Nodup
    rw [List.pairwise_flatMap]
    refine ⟨fun w _ => List.nodup_range', (List.Pairwise.imp_of_mem fun {a b} hma hmb hab z hz w hw e => ?_) hd.nd⟩
    subst e
    have h1 := List.mem_range'_1.1 hz
    have h2 := List.mem_range'_1.1 hw
    by_cases e : a ≤ b
    · exact hab (ha a hma b hmb ⟨e, by omega⟩)
    · exact hab (ha b hmb a hma ⟨by omega, by omega⟩).symm
  have h2 := h1.length_le_of_subset (l₂ := List.range t.length) (fun z hz => by
    obtain ⟨w, hw, hz⟩ := List.mem_flatMap.1 hz
    have := List.mem_range'_1.1 hz
    have := hR.le (hd.bd w hw)
    exact List.mem_range.2 (by omega))
  rw [List.length_range, List.length_flatMap] at h2
  simpa [sumS] using h2
def RS (t : List Node) (P : Nat → Int × Node) (c y : Nat) : Prop := P c = (-1, nd0 t y) ∧ y < t.length
def CS (ob : Bool) (t : List Node) (G : Fo) (P : Nat → Int × Node) (c y : Nat) : Prop := ob = false → ∃ k, CpR G (RS t P) (FT t).kids t.length G.m k c y
structure Sm (t : List Node) (G : Fo) (P : Nat → Int × Node) (D : Nat → List Nat) (a : Int) (ob : Bool) : Prop where
  rz : Rz t G (CS ob t G P) D
  lab : ∀ i, i < t.length → P i = P0 t i
  neg : ∀ i, t.length ≤ i → i < G.m → (P i).1 = -1
  m : (G.m : Int) = a
  lim : 600 < a → ob = true
section
variable {t : List Node} {G H : Fo} {P P' : Nat → Int × Node} {D : Nat → List Nat} {op x w p : Nat} {a : Int} {ob : Bool} {A B l ws : List Nat}
theorem CS.hang (hp : p < t.length) {c y : Nat} (h : CS ob t G P c y) : CS ob t (G.hang p A l B) P c y := fun e => by
  obtain ⟨k, hk⟩ := h e
  refine ⟨k, CpR.mono (Q := fun _ => True) (Nat.le_refl _) (Nat.le_refl _) (fun i h1 h2 => ?_) (fun _ _ _ _ _ h => h) (fun _ _ => rfl) (fun _ _ _ _ => trivial) trivial hk⟩
  have : i ≠ p := by omega
  simp only [Fo.hang, if_neg this]
theorem CS.off (hi : ∀ c, t.length ≤ c → ∀ y ∈ G.kids c, c < y) (hl : ∀ c ∈ l, c < t.length) {c y : Nat} (h : CS ob t G P c y) : CS ob t (G.off l) P c y := fun e => by
  obtain ⟨k, hk⟩ := h e
  refine ⟨k, CpR.mono (Q := fun _ => True) (Nat.le_refl _) (Nat.le_refl _) (fun i h1 h2 => ?_) (fun _ _ _ _ _ h => h) (fun _ _ => rfl) (fun _ _ _ _ => trivial) trivial hk⟩
  exact filt_all fun y hy h => by
    have := hi i h1 y hy
    have := hl y h
    omega
theorem CS.ext {ob' : Bool} (h : ExS G P H P') (ho : ob = true → ob' = true) {c y : Nat} (hc : CS ob t G P c y) : CS ob' t H P' c y := fun e => by
  have hob : ob = false := by
    cases ob with
    | false => rfl
    | true => rw [ho rfl] at e; cases e
  obtain ⟨k, hk⟩ := hc hob
  refine ⟨k, CpR.mono (Q := fun _ => True) (Nat.le_refl _) h.m (fun i _ h2 => (h.old i h2).2.1) (fun i z _ h2 _ hr => ?_) (fun _ _ => rfl) (fun _ _ _ _ => trivial) trivial hk⟩
  unfold RS at *
  rw [(h.old i h2).2.2]; exact hr
theorem fo_klen (hF : G.ok) (i : Nat) : (G.kids i).length ≤ G.m := by
  have h := (hF.nd i).length_le_of_subset (l₂ := List.range G.m) (fun z hz => List.mem_range.2 (hF.kid hz).2)
  rwa [List.length_range] at h
theorem Sm.copy (hR : RT t) {n : Nat} (hn : 1000000 ≤ n) (ks : List (Option Nat)) (h : Sm t G P D a ob) (hs : Sub t ws G) (hw : w ∈ ws) (hwl : w < t.length) (ha : a ≤ 100000) :
    ∃ (H : Fo) (P' : Nat → Int × Node) (a' : Int) (ob' : Bool), m_spec_forest_copied n (((), a, ob), some w, ks, G.kst P) = some (some G.m, ((), a', ob'), ks, H.kst P') ∧ Sm t H P' D a' ob' ∧ ExS G P H P' ∧ H.up G.m = none ∧ G.m < H.m ∧ CS ob' t H P' G.m w ∧ (ob = true → ob' = true) ∧ a' ≤ a + sz t w ∧ a ≤ a' := by
  have hlen := hR.len
  have hle := hR.le hwl
  have hQ : ∀ y, Hld t w y → ∀ z ∈ (FT t).kids y, Hld t w z := fun y hy z hz => hld_kids hR hwl hy hz
  have hK : ∀ y, Hld t w y → G.kids y = (FT t).kids y := fun y hy => hs y ⟨w, hw, hy⟩
  have hql : ∀ y, Hld t w y → y < t.length := fun y hy => by have := hy.2; omega
  have hsz : szK (FT t).kids n w = sz t w := by rw [← szK_ids, ids_tree hR n w hwl (by omega), List.length_range']
  have hGm := h.m
  have hTm := h.rz.le
  obtain ⟨H, P', a', ob', e1, e2, e3, e4, e5, e6, e7, e8, e9⟩ := copied_eq (ks := ks) (K := (FT t).kids) (B := nd0 t) (Q := Hld t w) (m0 := t.length) hQ hql (fun y _ => by have := ft_klen hR y; omega) (fun y hy => by
      obtain ⟨v, hv⟩ := get_lt (hql y hy)
      have : nd0 t y = v := by simp [nd0, hv]
      rw [this]
      have hN := hR.node y v hv
      by_cases h3 : v.kind = 3
      · have := (hN.k3 h3).2.1; omega
      · rw [(hN.k4 h3).2]; simp) n w G P a ob (hld_self hR hwl) (ht_kids hR n w hwl (by omega)) h.rz.ok h.rz.le (fun y hy => ⟨hK y hy, by rw [h.lab y (hql y hy)]; rfl⟩) (by omega) (by rw [hsz]; omega)
  rw [hsz] at e6
  have hci : CS ob' t H P' G.m w := fun e => by
    obtain ⟨k1, _⟩ := e9 e
    exact ⟨n, CpR.mono (Q := Hld t w) h.rz.le (Nat.le_refl _) (fun _ _ _ => rfl) (fun i y _ _ hy hr => ⟨hr, hql y hy⟩) (fun _ _ => rfl) hQ (hld_self hR hwl) k1⟩
  refine ⟨H, P', a', ob', e1, ⟨h.rz.grow e2.ok e2.m (fun i hi => (e2.old i hi).2.1) e2.inc (fun c y _ hc => hc.ext e2 e7), fun i hi => ?_, fun i h1 h2 => ?_, by omega, e8 h.lim⟩, e2, e3, by omega, hci, e7, e6, by omega⟩
  · rw [(e2.old i (Nat.lt_of_lt_of_le hi h.rz.le)).2.2]; exact h.lab i hi
  · by_cases e : i < G.m
    · rw [(e2.old i e).2.2]; exact h.neg i h1 e
    · exact e2.neg i (by omega) h2
theorem Sub.ext (hs : Sub t ws G) (hR : RT t) (hTm : t.length ≤ G.m) (hws : ∀ w ∈ ws, w < t.length) (h : ExS G P H P') : Sub t ws H := fun y hy => by
  obtain ⟨w, hw, h1, h2⟩ := hy
  have := hR.le (hws w hw)
  rw [(h.old y (by omega)).2.1]
  exact hs y ⟨w, hw, h1, h2⟩
structure Rts (t : List Node) (G : Fo) (P : Nat → Int × Node) (ob : Bool) (l ws : List Nat) : Prop where
  nd : l.Nodup
  at' : ∀ c ∈ l, t.length ≤ c ∧ c < G.m ∧ G.up c = none
  cp : F2 (fun c w => CS ob t G P c w) l ws
theorem copies_spec (hR : RT t) (hws : ∀ w ∈ ws, w < t.length) (hwl : ws.length ≤ 1000) (opc : Int) (on ks : List (Option Nat)) {i : Nat} (hi : i + 1 < on.length) (hon : on.length ≤ 1000000) :
    ∀ (d j : Nat) (G : Fo) (P : Nat → Int × Node) (a : Int) (ob : Bool) (l : List Nat), ws.length - j = d → j ≤ ws.length → Sm t G P D a ob → Sub t ws G → Rts t G P ob l (ws.take j) → a + sumS t (ws.drop j) ≤ 100000 →
      ∃ (H : Fo) (P' : Nat → Int × Node) (a' : Int) (ob' : Bool) (l' : List Nat), loopO m_spec_forest_insert_0_0 (((), a, ob), opc, on, ws.map some, (i : Int), l.map some, (j : Int), G.kst P, ks) = some (((), a', ob'), opc, on, ws.map some, (i : Int), l'.map some, H.kst P', ks) ∧ Sm t H P' D a' ob' ∧ Sub t ws H ∧ Rts t H P' ob' l' ws ∧ a' ≤ a + sumS t (ws.drop j) := by
  obtain ⟨n, hb, hn⟩ : ∃ n, big = n ∧ 1000000 ≤ n := ⟨big, rfl, by unfold big; omega⟩
  intro d
  induction d with
  | zero =>
    intro j G P a ob l hd hj hI hS hr _
    obtain rfl : j = ws.length := by omega
    rw [List.take_of_length_le (Nat.le_refl _)] at hr
    refine ⟨G, P, a, ob, l, loopO_out ?_, hI, hS, hr, by simp [sumS]⟩
    simp only [m_spec_forest_insert_0_0, cond_dec]
    rw [if_neg (by simp)]
  | succ d ih =>
    intro j G P a ob l hd hj hI hS hr ha
    obtain ⟨w, hw⟩ := get_lt (l := ws) (k := j) (by omega)
    have hwm := List.mem_of_getElem? hw
    have hdr : ws.drop j = w :: ws.drop (j + 1) := by
      obtain ⟨h1, h2⟩ := List.getElem?_eq_some_iff.1 hw
      rw [← h2]; exact List.drop_eq_getElem_cons h1
    have hsum : sumS t (ws.drop j) = sz t w + sumS t (ws.drop (j + 1)) := by rw [hdr]; simp [sumS]
    have e1 : ws.take (j + 1) = ws.take j ++ [w] := by rw [List.take_add_one, hw]; rfl
    obtain ⟨H, P', a', ob', k1, k2, k3, k4, k5, k6, k7, k8, k9⟩ := hI.copy hR hn ks hS hwm (hws w hwm) (by omega)
    have hlen := forall2_len hr.cp
    have hll : l.length = j := by simp at hlen; omega
    have step : m_spec_forest_insert_0_0 (((), a, ob), opc, on, ws.map some, (i : Int), l.map some, (j : Int), G.kst P, ks) = some (.nx (((), a', ob'), opc, on, ws.map some, (i : Int), (l ++ [G.m]).map some, ((j + 1 : Nat) : Int), H.kst P', ks)) := by
      simp only [m_spec_forest_insert_0_0, cond_dec, atI_nat, map_some_get hw, bind_some, hb, k1, cut_none (F := H) (P := P') k5 k4]
      rw [if_pos (by simp; omega), w64 (n := (on.length : Int) - 1) (by omega) (by omega), if_pos (by omega), appL_some (by simp; omega), bind_some, w64 (by omega) (by omega)]
      simp
    have hr2 : Rts t H P' ob' (l ++ [G.m]) (ws.take (j + 1)) := by
      refine ⟨?_, fun c hc => ?_, ?_⟩
      · rw [List.nodup_append]
        refine ⟨hr.nd, by simp, fun c hc d hd e => ?_⟩
        have := (hr.at' c hc).2.1
        have := List.mem_singleton.1 hd
        omega
      · rcases List.mem_append.1 hc with hc | hc
        · obtain ⟨h1, h2, h3⟩ := hr.at' c hc
          exact ⟨h1, by omega, by rw [(k3.old c h2).1]; exact h3⟩
        · rw [List.mem_singleton.1 hc]
          exact ⟨hI.rz.le, k5, k4⟩
      · rw [e1]
        exact (hr.cp.imp fun c y _ _ hc => hc.ext k3 k7).append (.cons k6 .nil)
    obtain ⟨H', P'', a'', ob'', l', q1, q2, q3, q4, q5⟩ := ih (j + 1) H P' a' ob' (l ++ [G.m]) (by omega) (by omega) k2 (hS.ext hR hI.rz.le hws k3) hr2 (by omega)
    exact ⟨H', P'', a'', ob'', l', by rw [loopO_nx step]; exact q1, q2, q3, q4, by omega⟩
def opD (c : Int) (op : Nat) : Prop := (c = 1 ∧ op = 1) ∨ (c = 2 ∧ op = 2) ∨ ((c = 3 ∨ c = 5) ∧ op = 3)
theorem inserted_app (a : Int) (b : Bool) (ks : List (Option Nat)) (hF : G.ok) (hp : p < G.m) (h1 : ∀ c ∈ l, c < G.m ∧ G.up c = none ∧ p ≠ c) (hn : l.Nodup) (hlen : (G.kids p).length + l.length ≤ 1000000) :
    m_spec_forest_inserted (((), a, b), 1, some p, l.map some, ks, G.kst P) = some (((), a, b), ks, (G.hang p (G.kids p) l []).kst P) := by
  have h := ins_loop (P := P) (A := G.kids p) (B := []) a b ks hF hp (by simp) h1 hn (by simpa using hlen) l.length 0 rfl (Nat.zero_le _)
  rw [List.take_zero, hang_nil (by simp)] at h
  have hg := Fo.kget (F := G) (P := P) hp
  have hkk : (G.kn1 P p).kids = (G.kids p).map some := rfl
  have h' : loopO m_spec_forest_inserted_0 (((), a, b), l.map some, some p, (((G.kids p).map some).length : Int), (0 : Int), G.kst P, ks) = some (((), a, b), (G.hang p (G.kids p) l []).kst P, ks) := by rw [List.length_map]; exact h
  simp only [m_spec_forest_inserted, cond_dec, bind_some, hg, hkk]
  rw [if_pos trivial, h', bind_some]
theorem inserted_st {C : Nat → Nat → Prop} {opc : Int} (hop : opD opc op) (b : Bool) (ks : List (Option Nat)) (hz : Rz t G C D) (hT : Tg t op x D) {l' : List Nat} (hl : F2 (It t C) l l') (h1 : ∀ c ∈ l, c < G.m ∧ G.up c = none ∧ plD t op x ≠ c) (hn : l.Nodup) (hm : G.m + l.length ≤ 1000000) :
    ∃ A B, G.kids (plD t op x) = A ++ B ∧ m_spec_forest_inserted (((), a, b), opc, some x, l.map some, ks, G.kst P) = some (((), a, b), ks, (G.hang (plD t op x) A l B).kst P) ∧ Rz t (G.hang (plD t op x) A l B) C (stD t op x l' D) := by
  have hp := hT.pl
  have hpm : plD t op x < G.m := Nat.lt_of_lt_of_le hp hz.le
  have hkl := fo_klen hz.ok (plD t op x)
  have key : ∀ A B A' B', G.kids (plD t op x) = A ++ B → F2 (It t C) A A' → F2 (It t C) B B' → befD t op x D = A' → aftD t op x D = B' → m_spec_forest_inserted (((), a, b), opc, some x, l.map some, ks, G.kst P) = some (((), a, b), ks, (G.hang (plD t op x) A l B).kst P) →
      ∃ A B, G.kids (plD t op x) = A ++ B ∧ m_spec_forest_inserted (((), a, b), opc, some x, l.map some, ks, G.kst P) = some (((), a, b), ks, (G.hang (plD t op x) A l B).kst P) ∧ Rz t (G.hang (plD t op x) A l B) C (stD t op x l' D) := fun A B A' B' k1 k2 k3 k4 k5 k6 => by
    refine ⟨A, B, k1, k6, ?_⟩
    unfold stD
    rw [k4, k5]
    exact hz.hang hp k1 k2 k3 hl h1 hn (fun _ _ _ h => h)
  rcases hop with ⟨rfl, rfl⟩ | ⟨rfl, rfl⟩ | ⟨hop, rfl⟩
  · exact key (G.kids x) [] (D x) [] (by simp [plD]) (hz.kid x hT.lt) .nil rfl rfl (inserted_app a b ks hz.ok hpm h1 hn (by have : (G.kids x).length ≤ G.m := hkl; omega))
  · exact key [] (G.kids x) [] (D x) (by simp [plD]) .nil (hz.kid x hT.lt) rfl rfl (inserted_pre a b ks hz.ok hpm rfl h1 hn (by have : (G.kids x).length ≤ G.m := hkl; omega))
  · obtain ⟨q, hq, hmq⟩ := hT.p rfl
    have hpl : plD t 3 x = q := by simp [plD, parN, hq]
    have hpn : parN t x = q := by simp [parN, hq]
    rw [hpl] at hp hpm hkl key h1 ⊢
    obtain ⟨A', B', e1, e2, e3, e4⟩ := split_first hmq
    obtain ⟨A, B, g1, g2, g3⟩ := hz.at hp hT.lt e1
    have hk : G.kids q = (A ++ [x]) ++ B := by rw [g1]; simp
    have hu := (hz.ok.kid (p := q) (c := x) (by rw [g1]; simp)).1
    have f3 : ¬ (3 : Nat) = 1 := by decide
    have f4 : ¬ (3 : Nat) = 2 := by decide
    have hkl' := hkl
    rw [hk] at hkl'
    simp only [List.length_append, List.length_cons, List.length_nil] at hkl'
    exact key (A ++ [x]) B (A' ++ [x]) B' hk (g2.append (.cons (.orig hT.lt) .nil)) g3 (by simp only [befD, if_neg f3, if_neg f4, hpn, e3]) (by simp only [aftD, if_neg f3, if_neg f4, hpn, e4]) (inserted_aft hop a b ks hz.ok hpm (Nat.lt_of_lt_of_le hT.lt hz.le) hu hk h1 hn (by omega))
theorem targets_spec (hR : RT t) {opc : Int} (hop : opD opc op) {xs : List Nat} {xl : Nat} (h : Tgm t op xs xl ws) (hxs : xs.length ≤ 200) (ks : List (Option Nat)) :
    ∀ (d i : Nat) (G : Fo) (P : Nat → Int × Node) (a : Int) (ob : Bool), xs.length - i = d → i ≤ xs.length → Sm t G P (Dm t op ws (xs.take i) (FT t).kids) a ob → Sub t ws G → a + (xs.length - i : Nat) * sumS t ws ≤ 50000 →
      ∃ (H : Fo) (P' : Nat → Int × Node) (a' : Int) (ob' : Bool), loopO m_spec_forest_insert_0 (((), a, ob), opc, (xs ++ [xl]).map some, ws.map some, (i : Int), G.kst P, ks) = some (((), a', ob'), opc, (xs ++ [xl]).map some, H.kst P', ks) ∧ Sm t H P' (Df t op ws xs xl) a' ob' ∧ a' ≤ a + (xs.length - i : Nat) * sumS t ws := by
  have hlen := hR.len
  have hwl := h.ts.ds.len hlen
  intro d
  induction d with
  | zero =>
    intro i G P a ob hd hi hI hS ha
    obtain rfl : i = xs.length := by omega
    rw [List.take_of_length_le (Nat.le_refl _)] at hI
    have ha' : a ≤ 50000 := by simpa using ha
    have hGm := hI.m
    have hkl := fun i => fo_klen hI.rz.ok i
    have hT : Tg t op xl (Dm t op ws xs (FT t).kids) := Tg.dm (fun y hy => h.ts.tg y (by simp [hy])) (h.ts.tg xl (by simp))
    have hTf := hT.fi (l := ws) (h.ts.xw xl (by simp))
    have hpw := h.ts.pw xl (by simp)
    have hws : ∀ w ∈ ws, w < G.m := fun w hw => Nat.lt_of_lt_of_le (h.ts.ds.bd w hw) hI.rz.le
    have hcut := cutl_eq (F := G) (P := P) (l := ws) a ob opc ks ((xs ++ [xl]).map some) (i := xs.length) (by simp) (by omega) hI.rz.ok (fun i => by have := hkl i; omega) hws (by omega) ws.length 0 rfl (Nat.zero_le _)
    rw [List.take_zero, off_nil] at hcut
    have hrz : Rz t (G.off ws) (CS ob t (G.off ws) P) (fiD ws (Dm t op ws xs (FT t).kids)) := hI.rz.off h.ts.ds.bd (fun c y _ hc => hc.off hI.rz.inc h.ts.ds.bd)
    obtain ⟨A, B, k1, k2, k3⟩ := inserted_st (a := a) (P := P) hop ob ks hrz hTf (l := ws) (l' := ws) (F2.refl fun w hw => .orig (h.ts.ds.bd w hw)) (fun c hc => ⟨hws c hc, off_up_none hc, fun e => hpw ⟨c, hc, by rw [e]; exact hld_self hR (h.ts.ds.bd c hc)⟩⟩) h.ts.ds.nd (by show G.m + _ ≤ _; omega)
    have hg : ((xs ++ [xl]).map some)[xs.length]? = some (some xl) := by simp
    have hcut' : loopO m_spec_forest_insert_0_0 (((), a, ob), opc, (xs ++ [xl]).map some, ws.map some, (xs.length : Int), [], (0 : Int), G.kst P, ks) = _ := hcut
    have step : m_spec_forest_insert_0 (((), a, ob), opc, (xs ++ [xl]).map some, ws.map some, (xs.length : Int), G.kst P, ks) = some (.nx (((), a, ob), opc, (xs ++ [xl]).map some, ws.map some, ((xs.length + 1 : Nat) : Int), ((G.off ws).hang (plD t op xl) A ws B).kst P, ks)) := by
      simp only [m_spec_forest_insert_0, cond_dec, hcut', bind_some, atI_nat, hg, k2]
      rw [if_pos (by simp; omega), w64 (by omega) (by omega)]
      rfl
    refine ⟨_, P, a, ob, ?_, ⟨k3.imp fun c y _ hc => hc.hang hT.pl, hI.lab, hI.neg, hI.m, hI.lim⟩, by simp⟩
    rw [loopO_nx step]
    refine loopO_out ?_
    simp only [m_spec_forest_insert_0, cond_dec]
    rw [if_neg (by simp)]
  | succ d ih =>
    intro i G P a ob hd hi hI hS ha
    obtain ⟨x, hxi⟩ := get_lt (l := xs) (k := i) (by omega)
    have hxm := List.mem_of_getElem? hxi
    have e1 : xs.take (i + 1) = xs.take i ++ [x] := by rw [List.take_add_one, hxi]; rfl
    have hT : Tg t op x (Dm t op ws (xs.take i) (FT t).kids) := Tg.dm (fun y hy => h.ts.tg y (by simp [List.mem_of_mem_take hy])) (h.ts.tg x (by simp [hxm]))
    have hpw := h.ts.pw x (by simp [hxm])
    have hmul : (xs.length - i : Nat) * sumS t ws = (xs.length - (i + 1) : Nat) * sumS t ws + sumS t ws := by
      rw [show xs.length - i = (xs.length - (i + 1)) + 1 by omega, Nat.add_mul]; omega
    have hmul' : ((xs.length - i : Nat) : Int) * (sumS t ws : Int) = ((xs.length - (i + 1) : Nat) : Int) * (sumS t ws : Int) + sumS t ws := by exact_mod_cast hmul
    have hnn : (0 : Int) ≤ ((xs.length - (i + 1) : Nat) : Int) * (sumS t ws : Int) := by exact_mod_cast Nat.zero_le _
    obtain ⟨H, P', a', ob', l, q1, q2, q3, q4, q5⟩ := copies_spec (D := Dm t op ws (xs.take i) (FT t).kids) hR h.ts.ds.bd (by omega) opc ((xs ++ [xl]).map some) ks (i := i) (by simp; omega) (by simp; omega) ws.length 0 G P a ob [] rfl (Nat.zero_le _) hI hS ⟨by simp, (fun c hc => by cases hc), by simp only [List.take_zero]; exact .nil⟩ (by rw [List.drop_zero]; omega)
    rw [List.drop_zero] at q5
    have hHm := q2.m
    have hll := forall2_len q4.cp
    have hll' : F2 (It t (CS ob' t H P')) l (ws.map fun w => t.length + w) := by
      have : ∀ {l m : List Nat}, (∀ c ∈ l, t.length ≤ c ∧ c < H.m ∧ H.up c = none) → F2 (fun c w => CS ob' t H P' c w) l m → F2 (It t (CS ob' t H P')) l (m.map fun w => t.length + w) := fun {l m} h1 h2 => by
        induction h2 with
        | nil => exact .nil
        | cons h3 _ ih => exact .cons (.inr ⟨Nat.le_add_right _ _, (h1 _ (by simp)).1, show CS ob' t H P' _ (t.length + _ - t.length) by rw [Nat.add_sub_cancel_left]; exact h3⟩) (ih fun c hc => h1 c (by simp [hc]))
      exact this q4.at' q4.cp
    have hpl := hT.pl
    obtain ⟨A, B, k1, k2, k3⟩ := inserted_st (a := a') (P := P') hop ob' ks q2.rz hT hll' (fun c hc => ⟨(q4.at' c hc).2.1, (q4.at' c hc).2.2, by have := (q4.at' c hc).1; omega⟩) q4.nd (by omega)
    have hg : ((xs ++ [xl]).map some)[i]? = some (some x) := by
      rw [List.getElem?_map, List.getElem?_append_left (by omega), hxi]; rfl
    have q1' : loopO m_spec_forest_insert_0_0 (((), a, ob), opc, (xs ++ [xl]).map some, ws.map some, (i : Int), [], (0 : Int), G.kst P, ks) = _ := q1
    have step : m_spec_forest_insert_0 (((), a, ob), opc, (xs ++ [xl]).map some, ws.map some, (i : Int), G.kst P, ks) = some (.nx (((), a', ob'), opc, (xs ++ [xl]).map some, ws.map some, ((i + 1 : Nat) : Int), (H.hang (plD t op x) A l B).kst P', ks)) := by
      simp only [m_spec_forest_insert_0, cond_dec, q1', bind_some, atI_nat, hg, k2]
      rw [if_pos (by simp; omega), w64 (by omega) (by omega)]
      rfl
    have hS' : Sub t ws (H.hang (plD t op x) A l B) := fun y hy => by
      have hne : y ≠ plD t op x := fun e => hpw (e ▸ hy)
      simp only [Fo.hang, if_neg hne]
      exact q3 y hy
    rw [← Dm_snoc, ← e1] at k3
    obtain ⟨H', P'', a'', ob'', r1, r2, r3⟩ := ih (i + 1) _ P' a' ob' (by omega) (by omega) ⟨k3.imp fun c y _ hc => hc.hang hpl, q2.lab, q2.neg, q2.m, q2.lim⟩ hS' (by omega)
    exact ⟨H', P'', a'', ob'', by rw [loopO_nx step]; exact r1, r2, by omega⟩
end
end Go.Proofs.Ytfmlpodcldhgdaa.V
set_option linter.unusedVariables false
set_option linter.unusedSimpArgs false
namespace Go.Proofs.Ytfmlpodcldhgdaa.V
open Go
section
variable {t : List Node} {o : Nat} {ws : List Nat} {a : Int} {ks : List (Option Nat)}
end
end Go.Proofs.Ytfmlpodcldhgdaa.V
set_option linter.unusedVariables false
set_option linter.unusedSimpArgs false
namespace Go.Proofs.Ytfmlpodcldhgdaa.V
open Go Go.Proofs
abbrev p_spec_Sub : Pt := [(0, .lst .node), (1, .int .i64)]
abbrev q_spec_Sub : Pt := [(0, .lst .node)]
noncomputable def m_spec_Sub : Tup p_spec_Sub → Option (Tup q_spec_Sub) := fun (x : List Node × Int) => Option.bind (atI x.1 x.2) fun (v : Node) => Option.bind (subL x.1 x.2 (IntKind.wrap .i64 (x.2 + Node.size v))) fun (m : List Node) => some m
noncomputable def cx_spec_Sub : Cx := ⟨tb, lookE [], lookS []⟩
theorem ck_spec_Sub : CxOK Try.prog (cx_spec_Sub) := cx_ok tb_ok .nil
noncomputable def e_spec_Sub : Ent := ⟨0, p_spec_Sub, q_spec_Sub, m_spec_Sub⟩
theorem ok_spec_Sub : FnOK Try.prog 20 e_spec_Sub := fn_ok (L := lookL []) ck_spec_Sub mixed Try.func20 rfl (by kernel_rfl) (by kernel_rfl) (ls_ok (l := []) (by kernel_rfl) .nil) (by intro x; kernel_rfl)
abbrev p_spec_sameNode : Pt := [(0, .el .node), (1, .el .node)]
abbrev q_spec_sameNode : Pt := [(0, .bool)]
abbrev p_spec_sameNode_0 : Pt := [(2, .blk .node 44), (3, .blk .node 44), (5, .int .i64)]
abbrev x_spec_sameNode_0 : List (Xt × Pt) := [(.ex 0, []), (.rt, [(4, .bool)])]
noncomputable def m_spec_sameNode_0 : Tup p_spec_sameNode_0 → Option (Stp (Tup p_spec_sameNode_0) (SumT (x_spec_sameNode_0.map (·.2)))) := fun (x : Node × Node × Int) => bif decide (x.2.2 < (↑(List.length (Node.attrs x.1)) : Int)) then Option.bind (atI (Node.attrs x.1) x.2.2) fun (v : Attr) => Option.bind (atI (Node.attrs x.2.1) x.2.2) fun (v_1 : Attr) => bif !decide (Prod.fst (Attr.key v, Attr.val v) = Prod.fst (Attr.key v_1, Attr.val v_1) ∧ Prod.snd (Attr.key v, Attr.val v) = Prod.snd (Attr.key v_1, Attr.val v_1)) then some (Stp.out (Sum.inr false)) else some (Stp.nx ({ kind := Node.kind x.1, tag := Node.tag x.1, text := Node.text x.1, attrs := Node.attrs x.1, size := Node.size x.1 }, { kind := Node.kind x.2.1, tag := Node.tag x.2.1, text := Node.text x.2.1, attrs := Node.attrs x.2.1, size := Node.size x.2.1 }, IntKind.wrap .i64 (x.2.2 + (1 : Int)))) else some (Stp.out (Sum.inl ()))
noncomputable def m_spec_sameNode : Tup p_spec_sameNode → Option (Tup q_spec_sameNode) := fun (x : Node × Node) => bif decide (Node.kind x.1 ≠ Node.kind x.2) then some false else bif decide (Node.tag x.1 ≠ Node.tag x.2) then some false else bif decide (Node.text x.1 ≠ Node.text x.2) then some false else bif decide (Node.size x.1 ≠ Node.size x.2) then some false else bif decide ((↑(List.length (Node.attrs x.1)) : Int) ≠ (↑(List.length (Node.attrs x.2)) : Int)) then some false else Option.bind (loopO m_spec_sameNode_0 ({ kind := Node.kind x.1, tag := Node.tag x.1, text := Node.text x.1, attrs := Node.attrs x.1, size := Node.size x.1 }, { kind := Node.kind x.2, tag := Node.tag x.2, text := Node.text x.2, attrs := Node.attrs x.2, size := Node.size x.2 }, (0 : Int))) fun (y : PUnit ⊕ Bool) => selim (fun (y : PUnit) => some true) (fun (y : Bool) => some y) y
noncomputable def cx_spec_sameNode : Cx := ⟨tb, lookE [], lookS [(6, [(true, 0), (true, 1), (true, 2), (true, 3), (true, 4), (true, 5), (true, 6), (true, 7), (true, 8), (true, 9), (true, 10)])]⟩
theorem ck_spec_sameNode : CxOK Try.prog (cx_spec_sameNode) := cx_ok tb_ok .nil
noncomputable def c_spec_sameNode_0 : Code := loopAt (Go.Proofs.Try.f49.body.getD .skip) 0
noncomputable def l_spec_sameNode_0 : LEnt := ⟨p_spec_sameNode_0, x_spec_sameNode_0, loopO (m_spec_sameNode_0)⟩
theorem lo_spec_sameNode_0 : LOK Try.prog 59 0 false (l_spec_sameNode_0) c_spec_sameNode_0 := loop_ok (body := m_spec_sameNode_0) (L := lookL []) (ck_spec_sameNode) mixed (ls_ok (l := []) (by kernel_rfl) .nil) (by intro x; kernel_rfl) (fun x y h => loopO_iff.1 h)
noncomputable def e_spec_sameNode : Ent := ⟨0, p_spec_sameNode, q_spec_sameNode, m_spec_sameNode⟩
theorem ok_spec_sameNode : FnOK Try.prog 49 e_spec_sameNode := fn_ok (L := lookL [(0, l_spec_sameNode_0)]) ck_spec_sameNode mixed Try.func49 rfl (by kernel_rfl) (by kernel_rfl) (ls_ok (l := [(0, c_spec_sameNode_0)]) (by kernel_rfl) (.cons rfl (lo_spec_sameNode_0) .nil)) (by intro x; kernel_rfl)
abbrev p_spec_SameTree : Pt := [(0, .lst .node), (1, .lst .node)]
abbrev q_spec_SameTree : Pt := [(0, .bool)]
abbrev p_spec_SameTree_0 : Pt := [(0, .lst .node), (1, .lst .node), (5, .int .i64)]
abbrev x_spec_SameTree_0 : List (Xt × Pt) := [(.ex 0, []), (.rt, [(4, .bool)])]
noncomputable def m_spec_SameTree_0 : Tup p_spec_SameTree_0 → Option (Stp (Tup p_spec_SameTree_0) (SumT (x_spec_SameTree_0.map (·.2)))) := fun (x : List Node × List Node × Int) => bif decide (x.2.2 < (↑(List.length x.1) : Int)) then Option.bind (atI x.1 x.2.2) fun (v : Node) => Option.bind (atI x.2.1 x.2.2) fun (v_1 : Node) => Option.bind (m_spec_sameNode ({ kind := Node.kind v, tag := Node.tag v, text := Node.text v, attrs := Node.attrs v, size := Node.size v }, { kind := Node.kind v_1, tag := Node.tag v_1, text := Node.text v_1, attrs := Node.attrs v_1, size := Node.size v_1 })) fun (r : Bool) => bif !r then some (Stp.out (Sum.inr false)) else some (Stp.nx (x.1, x.2.1, IntKind.wrap .i64 (x.2.2 + (1 : Int)))) else some (Stp.out (Sum.inl ()))
noncomputable def m_spec_SameTree : Tup p_spec_SameTree → Option (Tup q_spec_SameTree) := fun (x : List Node × List Node) => bif decide ((↑(List.length x.1) : Int) ≠ (↑(List.length x.2) : Int)) then some false else Option.bind (loopO m_spec_SameTree_0 (x.1, x.2, (0 : Int))) fun (y : PUnit ⊕ Bool) => selim (fun (y : PUnit) => some true) (fun (y : Bool) => some y) y
noncomputable def cx_spec_SameTree : Cx := ⟨tb, lookE [(49, e_spec_sameNode)], lookS [(6, [(true, 0), (true, 1), (true, 2), (true, 3), (true, 4), (true, 5), (true, 6), (true, 7), (false, 8), (true, 9)])]⟩
theorem ck_spec_SameTree : CxOK Try.prog (cx_spec_SameTree) := cx_ok tb_ok (.cons ok_spec_sameNode Try.call49 .nil)
noncomputable def c_spec_SameTree_0 : Code := loopAt (Go.Proofs.Try.f19.body.getD .skip) 0
noncomputable def l_spec_SameTree_0 : LEnt := ⟨p_spec_SameTree_0, x_spec_SameTree_0, loopO (m_spec_SameTree_0)⟩
theorem lo_spec_SameTree_0 : LOK Try.prog 27 0 false (l_spec_SameTree_0) c_spec_SameTree_0 := loop_ok (body := m_spec_SameTree_0) (L := lookL []) (ck_spec_SameTree) mixed (ls_ok (l := []) (by kernel_rfl) .nil) (by intro x; kernel_rfl) (fun x y h => loopO_iff.1 h)
noncomputable def e_spec_SameTree : Ent := ⟨0, p_spec_SameTree, q_spec_SameTree, m_spec_SameTree⟩
theorem ok_spec_SameTree : FnOK Try.prog 19 e_spec_SameTree := fn_ok (L := lookL [(0, l_spec_SameTree_0)]) ck_spec_SameTree mixed Try.func19 rfl (by kernel_rfl) (by kernel_rfl) (ls_ok (l := [(0, c_spec_SameTree_0)]) (by kernel_rfl) (.cons rfl (lo_spec_SameTree_0) .nil)) (by intro x; kernel_rfl)
abbrev p_spec_Shaped : Pt := [(0, .lst .node)]
abbrev q_spec_Shaped : Pt := [(0, .bool)]
abbrev p_spec_Shaped_0 : Pt := [(0, .lst .node), (3, .int .i64)]
abbrev x_spec_Shaped_0 : List (Xt × Pt) := [(.ex 0, [(0, .lst .node)]), (.rt, [(2, .bool)])]
noncomputable def m_spec_Shaped_0 : Tup p_spec_Shaped_0 → Option (Stp (Tup p_spec_Shaped_0) (SumT (x_spec_Shaped_0.map (·.2)))) := fun (x : List Node × Int) => bif decide (x.2 < (↑(List.length x.1) : Int)) then Option.bind (atI x.1 x.2) fun (v : Node) => bif decide (Node.size v < (1 : Int)) then some (Stp.out (Sum.inr false)) else bif decide (IntKind.wrap .i64 ((↑(List.length x.1) : Int) - x.2) < Node.size v) then some (Stp.out (Sum.inr false)) else bif decide ((0 : Int) < x.2) then bif decide (Node.kind v = (1 : Int)) then some (Stp.out (Sum.inr false)) else bif decide (Node.kind v < (1 : Int)) then some (Stp.out (Sum.inr false)) else bif decide ((5 : Int) < Node.kind v) then some (Stp.out (Sum.inr false)) else bif decide ((1 : Int) < Node.size v) then bif decide (Node.kind v ≠ (1 : Int)) then bif decide (Node.kind v ≠ (3 : Int)) then some (Stp.out (Sum.inr false)) else some (Stp.nx (x.1, IntKind.wrap .i64 (x.2 + (1 : Int)))) else some (Stp.nx (x.1, IntKind.wrap .i64 (x.2 + (1 : Int)))) else some (Stp.nx (x.1, IntKind.wrap .i64 (x.2 + (1 : Int)))) else bif decide (Node.kind v < (1 : Int)) then some (Stp.out (Sum.inr false)) else bif decide ((5 : Int) < Node.kind v) then some (Stp.out (Sum.inr false)) else bif decide ((1 : Int) < Node.size v) then bif decide (Node.kind v ≠ (1 : Int)) then bif decide (Node.kind v ≠ (3 : Int)) then some (Stp.out (Sum.inr false)) else some (Stp.nx (x.1, IntKind.wrap .i64 (x.2 + (1 : Int)))) else some (Stp.nx (x.1, IntKind.wrap .i64 (x.2 + (1 : Int)))) else some (Stp.nx (x.1, IntKind.wrap .i64 (x.2 + (1 : Int)))) else some (Stp.out (Sum.inl x.1))
noncomputable def m_spec_Shaped : Tup p_spec_Shaped → Option (Tup q_spec_Shaped) := fun (x : List Node) => bif decide ((↑(List.length x) : Int) = (0 : Int)) then some false else Option.bind (atI x (0 : Int)) fun (v : Node) => bif decide (Node.kind v ≠ (1 : Int)) then some false else Option.bind (atI x (0 : Int)) fun (v : Node) => bif decide (Node.size v ≠ (↑(List.length x) : Int)) then some false else Option.bind (loopO m_spec_Shaped_0 (x, (0 : Int))) fun (y : List Node ⊕ Bool) => selim (fun (y : List Node) => Option.bind (m_spec_sized big (y, (0 : Int), (↑(List.length y) : Int), (2000 : Int))) fun (r : Bool) => some r) (fun (y : Bool) => some y) y
noncomputable def cx_spec_Shaped : Cx := ⟨tb, lookE [(39, e_spec_sized)], lookS []⟩
theorem ck_spec_Shaped : CxOK Try.prog (cx_spec_Shaped) := cx_ok tb_ok (.cons ok_spec_sized Try.call39 .nil)
noncomputable def c_spec_Shaped_0 : Code := loopAt (Go.Proofs.Try.f55.body.getD .skip) 0
noncomputable def l_spec_Shaped_0 : LEnt := ⟨p_spec_Shaped_0, x_spec_Shaped_0, loopO (m_spec_Shaped_0)⟩
theorem lo_spec_Shaped_0 : LOK Try.prog 82 0 false (l_spec_Shaped_0) c_spec_Shaped_0 := loop_ok (body := m_spec_Shaped_0) (L := lookL []) (ck_spec_Shaped) mixed (ls_ok (l := []) (by kernel_rfl) .nil) (by intro x; kernel_rfl) (fun x y h => loopO_iff.1 h)
noncomputable def e_spec_Shaped : Ent := ⟨0, p_spec_Shaped, q_spec_Shaped, m_spec_Shaped⟩
theorem ok_spec_Shaped : FnOK Try.prog 55 e_spec_Shaped := fn_ok (L := lookL [(0, l_spec_Shaped_0)]) ck_spec_Shaped mixed Try.func55 rfl (by kernel_rfl) (by kernel_rfl) (ls_ok (l := [(0, c_spec_Shaped_0)]) (by kernel_rfl) (.cons rfl (lo_spec_Shaped_0) .nil)) (by intro x; kernel_rfl)
end Go.Proofs.Ytfmlpodcldhgdaa.V
set_option linter.unusedVariables false
set_option linter.unusedSimpArgs false
namespace Go.Proofs.Ytfmlpodcldhgdaa.V
open Go Go.Proofs
abbrev p_laws_step7 : Pt := [(0, .int .i64), (1, .lst .int), (2, .lst .int)]
abbrev q_laws_step7 : Pt := [(0, .el (.rc (.int .i64) [.ints, .ints, .str, .str, .strs] 0))]
noncomputable def m_laws_step7 : Tup p_laws_step7 → Option (Tup q_laws_step7) := fun (x : Int × List Int × List Int) => some (x.1, x.2.1, x.2.2, [], [], [])
noncomputable def cx_laws_step7 : Cx := ⟨tb, lookE [], lookS []⟩
theorem ck_laws_step7 : CxOK Try.prog (cx_laws_step7) := cx_ok tb_ok .nil
noncomputable def e_laws_step7 : Ent := ⟨0, p_laws_step7, q_laws_step7, m_laws_step7⟩
theorem ok_laws_step7 : FnOK Try.prog 22 e_laws_step7 := fn_ok (L := lookL []) ck_laws_step7 mixed Try.func22 rfl (by kernel_rfl) (by kernel_rfl) (ls_ok (l := []) (by kernel_rfl) .nil) (by intro x; kernel_rfl)
abbrev p_laws_sure7 : Pt := [(0, .lst .node), (1, .el (.rc (.int .i64) [.ints, .ints, .str, .str, .strs] 0))]
abbrev q_laws_sure7 : Pt := [(0, .bool)]
noncomputable def m_laws_sure7 : Tup p_laws_sure7 → Option (Tup q_laws_sure7) := fun (x : List Node × Int × List Int × List Int × List UInt8 × List UInt8 × List (List UInt8)) => Option.bind (m_spec_Changed_f (x.1, [(x.2.1, x.2.2.1, x.2.2.2.1, x.2.2.2.2.1, x.2.2.2.2.2.1, x.2.2.2.2.2.2)])) fun (r : List Node × List Int × Bool) => some r.2.2
noncomputable def cx_laws_sure7 : Cx := ⟨tb, lookE [(50, e_spec_Changed_f)], lookS []⟩
theorem ck_laws_sure7 : CxOK Try.prog (cx_laws_sure7) := cx_ok tb_ok (.cons ok_spec_Changed_f Try.call50 .nil)
noncomputable def e_laws_sure7 : Ent := ⟨0, p_laws_sure7, q_laws_sure7, m_laws_sure7⟩
theorem ok_laws_sure7 : FnOK Try.prog 21 e_laws_sure7 := fn_ok (L := lookL []) ck_laws_sure7 mixed Try.func21 rfl (by kernel_rfl) (by kernel_rfl) (ls_ok (l := []) (by kernel_rfl) .nil) (by intro x; kernel_rfl)
abbrev p_laws_told7 : Pt := [(0, .lst .node), (1, .lst .node), (2, .lst .int), (3, .bool)]
abbrev q_laws_told7 : Pt := [(0, .bool)]
noncomputable def m_laws_told7 : Tup p_laws_told7 → Option (Tup q_laws_told7) := fun (x : List Node × List Node × List Int × Bool) => bif x.2.2.2 then bif decide ((↑(List.length x.2.2.1) : Int) = (↑(List.length x.1) : Int)) then Option.bind (m_spec_Shaped x.2.1) fun (r : Bool) => some r else some false else some false
noncomputable def cx_laws_told7 : Cx := ⟨tb, lookE [(55, e_spec_Shaped)], lookS []⟩
theorem ck_laws_told7 : CxOK Try.prog (cx_laws_told7) := cx_ok tb_ok (.cons ok_spec_Shaped Try.call55 .nil)
noncomputable def e_laws_told7 : Ent := ⟨0, p_laws_told7, q_laws_told7, m_laws_told7⟩
theorem ok_laws_told7 : FnOK Try.prog 24 e_laws_told7 := fn_ok (L := lookL []) ck_laws_told7 mixed Try.func24 rfl (by kernel_rfl) (by kernel_rfl) (ls_ok (l := []) (by kernel_rfl) .nil) (by intro x; kernel_rfl)
abbrev p_laws_FnCopies : Pt := [(0, .lst .node), (1, .lst .int), (2, .int .i64)]
abbrev q_laws_FnCopies : Pt := [(0, .bool)]
abbrev p_laws_FnCopies_0 : Pt := [(0, .lst .node), (1, .lst .int), (2, .int .i64), (7, .lst .node), (8, .lst .int), (10, .int .i64)]
abbrev x_laws_FnCopies_0 : List (Xt × Pt) := [(.ex 0, []), (.rt, [(6, .bool)])]
noncomputable def m_laws_FnCopies_0 : Tup p_laws_FnCopies_0 → Option (Stp (Tup p_laws_FnCopies_0) (SumT (x_laws_FnCopies_0.map (·.2)))) := fun (x : List Node × List Int × Int × List Node × List Int × Int) => bif decide (x.2.2.2.2.2 < (↑(List.length x.2.1) : Int)) then Option.bind (atI x.2.1 x.2.2.2.2.2) fun (v : Int) => Option.bind (atI x.2.2.2.2.1 v) fun (v : Int) => bif decide (v < (0 : Int)) then some (Stp.out (Sum.inr false)) else Option.bind (atI x.2.1 x.2.2.2.2.2) fun (v : Int) => Option.bind (atI x.2.2.2.2.1 v) fun (v : Int) => Option.bind (m_spec_Kids (x.2.2.2.1, v)) fun (r : List Int) => bif decide ((↑(List.length r) : Int) = (0 : Int)) then some (Stp.out (Sum.inr false)) else Option.bind (atI r (IntKind.wrap .i64 ((↑(List.length r) : Int) - (1 : Int)))) fun (x_1 : Int) => Option.bind r[Int.toNat (IntKind.wrap .i64 ((↑(List.length r) : Int) - (1 : Int)))]? fun (v : Int) => Option.bind (m_spec_Sub (x.2.2.2.1, v)) fun (r_1 : List Node) => Option.bind (m_spec_Sub (x.1, x.2.2.1)) fun (r_2 : List Node) => Option.bind (m_spec_SameTree (r_1, r_2)) fun (r_3 : Bool) => bif !r_3 then some (Stp.out (Sum.inr false)) else Option.bind (atI r (IntKind.wrap .i64 ((↑(List.length r) : Int) - (1 : Int)))) fun (x_2 : Int) => Option.bind r[Int.toNat (IntKind.wrap .i64 ((↑(List.length r) : Int) - (1 : Int)))]? fun (v : Int) => Option.bind (atI x.2.2.2.2.1 x.2.2.1) fun (v_1 : Int) => bif !decide (v = v_1) == decide (x.2.2.2.2.2 = IntKind.wrap .i64 ((↑(List.length x.2.1) : Int) - (1 : Int))) then some (Stp.out (Sum.inr false)) else some (Stp.nx (x.1, x.2.1, x.2.2.1, x.2.2.2.1, x.2.2.2.2.1, IntKind.wrap .i64 (x.2.2.2.2.2 + (1 : Int)))) else some (Stp.out (Sum.inl ()))
noncomputable def m_laws_FnCopies : Tup p_laws_FnCopies → Option (Tup q_laws_FnCopies) := fun (x : List Node × List Int × Int) => Option.bind (m_laws_zzFits1 x.1) fun (r : Bool) => bif !r then some true else bif decide ((2147483647 : Int) < (↑(List.length x.2.1) : Int)) then some true else Option.bind (m_laws_step7 ((1 : Int), x.2.1, [x.2.2])) fun (r : Int × List Int × List Int × List UInt8 × List UInt8 × List (List UInt8)) => Option.bind (m_laws_sure7 (x.1, r.1, r.2.1, r.2.2.1, r.2.2.2.1, r.2.2.2.2.1, r.2.2.2.2.2)) fun (r : Bool) => bif !r then some true else Option.bind (m_impl_AppendOf_f (x.1, x.2.1, [x.2.2])) fun (r : List Node × List Int × Bool) => Option.bind (m_laws_told7 (x.1, r.1, r.2.1, r.2.2)) fun (r_1 : Bool) => bif !r_1 then some false else Option.bind (atI x.1 x.2.2) fun (v : Node) => bif decide ((↑(List.length r.1) : Int) ≠ IntKind.wrap .i64 ((↑(List.length x.1) : Int) + IntKind.wrap .i64 (IntKind.wrap .i64 ((↑(List.length x.2.1) : Int) - (1 : Int)) * Node.size v))) then some false else Option.bind (loopO m_laws_FnCopies_0 (x.1, x.2.1, x.2.2, r.1, r.2.1, (0 : Int))) fun (y : PUnit ⊕ Bool) => selim (fun (y : PUnit) => some true) (fun (y : Bool) => some y) y
noncomputable def cx_laws_FnCopies : Cx := ⟨tb, lookE [(13, e_laws_zzFits1), (22, e_laws_step7), (21, e_laws_sure7), (23, e_impl_AppendOf_f), (24, e_laws_told7), (25, e_spec_Kids), (20, e_spec_Sub), (19, e_spec_SameTree)], lookS [(16, [(true, 0), (true, 1), (true, 2), (true, 3), (true, 4), (true, 5), (true, 6), (true, 7), (true, 8), (true, 9), (true, 10), (true, 11)])]⟩
theorem ck_laws_FnCopies : CxOK Try.prog (cx_laws_FnCopies) := cx_ok tb_ok (.cons ok_laws_zzFits1 Try.call13 (.cons ok_laws_step7 Try.call22 (.cons ok_laws_sure7 Try.call21 (.cons ok_impl_AppendOf_f Try.call23 (.cons ok_laws_told7 Try.call24 (.cons ok_spec_Kids Try.call25 (.cons ok_spec_Sub Try.call20 (.cons ok_spec_SameTree Try.call19 .nil))))))))
noncomputable def c_laws_FnCopies_0 : Code := loopAt (Go.Proofs.Try.f5.body.getD .skip) 0
noncomputable def l_laws_FnCopies_0 : LEnt := ⟨p_laws_FnCopies_0, x_laws_FnCopies_0, loopO (m_laws_FnCopies_0)⟩
theorem lo_laws_FnCopies_0 : LOK Try.prog 119 0 false (l_laws_FnCopies_0) c_laws_FnCopies_0 := loop_ok (body := m_laws_FnCopies_0) (L := lookL []) (ck_laws_FnCopies) mixed (ls_ok (l := []) (by kernel_rfl) .nil) (by intro x; kernel_rfl) (fun x y h => loopO_iff.1 h)
noncomputable def e_laws_FnCopies : Ent := ⟨0, p_laws_FnCopies, q_laws_FnCopies, m_laws_FnCopies⟩
theorem ok_laws_FnCopies : FnOK Try.prog 5 e_laws_FnCopies := fn_ok (L := lookL [(0, l_laws_FnCopies_0)]) ck_laws_FnCopies mixed Try.func5 rfl (by kernel_rfl) (by kernel_rfl) (ls_ok (l := [(0, c_laws_FnCopies_0)]) (by kernel_rfl) (.cons rfl (lo_laws_FnCopies_0) .nil)) (by intro x; kernel_rfl)
end Go.Proofs.Ytfmlpodcldhgdaa.V
set_option linter.unusedVariables false
set_option linter.unusedSimpArgs false
namespace Go.Proofs.Ytfmlpodcldhgdaa.V
open Go
section
variable {t : List Node} {o p : Nat} {ws A B : List Nat} {n : Nat}
theorem big_ex : ∃ n, big = n ∧ 1000000 ≤ n := ⟨big, rfl, by unfold big; omega⟩
theorem Ht.sub {K K' : Nat → List Nat} (h : ∀ x y, y ∈ K' x → y ∈ K x) : ∀ {n x : Nat}, Ht K n x → Ht K' n x
  | 0, _, hh => hh
  | n + 1, x, hh => fun y hy => Ht.sub h (hh y (h x y hy))
theorem fill_eq (a : Int) (b : Bool) (S : List KN) (ks : List (Option Nat)) {m : Nat} (hm : m ≤ 1000000) : ∀ d j : Nat, m - j = d → j ≤ m → loopO m_spec_Changed_1 (((), a, b), List.replicate j (-1) ++ List.replicate (m - j) 0, (j : Int), S, ks) = some (((), a, b), List.replicate m (-1), S, ks) := by
  intro d
  induction d with
  | zero =>
    intro j hd hj
    obtain rfl : j = m := by omega
    refine loopO_out ?_
    simp only [m_spec_Changed_1, cond_dec]
    rw [if_neg (by simp)]
    simp
  | succ d ih =>
    intro j hd hj
    have hg : (List.replicate j (-1) ++ List.replicate (m - j) 0 : List Int)[j]? = some 0 := by
      rw [List.getElem?_append_right (by simp), List.length_replicate, Nat.sub_self, List.getElem?_replicate, if_pos (by omega)]
    have hs : (List.replicate j (-1) ++ List.replicate (m - j) 0 : List Int).set j (-1) = List.replicate (j + 1) (-1) ++ List.replicate (m - (j + 1)) 0 := by
      rw [List.set_append_right _ _ (by simp)]
      rw [show m - j = (m - (j + 1)) + 1 by omega, List.replicate_succ]
      simp only [List.length_replicate, Nat.sub_self, List.set_cons_zero]
      rw [List.replicate_succ', List.append_assoc]
      rfl
    have step : m_spec_Changed_1 (((), a, b), List.replicate j (-1) ++ List.replicate (m - j) 0, (j : Int), S, ks) = some (.nx (((), a, b), List.replicate (j + 1) (-1) ++ List.replicate (m - (j + 1)) 0, ((j + 1 : Nat) : Int), S, ks)) := by
      simp only [m_spec_Changed_1, cond_dec, atI_nat, hg, bind_some, Int.toNat_natCast, hs]
      rw [if_pos (by simp; omega), w64 (by omega) (by omega)]
      rfl
    rw [loopO_nx step]
    exact ih (j + 1) (by omega) (by omega)
end
end Go.Proofs.Ytfmlpodcldhgdaa.V
set_option linter.unusedVariables false
set_option linter.unusedSimpArgs false
namespace Go.Proofs.Ytfmlpodcldhgdaa.V
open Go
section
variable {t : List Node} {ws xs : List Nat} {xl op : Nat} {ks : List (Option Nat)}
def DfC (t : List Node) (opc : Int) (op : Nat) (ws xs : List Nat) (xl : Nat) : Nat → List Nat := if opc = 5 then fiD (xs ++ [xl]) (Df t op ws xs xl) else Df t op ws xs xl
theorem tgm_of (hR : RT t) {opc : Int} (hop : opD opc op) (ho : ∀ c ∈ xs ++ [xl], 1 ≤ c ∧ c < t.length) (hw : ∀ c ∈ ws, 1 ≤ c ∧ c < t.length) (hn : ws.Nodup) (k1 : ∀ i k a c : Nat, ws[i]? = some a → ws[k]? = some c → k ≠ i → ¬ Hld t a c) (k2 : ∀ a ∈ ws, ∀ c ∈ xs ++ [xl], ¬ Hld t a c) (hu : op = 3 → ∀ c ∈ xs ++ [xl], ∃ p, (FT t).up c = some p) : Tgm t op xs xl ws := by
  have hp3 : op = 3 → ∀ x ∈ xs ++ [xl], ∃ p, par t x = some p ∧ x ∈ (FT t).kids p := fun e x hx => by
    obtain ⟨p, hp⟩ := hu e x hx
    have h1 := (FT_ok hR).up hp
    simp only [FT, if_pos (ho x hx).2] at hp
    exact ⟨p, hp, h1.2⟩
  have hmv := mv_of (p := 0) (x := 0) hR hw hn k1
  refine ⟨⟨fun x hx => ⟨?_, (ho x hx).2, fun e => hp3 e x hx⟩, fun x hx ⟨w, hw', hh⟩ => ?_, fun x hx h => k2 x h x hx (hld_self hR (hw x h).2), fun v hv => (hw v hv).2, hn⟩, fun d hd e he hde => ?_⟩
  · rcases hop with ⟨_, e⟩ | ⟨_, e⟩ | ⟨_, e⟩
    · exact .inl e
    · exact .inr (.inl e)
    · exact .inr (.inr e)
  · unfold plD at hh
    split at hh
    · rename_i e
      obtain ⟨p, hp, hm⟩ := hp3 e x hx
      simp only [parN, hp, Option.getD_some] at hh
      exact k2 w hw' x hx (hld_down hR (hw w hw').2 hp hh)
    · exact k2 w hw' x hx hh
  · obtain ⟨i, hi⟩ := List.mem_iff_getElem?.1 hd
    obtain ⟨k, hk⟩ := List.mem_iff_getElem?.1 he
    by_cases e2 : k = i
    · subst e2
      rw [hi] at hk
      exact Option.some.inj hk
    · exact absurd hde (k1 i k d e hi hk e2)
theorem Sm.start (hR : RT t) : Sm t (FT t) (P0 t) (FT t).kids (t.length : Int) false := by
  have := hR.len
  exact ⟨.start hR, fun _ _ => rfl, fun i h1 (h2 : i < t.length) => by omega, rfl, fun h => by omega⟩
def Ins (t : List Node) (opc : Int) (op : Nat) (ws xs : List Nat) (xl : Nat) (ks : List (Option Nat)) (o : Option (Bool × (PUnit × Int × Bool) × List (Option Nat) × List KN)) : Prop :=
  ∃ (b : Bool) (S : List KN) (a' : Int) (ob' : Bool), o = some (b, ((), a', ob'), ks, S) ∧ (b = true → Tgm t op xs xl ws ∧ (opc ≠ 5 → ∀ c ∈ xs ++ [xl], (P0 t c).2.kind = 3) ∧ ∃ (H : Fo) (P' : Nat → Int × Node), S = H.kst P' ∧ Sm t H P' (DfC t opc op ws xs xl) a' ob' ∧ H.m ≤ 50000)
theorem Ins.no {opc : Int} : Ins t opc op ws xs xl ks (some (false, ((), (t.length : Int), false), ks, (FT t).kst (P0 t))) := ⟨_, _, _, _, rfl, fun h => by cases h⟩
theorem many_le (hR : RT t) (h : Tgm t op xs xl ws) (hl : xs.length ≤ 199) : t.length + xs.length * sumS t ws ≤ 50000 := by
  have h1 := sum_le hR h.ts.ds h.ap
  have hlen := hR.len
  have h2 : xs.length * sumS t ws ≤ 199 * 200 := Nat.mul_le_mul hl (by omega)
  omega
theorem run_eq (hR : RT t) {opc : Int} (hop : opD opc op) (h : Tgm t op xs xl ws) (hl : xs.length ≤ 199) :
    ∃ (H : Fo) (P' : Nat → Int × Node) (a' : Int) (ob' : Bool), loopO m_spec_forest_insert_0 (((), (t.length : Int), false), opc, (xs ++ [xl]).map some, ws.map some, (0 : Int), (FT t).kst (P0 t), ks) = some (((), a', ob'), opc, (xs ++ [xl]).map some, H.kst P', ks) ∧ Sm t H P' (Df t op ws xs xl) a' ob' ∧ H.m ≤ 50000 := by
  have hm := many_le hR h hl
  obtain ⟨H, P', a', ob', q1, q2, q3⟩ := targets_spec hR hop h (by omega) ks xs.length 0 (FT t) (P0 t) (t.length : Int) false rfl (Nat.zero_le _) (.start hR) (fun _ _ => rfl) (by rw [Nat.sub_zero]; omega)
  refine ⟨H, P', a', ob', q1, q2, ?_⟩
  have := q2.m
  rw [Nat.sub_zero] at q3
  have hm' : (t.length : Int) + (xs.length : Int) * (sumS t ws : Int) ≤ 50000 := by omega
  omega
theorem insertM (hR : RT t) {opc : Int} (hop : opc = 1 ∧ op = 1 ∨ opc = 2 ∧ op = 2 ∨ opc = 5 ∧ op = 3) (ho : ∀ c ∈ xs ++ [xl], 1 ≤ c ∧ c < t.length) (hon : (xs ++ [xl]).Nodup) (hw : ∀ c ∈ ws, 1 ≤ c ∧ c < t.length) (hn : ws.Nodup) :
    Ins t opc op ws xs xl ks (m_spec_forest_insert (((), (t.length : Int), false), opc, (xs ++ [xl]).map some, ws.map some, ks, (FT t).kst (P0 t))) := by
  have hlen := hR.len
  have hwl := ws_len hR hw hn
  have hol := ws_len hR ho hon
  have hxl : xs.length ≤ 199 := by simp only [List.length_append, List.length_singleton] at hol; omega
  have hopD : opD opc op := by
    rcases hop with h | h | h
    · exact .inl h
    · exact .inr (.inl h)
    · exact .inr (.inr ⟨.inr h.1, h.2⟩)
  obtain ⟨b1, h1, h1'⟩ := apart_ex (P := P0 t) (ws := ws) (on := xs ++ [xl]) hR (fun c hc => (hw c hc).2) (fun c hc => (ho c hc).2) (by omega) (by omega)
  obtain ⟨b2, h2, h2'⟩ := are_ex (F := FT t) (P := P0 t) (on := xs ++ [xl]) (fun c hc => (ho c hc).2) (by omega)
  obtain ⟨b3, h3, h3'⟩ := stand_ex (F := FT t) (P := P0 t) (on := xs ++ [xl]) (fun c hc => (ho c hc).2) (by omega)
  obtain ⟨b4, h4, h4'⟩ := apart_ex (P := P0 t) (ws := xs ++ [xl]) (on := []) hR (fun c hc => (ho c hc).2) (by simp) (by omega) (by simp)
  have h4q : m_spec_apart ((xs ++ [xl]).map some, [], (FT t).kst (P0 t)) = some b4 := h4
  simp only [m_spec_forest_insert, cond_dec, h1, h2, h3, h4q, bind_some]
  rw [if_neg (by rcases hop with h | h | h <;> omega), if_neg (by rcases hop with h | h | h <;> omega)]
  cases b1 with
  | false => exact .no
  | true =>
    obtain ⟨k1, k2⟩ := h1' rfl
    simp only [Bool.not_true, cond_false]
    by_cases e5 : opc = 5
    · subst e5
      rw [if_pos rfl]
      cases b3 with
      | false => exact .no
      | true =>
        simp only [Bool.not_true, cond_false, decide_true]
        by_cases e0 : ((ws.map some).length : Int) = 0
        · rw [if_pos e0]; exact .no
        rw [if_neg e0]
        simp only [if_true]
        cases b4 with
        | false => exact .no
        | true =>
          simp only [Bool.not_true, cond_false]
          have hT := tgm_of hR hopD ho hw hn k1 k2 (fun _ => h3' rfl)
          obtain ⟨H, P', a', ob', q1, q2, q3⟩ := run_eq (ks := ks) hR hopD hT hxl
          rw [q1, bind_some]
          dsimp only
          rw [if_pos rfl]
          have hon' : ∀ c ∈ xs ++ [xl], c < H.m := fun c hc => Nat.lt_of_lt_of_le (ho c hc).2 q2.rz.le
          have hkl := fun i => fo_klen q2.rz.ok i
          have hc := cuts_eq (F := H) (P := P') a' ob' ks (l := xs ++ [xl]) q2.rz.ok (fun i => by have := hkl i; omega) hon' (by omega) (xs ++ [xl]).length 0 rfl (Nat.zero_le _)
          rw [List.take_zero, off_nil] at hc
          have hc' : loopO m_spec_forest_insert_1 (((), a', ob'), (xs ++ [xl]).map some, (0 : Int), H.kst P', ks) = _ := hc
          rw [hc', bind_some]
          refine ⟨_, _, _, _, rfl, fun _ => ⟨hT, fun h => absurd rfl h, H.off (xs ++ [xl]), P', rfl, ⟨?_, q2.lab, q2.neg, q2.m, q2.lim⟩, q3⟩⟩
          unfold DfC
          rw [if_pos rfl]
          exact q2.rz.off (fun c hc => (ho c hc).2) (fun c y _ hc => hc.off q2.rz.inc (fun c hc => (ho c hc).2))
    · rw [if_neg e5, decide_eq_false e5]
      simp only [Bool.not_false, cond_true]
      cases b2 with
      | false => exact .no
      | true =>
        simp only [Bool.not_true, cond_false]
        by_cases e0 : ((ws.map some).length : Int) = 0
        · rw [if_pos e0]; exact .no
        rw [if_neg e0, if_neg e5]
        have hT := tgm_of hR hopD ho hw hn k1 k2 (fun e => by
          rcases hop with h | h | h
          · omega
          · omega
          · exact absurd h.1 e5)
        obtain ⟨H, P', a', ob', q1, q2, q3⟩ := run_eq (ks := ks) hR hopD hT hxl
        rw [q1, bind_some]
        dsimp only
        rw [if_neg e5]
        refine ⟨_, _, _, _, rfl, fun _ => ⟨hT, fun _ => h2' rfl, H, P', rfl, ?_, q3⟩⟩
        unfold DfC
        rw [if_neg e5]
        exact q2
theorem stpM (hR : RT t) {opc : Int} (hop : opc = 1 ∧ op = 1 ∨ opc = 2 ∧ op = 2 ∨ opc = 5 ∧ op = 3) {on ws : List Int} (hl1 : on.length ≤ 2147483647) (hl2 : ws.length ≤ 2147483647) :
    ∃ (b : Bool) (S : List KN) (a' : Int) (ob' : Bool), m_spec_forest_step (((), (t.length : Int), false), (opc, on, ws, [], [], []), (List.range t.length).map some, (FT t).kst (P0 t)) = some (b, ((), a', ob'), (List.range t.length).map some, S) ∧
      (b = true → ∃ (xs : List Nat) (xl : Nat) (l : List Nat) (H : Fo) (P' : Nat → Int × Node), on = intsN (xs ++ [xl]) ∧ ws = intsN l ∧ Tgm t op xs xl l ∧ Ds t (xs ++ [xl]) ∧ (opc ≠ 5 → ∀ c ∈ xs ++ [xl], (P0 t c).2.kind = 3) ∧ (∀ c ∈ l, 1 ≤ c) ∧ S = H.kst P' ∧ Sm t H P' (DfC t opc op l xs xl) a' ob' ∧ H.m ≤ 50000) := by
  obtain ⟨r1, b1, h1, h1'⟩ := chosen_nat (t.length : Int) false (on := on) (n := t.length) hl1
  obtain ⟨r2, b2, h2, h2'⟩ := chosen_nat (t.length : Int) false (on := ws) (n := t.length) hl2
  simp only [m_spec_forest_step, h1, h2, bind_some, cond_dec]
  cases b1 with
  | false => exact ⟨_, _, _, _, rfl, fun h => by cases h⟩
  | true =>
    cases b2 with
    | false => exact ⟨_, _, _, _, rfl, fun h => by cases h⟩
    | true =>
      obtain ⟨l1, e1, rfl, g1, g2⟩ := h1' rfl
      obtain ⟨l2, e2, rfl, k1, k2⟩ := h2' rfl
      simp only [Bool.not_true, cond_false]
      rcases List.eq_nil_or_concat l1 with rfl | ⟨xs, xl, rfl⟩
      · rw [if_pos (by simp)]
        exact ⟨_, _, _, _, rfl, fun h => by cases h⟩
      · rw [List.concat_eq_append] at *
        rw [if_neg (by simp; omega)]
        obtain ⟨b, S, a', ob', q1, q2⟩ := insertM (ks := (List.range t.length).map some) hR hop g1 g2 k1 k2
        have fin : ∃ (b : Bool) (S : List KN) (a' : Int) (ob' : Bool), (Option.bind (m_spec_forest_insert (((), (t.length : Int), false), opc, (xs ++ [xl]).map some, l2.map some, (List.range t.length).map some, (FT t).kst (P0 t))) fun r => some (r.1, ((), r.2.1.2.1, r.2.1.2.2), r.2.2.1, r.2.2.2)) = some (b, ((), a', ob'), (List.range t.length).map some, S) ∧
            (b = true → ∃ (xs : List Nat) (xl : Nat) (l : List Nat) (H : Fo) (P' : Nat → Int × Node), on = intsN (xs ++ [xl]) ∧ ws = intsN l ∧ Tgm t op xs xl l ∧ Ds t (xs ++ [xl]) ∧ (opc ≠ 5 → ∀ c ∈ xs ++ [xl], (P0 t c).2.kind = 3) ∧ (∀ c ∈ l, 1 ≤ c) ∧ S = H.kst P' ∧ Sm t H P' (DfC t opc op l xs xl) a' ob' ∧ H.m ≤ 50000) := by
          rw [q1, bind_some]
          refine ⟨b, S, a', ob', rfl, fun hb => ?_⟩
          obtain ⟨u1, u2, H, P', u3, u4, u5⟩ := q2 hb
          exact ⟨xs, xl, l2, H, P', e1, e2, u1, ⟨fun c hc => (g1 c hc).2, g2⟩, u2, fun c hc => (k1 c hc).1, u3, u4, u5⟩
        rcases hop with ⟨rfl, _⟩ | ⟨rfl, _⟩ | ⟨rfl, _⟩
        · rw [if_pos rfl]; exact fin
        · rw [if_neg (by decide), if_pos rfl]; exact fin
        · rw [if_neg (by decide), if_neg (by decide), if_neg (by decide), if_neg (by decide), if_pos rfl]; exact fin
theorem lb_nd0 (hR : RT t) {y : Nat} (hy : y < t.length) : Lb (nd0 t y) (kn (bs0 t y)) := by
  obtain ⟨v, hv⟩ := get_lt hy
  rw [kn_bs0 hR hv]
  have : nd0 t y = v := by simp [nd0, hv]
  rw [this]
  exact ⟨rfl, rfl, rfl, rfl⟩
theorem changedM (hf : fits1 t = true) {opc : Int} (hop : opc = 1 ∧ op = 1 ∨ opc = 2 ∧ op = 2 ∨ opc = 5 ∧ op = 3) {on ws : List Int} (hl1 : on.length ≤ 2147483647) (hl2 : ws.length ≤ 2147483647) {n : Nat} (hb : big = n) (hn : 1000000 ≤ n) :
    ∃ out at' b, m_spec_Changed_f (t, [(opc, on, ws, [], [], [])]) = some (out, at', b) ∧
      (b = true → RT t ∧ ∃ (xs : List Nat) (xl : Nat) (l : List Nat), on = intsN (xs ++ [xl]) ∧ ws = intsN l ∧ Tgm t op xs xl l ∧ Ds t (xs ++ [xl]) ∧ (opc ≠ 5 → ∀ c ∈ xs ++ [xl], (P0 t c).2.kind = 3) ∧ (∀ c ∈ l, 1 ≤ c) ∧ out = treeD t (DfC t opc op l xs xl) n ∧ at' = spotsD t (DfC t opc op l xs xl) n ∧ (treeD t (DfC t opc op l xs xl) n).length ≤ 600) := by
  obtain ⟨b0, h0, h0'⟩ := Right_ex t hf
  suffices h : ∃ out at' b S, m_spec_Changed (t, [(opc, on, ws, [], [], [])], []) = some (out, at', b, S) ∧ (b = true → RT t ∧ ∃ (xs : List Nat) (xl : Nat) (l : List Nat), on = intsN (xs ++ [xl]) ∧ ws = intsN l ∧ Tgm t op xs xl l ∧ Ds t (xs ++ [xl]) ∧ (opc ≠ 5 → ∀ c ∈ xs ++ [xl], (P0 t c).2.kind = 3) ∧ (∀ c ∈ l, 1 ≤ c) ∧ out = treeD t (DfC t opc op l xs xl) n ∧ at' = spotsD t (DfC t opc op l xs xl) n ∧ (treeD t (DfC t opc op l xs xl) n).length ≤ 600) by
    obtain ⟨out, at', b, S, g1, g2⟩ := h
    refine ⟨out, at', b, ?_, g2⟩
    show (m_spec_Changed (t, [(opc, on, ws, [], [], [])], [])).map _ = _
    rw [g1]; rfl
  simp only [m_spec_Changed, h0, bind_some, cond_dec]
  cases b0 with
  | false => exact ⟨_, _, _, _, rfl, fun h => by cases h⟩
  | true =>
    have hR := h0' rfl
    have hlen := hR.len
    simp only [Bool.not_true, cond_false, knots_eq hR, bind_some]
    obtain ⟨b1, S, a', ob', h1, h1'⟩ := stpM (on := on) (ws := ws) hR hop hl1 hl2
    have hat : atI [(opc, on, ws, ([] : List UInt8), ([] : List UInt8), ([] : List (List UInt8)))] (0 : Int) = some (opc, on, ws, [], [], []) := rfl
    cases b1 with
    | false =>
      have st : m_spec_Changed_0 (t, [(opc, on, ws, [], [], [])], ((), (t.length : Int), false), (0 : Int), (FT t).kst (P0 t), (List.range t.length).map some) = some (.out (.inr ([], [], false, S))) := by
        simp only [m_spec_Changed_0, cond_dec, hat, bind_some, h1]
        rw [if_pos (by simp)]
        rfl
      rw [loopO_out st]
      exact ⟨_, _, _, _, rfl, fun h => by cases h⟩
    | true =>
      obtain ⟨xs, xl, l, H, P', e1, e2, e3, e4, e5, e6, rfl, e7, e8⟩ := h1' rfl
      cases ob' with
      | true =>
        have st : m_spec_Changed_0 (t, [(opc, on, ws, [], [], [])], ((), (t.length : Int), false), (0 : Int), (FT t).kst (P0 t), (List.range t.length).map some) = some (.out (.inr ([], [], false, H.kst P'))) := by
          simp only [m_spec_Changed_0, cond_dec, hat, bind_some, h1]
          rw [if_pos (by simp)]
          rfl
        rw [loopO_out st]
        exact ⟨_, _, _, _, rfl, fun h => by cases h⟩
      | false =>
        have st : m_spec_Changed_0 (t, [(opc, on, ws, [], [], [])], ((), (t.length : Int), false), (0 : Int), (FT t).kst (P0 t), (List.range t.length).map some) = some (.nx (t, [(opc, on, ws, [], [], [])], ((), a', false), (1 : Int), H.kst P', (List.range t.length).map some)) := by
          simp only [m_spec_Changed_0, cond_dec, hat, bind_some, h1]
          rw [if_pos (by simp)]
          rfl
        have st2 : m_spec_Changed_0 (t, [(opc, on, ws, [], [], [])], ((), a', false), (1 : Int), H.kst P', (List.range t.length).map some) = some (.out (.inl (t, ((), a', false), H.kst P', (List.range t.length).map some))) := by
          simp only [m_spec_Changed_0, cond_dec]
          rw [if_neg (by simp)]
        have hpos := hR.pos
        have hr : ∀ i, i < t.length → ∀ y ∈ DfC t opc op l xs xl i, y < t.length → rankM t l y < rankM t l i := fun i hi y hy hyl => by
          unfold DfC at hy
          split at hy
          · exact e3.rank hR i hi y (List.mem_filter.1 hy).1 hyl
          · exact e3.rank hR i hi y hy hyl
        have hrz := e7.rz
        have h0m : 0 < H.m := Nat.lt_of_lt_of_le hpos hrz.le
        have hC : ∀ c y, t.length ≤ c → CS false t H P' c y → ∃ k, CpR H (RS t P') (FT t).kids t.length H.m k c y := fun c y _ h => h rfl
        have h00 : It t (CS false t H P') 0 0 := .orig hpos
        have en : nodesF H.kids (fun i => (P' i).2) n 0 = treeD t (DfC t opc op l xs xl) n := nodesR hrz hC (fun c y hc => by
          have : (P' c).2 = nd0 t y := by rw [hc.1]
          rw [this]; exact lb_nd0 hR hc.2) (fun i hi => by
          have : (P' i).2 = nd0 t i := by rw [e7.lab i hi]; rfl
          rw [this]; exact lb_nd0 hR hi) n 0 0 h00
        have hnd := hrz.nodup hr n 0
        have ei : putP P' (idsF H.kids n 0) 0 (List.replicate t.length (-1)) = spotsD t (DfC t opc op l xs xl) n := by
          rw [putP_all hnd fun z hz => ?_]
          · exact List.map_congr_left fun i hi => posL_R (List.mem_range.1 hi) (idsR (Nat.le_refl _) hrz hC n 0 0 h00)
          · have hzm := ids_lt hrz.ok n 0 h0m z hz
            by_cases e : z < t.length
            · exact .inl ⟨e, by rw [e7.lab z e]; rfl⟩
            · exact .inr ⟨e7.neg z (by omega) hzm, by omega⟩
        have hlen2 := hrz.len hr n h0m
        have hli := listed_eq (P := P') hrz.ok n 0 [] (List.replicate t.length (-1)) h0m (hrz.ht hr (rankM_le hR) (by omega) hn 0) (by simp; omega) (by simp; omega)
        rw [List.nil_append, List.length_nil, en, ei] at hli
        have hfill := fill_eq a' false (H.kst P') ((List.range t.length).map some) (m := t.length) (by omega) t.length 0 rfl (Nat.zero_le _)
        have hfill' : loopO m_spec_Changed_1 (((), a', false), List.replicate (Int.toNat (t.length : Int)) (0 : Int), (0 : Int), H.kst P', (List.range t.length).map some) = some (((), a', false), List.replicate t.length (-1), H.kst P', (List.range t.length).map some) := hfill
        have hz : ((List.range t.length).map some)[0]? = some (some 0) := by
          rw [List.getElem?_map, List.getElem?_range hpos]; rfl
        rw [loopO_nx st, loopO_out st2, bind_some]
        simp only [selim]
        rw [if_pos ⟨by omega, by omega, by omega⟩, hfill', bind_some]
        simp only [atI_zero, hz, bind_some, show Int.toNat 0 = 0 from rfl, hb, hli]
        exact ⟨_, _, _, _, rfl, fun _ => ⟨hR, xs, xl, l, e1, e2, e3, e4, e5, e6, rfl, rfl, by
          rw [← en, nodesF_len]
          have h6 := e7.lim
          have h7 := e7.m
          by_cases h8 : 600 < a'
          · have := h6 h8; cases this
          · omega⟩⟩
end
end Go.Proofs.Ytfmlpodcldhgdaa.V
set_option linter.unusedVariables false
set_option linter.unusedSimpArgs false
namespace Go.Proofs.Ytfmlpodcldhgdaa.V
open Go
theorem sameNode_refl (v : Node) (ha : v.attrs.length ≤ 1000000) : m_spec_sameNode (v, v) = some true := by
  have key : ∀ d j, v.attrs.length - j = d → j ≤ v.attrs.length → loopO m_spec_sameNode_0 (v, v, (j : Int)) = some (.inl ()) := by
    intro d
    induction d with
    | zero =>
      intro j hd hj
      refine loopO_out ?_
      simp only [m_spec_sameNode_0, cond_dec]
      rw [if_neg (by omega)]
    | succ d ih =>
      intro j hd hj
      obtain ⟨a, hA⟩ := get_lt (l := v.attrs) (k := j) (by omega)
      have step : m_spec_sameNode_0 (v, v, (j : Int)) = some (.nx (v, v, ((j + 1 : Nat) : Int))) := by
        simp only [m_spec_sameNode_0, cond_dec, atI_nat, hA, bind_some]
        rw [if_pos (by omega)]
        simp only [and_self, decide_true, Bool.not_true, cond_false]
        rw [w64 (by omega) (by omega)]
        rfl
      rw [loopO_nx step]
      exact ih (j + 1) (by omega) (by omega)
  have h := key v.attrs.length 0 (by omega) (Nat.zero_le _)
  have h' : loopO m_spec_sameNode_0 (v, v, (0 : Int)) = some (.inl ()) := h
  simp only [m_spec_sameNode, ne_eq, not_true, decide_false, cond_false]
  rw [h']
  rfl
theorem sameTree_refl (l : List Node) (hl : l.length ≤ 1000000) (ha : ∀ (i : Nat) (v : Node), l[i]? = some v → v.attrs.length ≤ 1000000) : m_spec_SameTree (l, l) = some true := by
  have key : ∀ d j, l.length - j = d → j ≤ l.length → loopO m_spec_SameTree_0 (l, l, (j : Int)) = some (.inl ()) := by
    intro d
    induction d with
    | zero =>
      intro j hd hj
      refine loopO_out ?_
      simp only [m_spec_SameTree_0, cond_dec]
      rw [if_neg (by omega)]
    | succ d ih =>
      intro j hd hj
      obtain ⟨v, hv⟩ := get_lt (l := l) (k := j) (by omega)
      have step : m_spec_SameTree_0 (l, l, (j : Int)) = some (.nx (l, l, ((j + 1 : Nat) : Int))) := by
        simp only [m_spec_SameTree_0, cond_dec, atI_nat, hv, bind_some]
        rw [if_pos (by omega)]
        have := sameNode_refl v (ha j v hv)
        rw [this]
        simp only [bind_some, Bool.not_true, cond_false]
        rw [w64 (by omega) (by omega)]
        rfl
      rw [loopO_nx step]
      exact ih (j + 1) (by omega) (by omega)
  have h := key l.length 0 (by omega) (Nat.zero_le _)
  have h' : loopO m_spec_SameTree_0 (l, l, (0 : Int)) = some (.inl ()) := h
  simp only [m_spec_SameTree, ne_eq, not_true, decide_false, cond_false]
  rw [h', bind_some]
  rfl
theorem sub_eq {t : List Node} (hR : RT t) {x : Nat} (hx : x < t.length) : m_spec_Sub (t, (x : Int)) = some ((t.drop x).take (sz t x)) := by
  obtain ⟨v, hv, hsz, _, hle⟩ := hR.lam.ok x (Nat.zero_le _) hx
  have hlen := hR.len
  simp only [m_spec_Sub, atI_nat, hv, bind_some]
  rw [hsz, w64 (by omega) (by omega)]
  have : subL t (x : Int) ((x : Int) + (sz t x : Int)) = some ((t.take (x + sz t x)).drop x) := by
    unfold subL
    rw [if_pos (by omega)]
    congr 2
  rw [this, bind_some, List.drop_take]
  congr 2
  omega
end Go.Proofs.Ytfmlpodcldhgdaa.V
set_option linter.unusedVariables false
set_option linter.unusedSimpArgs false
namespace Go.Proofs.Ytfmlpodcldhgdaa.V
open Go
end Go.Proofs.Ytfmlpodcldhgdaa.V
set_option linter.unusedVariables false
set_option linter.unusedSimpArgs false
namespace Go.Proofs.Ytfmlpodcldhgdaa.V
open Go
section
variable {t : List Node}
end
end Go.Proofs.Ytfmlpodcldhgdaa.V
set_option linter.unusedVariables false
set_option linter.unusedSimpArgs false
namespace Go.Proofs.Ytfmlpodcldhgdaa.V
open Go
theorem sized_true (t : List Node) (ht : t.length ≤ 1000000) : ∀ (d n a e : Nat), d < n → d ≤ 1000000 → a + sz t a ≤ e → e ≤ t.length → Lam t a (a + sz t a) → 1 ≤ sz t a → sz t a ≤ d → m_spec_sized n (t, (a : Int), (e : Int), (d : Int)) = some true := by
  intro d
  induction d with
  | zero => intro n a e _ _ _ _ _ h1 h2; omega
  | succ d ih =>
    intro n a e hn hd hae he hL h1 h2
    obtain ⟨m, rfl⟩ : ∃ m, n = m + 1 := ⟨n - 1, by omega⟩
    obtain ⟨v, hv, hvs, _, _⟩ := hL.ok a (Nat.le_refl _) (by omega)
    have key : ∀ f k, a < k → k ≤ a + sz t a → a + sz t a - k ≤ f → loopO (m_spec_sized_0 (m_spec_sized m)) (t, (a : Int), ((d + 1 : Nat) : Int), (sz t a : Int), (k : Int)) = some (.inl ()) := by
      intro f
      induction f with
      | zero =>
        intro k k1 k2 k3
        refine loopO_out ?_
        simp only [m_spec_sized_0, cond_dec]
        rw [w64 (n := (a : Int) + (sz t a : Int)) (by omega) (by omega), if_neg (by omega)]
      | succ f ih2 =>
        intro k k1 k2 k3
        by_cases hk : k < a + sz t a
        · obtain ⟨u, hu, hus, hu1, hu2⟩ := hL.ok k (by omega) hk
          have hs := ih m k (a + sz t a) (by omega) (by omega) hu2 (by omega) (hL.sub (by omega) hk) hu1 (by omega)
          have e1 : IntKind.wrap .i64 (((d + 1 : Nat) : Int) - 1) = (d : Int) := by rw [w64 (by omega) (by omega)]; omega
          have e2 : IntKind.wrap .i64 ((a : Int) + (sz t a : Int)) = ((a + sz t a : Nat) : Int) := by rw [w64 (by omega) (by omega)]; omega
          have step : m_spec_sized_0 (m_spec_sized m) (t, (a : Int), ((d + 1 : Nat) : Int), (sz t a : Int), (k : Int)) = some (.nx (t, (a : Int), ((d + 1 : Nat) : Int), (sz t a : Int), ((k + sz t k : Nat) : Int))) := by
            simp only [m_spec_sized_0, cond_dec, atI_nat, e1, e2, hs, hu, bind_some, hus]
            rw [if_pos (by omega), w64 (by omega) (by omega)]
            simp
          rw [loopO_nx step]
          exact ih2 (k + sz t k) (by omega) (by omega) (by omega)
        · refine loopO_out ?_
          simp only [m_spec_sized_0, cond_dec]
          rw [w64 (n := (a : Int) + (sz t a : Int)) (by omega) (by omega), if_neg (by omega)]
    have h0 := key (sz t a) (a + 1) (by omega) (by omega) (by omega)
    have h0' : loopO (m_spec_sized_0 (m_spec_sized m)) (t, (a : Int), ((d + 1 : Nat) : Int), (sz t a : Int), (a : Int) + 1) = some (.inl ()) := h0
    show b_spec_sized (m_spec_sized m) _ = _
    simp only [b_spec_sized, cond_dec, atI_nat, hv, bind_some, hvs]
    rw [if_neg (by omega), if_neg (by omega), w64 (n := (e : Int) - (a : Int)) (by omega) (by omega), if_neg (by omega), w64 (n := (a : Int) + 1) (by omega) (by omega), h0', bind_some]
    rfl
theorem attrs_le {t : List Node} (hR : RT t) {v : Node} (h1 : v ∈ t) : v.attrs.length ≤ 1000000 := by
  obtain ⟨k, hk⟩ := List.mem_iff_getElem?.1 h1
  have hkd := (hR.node k v hk).kd
  by_cases h3 : v.kind = 3
  · have := ((hR.node k v hk).k3 h3).2.1
    omega
  · have := ((hR.node k v hk).k4 h3).2
    rw [this]; simp
section
variable {t : List Node} {p : Nat} {cs A B : List Nat} {n : Nat}
end
end Go.Proofs.Ytfmlpodcldhgdaa.V
set_option linter.unusedVariables false
set_option linter.unusedSimpArgs false
namespace Go.Proofs.Ytfmlpodcldhgdaa.V
open Go
structure Shp (t : List Node) : Prop where
  pos : 0 < t.length
  len : t.length ≤ 1000
  root : sz t 0 = t.length
  lam : Lam t 0 t.length
  k0 : ∃ v : Node, t[0]? = some v ∧ v.kind = 1
  kd : ∀ (i : Nat) (v : Node), t[i]? = some v → v.kind = 1 ∨ v.kind = 2 ∨ v.kind = 3 ∨ v.kind = 4 ∨ v.kind = 5
  k1 : ∀ (i : Nat) (v : Node), t[i]? = some v → v.kind = 1 → i = 0
  k2 : ∀ (i : Nat) (v : Node), t[i]? = some v → v.kind ≠ 3 → v.kind ≠ 1 → sz t i = 1
theorem Shp_eq {t : List Node} (hR : Shp t) : m_spec_Shaped t = some true := by
  have hlen := hR.len
  have hpos := hR.pos
  obtain ⟨n, hb, hn⟩ := big_ex
  obtain ⟨v, hv, hv1⟩ := hR.k0
  have hv0 : v.size = (t.length : Int) := by
    obtain ⟨u, hu, hus, _, _⟩ := hR.lam.ok 0 (Nat.le_refl _) hpos
    rw [hv] at hu
    cases hu
    rw [hus, hR.root]
  obtain ⟨y, h1, h2⟩ := loopO_rule (body := m_spec_Shaped_0) (fun x => ∃ k : Nat, x = (t, (k : Int)) ∧ k ≤ t.length) (fun _ y => y = .inl t) (fun x => ((t.length : Int) - x.2).toNat) (fun x hx => by
    obtain ⟨k, rfl, hk⟩ := hx
    simp only [m_spec_Shaped_0, cond_dec, atI_nat]
    by_cases hkl : k < t.length
    · obtain ⟨u, hu, hus, hu1, hu2⟩ := hR.lam.ok k (Nat.zero_le _) hkl
      have hk1 := hR.k1 k u hu
      have hk2 := hR.k2 k u hu
      have hkd := hR.kd k u hu
      have hnx : (some (.nx (t, IntKind.wrap .i64 ((k : Int) + 1))) : Option (Stp (List Node × Int) (List Node ⊕ Bool))) = some (.nx (t, ((k + 1 : Nat) : Int))) := by rw [w64 (by omega) (by omega)]; rfl
      refine .inr ⟨(t, ((k + 1 : Nat) : Int)), ?_, ⟨k + 1, rfl, by omega⟩, by simp only; omega, fun _ h => h⟩
      rw [if_pos (by omega), hu, bind_some, hus, if_neg (by omega), w64 (n := (t.length : Int) - (k : Int)) (by omega) (by omega), if_neg (by omega)]
      by_cases e0 : (0 : Int) < (k : Int)
      · rw [if_pos e0, if_neg (fun h => by have := hk1 h; omega), if_neg (by omega), if_neg (by omega)]
        by_cases e1 : (1 : Int) < (sz t k : Int)
        · rw [if_pos e1]
          by_cases e2 : u.kind = 1
          · have := hk1 e2; omega
          · rw [if_pos e2]
            by_cases e3 : u.kind = 3
            · rw [if_neg (by simp [e3])]; exact hnx
            · have := hk2 e3 e2; omega
        · rw [if_neg e1]; exact hnx
      · rw [if_neg e0, if_neg (by omega), if_neg (by omega)]
        by_cases e1 : (1 : Int) < (sz t k : Int)
        · rw [if_pos e1]
          by_cases e2 : u.kind = 1
          · rw [if_neg (by simp [e2])]; exact hnx
          · rw [if_pos e2]
            by_cases e3 : u.kind = 3
            · rw [if_neg (by simp [e3])]; exact hnx
            · have := hk2 e3 e2; omega
        · rw [if_neg e1]; exact hnx
    · rw [if_neg (by omega)]
      exact .inl ⟨_, rfl, rfl⟩) (t, ((0 : Nat) : Int)) ⟨0, rfl, Nat.zero_le _⟩
  subst h2
  have h1' : loopO m_spec_Shaped_0 (t, (0 : Int)) = some (.inl t) := h1
  have hs := sized_true t (by omega) 2000 n 0 t.length (by omega) (by omega) (by rw [hR.root]; omega) (Nat.le_refl _) (by rw [hR.root, Nat.zero_add]; exact hR.lam) (by rw [hR.root]; exact hpos) (by rw [hR.root]; omega)
  have hs' : m_spec_sized n (t, (0 : Int), (t.length : Int), (2000 : Int)) = some true := hs
  simp only [m_spec_Shaped, cond_dec, atI_zero, hv, bind_some, h1', hb]
  rw [if_neg (by omega), if_neg (by simp [hv1]), if_neg (by simp [hv0])]
  simp only [selim, hs', bind_some]
section
variable {t : List Node} {xs : List Nat} {xl w : Nat} {i : Nat}
theorem Dm_app (hx : xs.Nodup) {D : Nat → List Nat} : ∀ i, Dm t 1 [w] xs D i = D i ++ (if i ∈ xs then [t.length + w] else []) := by
  have key : ∀ (xs : List Nat) (D : Nat → List Nat), xs.Nodup → ∀ i, Dm t 1 [w] xs D i = D i ++ (if i ∈ xs then [t.length + w] else []) := by
    intro xs
    induction xs with
    | nil => intro D _ i; simp [Dm]
    | cons x xs ih =>
      intro D hn i
      have hn2 := List.nodup_cons.1 hn
      have e : Dm t 1 [w] (x :: xs) D = Dm t 1 [w] xs (stD t 1 x [t.length + w] D) := rfl
      rw [e, ih _ hn2.2]
      have e2 : stD t 1 x [t.length + w] D i = D i ++ (if i = x then [t.length + w] else []) := by
        simp only [stD, plD, befD, aftD, upd]
        by_cases e : i = x
        · subst e; simp
        · simp [e]
      rw [e2]
      by_cases e3 : i = x
      · subst e3
        simp [hn2.1]
      · by_cases e4 : i ∈ xs
        · simp [e3, e4]
        · simp [e3, e4]
  exact key xs D hx
theorem Df_app (hx : (xs ++ [xl]).Nodup) (hw : w < t.length) : Df t 1 [w] xs xl i = ((FT t).kids i).filter (fun j => decide (j ∉ [w])) ++ (if i = xl then [w] else if i ∈ xs then [t.length + w] else []) := by
  have hn := List.nodup_append.1 hx
  have hxl : xl ∉ xs := fun h => hn.2.2 xl h xl (by simp) rfl
  have e1 : ∀ i, fiD [w] (Dm t 1 [w] xs (FT t).kids) i = ((FT t).kids i).filter (fun j => decide (j ∉ [w])) ++ (if i ∈ xs then [t.length + w] else []) := fun i => by
    show (Dm t 1 [w] xs (FT t).kids i).filter _ = _
    rw [Dm_app hn.1, List.filter_append]
    congr 1
    split
    · exact filt_all fun y hy h => by
        have h1 := List.mem_singleton.1 hy
        have h2 := List.mem_singleton.1 h
        omega
    · rfl
  have e2 : ∀ D : Nat → List Nat, stD t 1 xl [w] D = upd D xl (D xl ++ [w]) := fun D => by simp [stD, plD, befD, aftD]
  unfold Df
  rw [e2]
  by_cases e : i = xl
  · subst e
    rw [upd_same, e1, if_neg hxl, if_pos rfl]
    simp
  · rw [upd_ne e, e1, if_neg e]
theorem nodes_congr {K K' : Nat → List Nat} {N N' : Nat → Node} {Q : Nat → Prop} (hK : ∀ y, Q y → K' y = K y) (hN : ∀ y, Q y → Lb (N' y) (N y)) (hQ : ∀ y, Q y → ∀ z ∈ K y, Q z) : ∀ {m y : Nat}, Q y → nodesF K' N' m y = nodesF K N m y
  | 0, _, _ => rfl
  | m + 1, y, hy => by
    obtain ⟨e1, e2, e3, e4⟩ := hN y hy
    have hf : (K' y).flatMap (nodesF K' N' m) = (K y).flatMap (nodesF K N m) := by
      rw [hK y hy]
      exact flat_congr fun z hz => nodes_congr hK hN hQ (hQ y hy z hz)
    simp only [nodesF, hf, e1, e2, e3, e4]
theorem nodes_cpK {G : Fo} {R : Nat → Nat → Prop} {K : Nat → List Nat} {N N0 : Nat → Node} {lo hi : Nat} (hN : ∀ c y, R c y → Lb (N c) (N0 y)) : ∀ {k c x : Nat}, CpR G R K lo hi k c x → ∀ m, nodesF G.kids N m c = nodesF K N0 m x
  | 0, _, _, h, _ => h.elim
  | k + 1, c, x, _, 0 => rfl
  | k + 1, c, x, ⟨h1, h2, h3⟩, m + 1 => by
    obtain ⟨e1, e2, e3, e4⟩ := hN c x h2
    have hf : (G.kids c).flatMap (nodesF G.kids N m) = (K x).flatMap (nodesF K N0 m) := flat_f2 (R := CpR G R K lo hi k) (fun a b hab => nodes_cpK hN hab m) h3
    simp only [nodesF, hf, e1, e2, e3, e4]
theorem ids_cpK {G : Fo} {R : Nat → Nat → Prop} {K : Nat → List Nat} {lo hi : Nat} : ∀ {k c x : Nat}, CpR G R K lo hi k c x → ∀ m, (idsF G.kids m c).length = (idsF K m x).length ∧ ∀ z ∈ idsF G.kids m c, lo ≤ z
  | 0, _, _, h, _ => h.elim
  | k + 1, c, x, _, 0 => ⟨rfl, fun z hz => by cases hz⟩
  | k + 1, c, x, ⟨h1, h2, h3⟩, m + 1 => by
    have key : ∀ {l l' : List Nat}, F2 (CpR G R K lo hi k) l l' → (l.flatMap (idsF G.kids m)).length = (l'.flatMap (idsF K m)).length ∧ ∀ z ∈ l.flatMap (idsF G.kids m), lo ≤ z := fun {l l'} h => by
      induction h with
      | nil => exact ⟨rfl, fun z hz => by cases hz⟩
      | cons h _ ih =>
        obtain ⟨a1, a2⟩ := ids_cpK h m
        simp only [List.flatMap_cons, List.length_append, a1, ih.1, true_and]
        intro z hz
        rcases List.mem_append.1 hz with hz | hz
        · exact a2 z hz
        · exact ih.2 z hz
    obtain ⟨k1, k2⟩ := key h3
    simp only [idsF, List.length_cons, k1, true_and]
    intro z hz
    rcases List.mem_cons.1 hz with rfl | hz
    · exact h1.1
    · exact k2 z hz
end
end Go.Proofs.Ytfmlpodcldhgdaa.V
set_option linter.unusedVariables false
set_option linter.unusedSimpArgs false
namespace Go.Proofs.Ytfmlpodcldhgdaa.V
open Go
theorem ids_Q {K : Nat → List Nat} {Q : Nat → Prop} (hQ : ∀ y, Q y → ∀ z ∈ K y, Q z) : ∀ (m y : Nat), Q y → ∀ z ∈ idsF K m y, Q z
  | 0, _, _, z, h => by cases h
  | m + 1, y, hy, z, h => by
    simp only [idsF] at h
    rcases List.mem_cons.1 h with rfl | h
    · exact hy
    · obtain ⟨c, hc, hz⟩ := List.mem_flatMap.1 h
      exact ids_Q hQ m c (hQ y hy c hc) z hz
theorem ids_tr {K : Nat → List Nat} {n r y z : Nat} (h : ∀ x, Ht K n x) (hy : y ∈ idsF K n r) (hz : z ∈ idsF K n y) : z ∈ idsF K n r :=
  ((oc_in (N := fun _ => ⟨0, [], [], [], 0⟩) h hy).trans (oc_in h hz)).mem h
structure Ap (t : List Node) (xs : List Nat) (xl w : Nat) (H : Fo) (N : Nat → HN) (n : Nat) : Prop where
  hR : RT t
  hT : Tgm t 1 xs xl [w]
  hD : Ds t (xs ++ [xl])
  hI : Im t H N (Df t 1 [w] xs xl)
  hm : H.m = t.length + xs.length * sz t w
  hn : 1000000 ≤ n
  hl : xs.length ≤ 199
  w1 : 1 ≤ w
  k3 : ∀ c ∈ xs ++ [xl], (P0 t c).2.kind = 3
section
variable {t : List Node} {xs : List Nat} {xl w : Nat} {H : Fo} {N : Nat → HN} {n : Nat}
theorem Ap.wl (h : Ap t xs xl w H N n) : w < t.length := h.hT.ts.ds.bd w (by simp)
theorem Ap.mm (h : Ap t xs xl w H N n) : H.m ≤ 900000 := by
  have h1 := many_le h.hR h.hT h.hl
  have h2 : sumS t [w] = sz t w := by simp [sumS]
  rw [h2, ← h.hm] at h1
  omega
theorem Ap.df (h : Ap t xs xl w H N n) (i : Nat) : Df t 1 [w] xs xl i = ((FT t).kids i).filter (fun j => decide (j ∉ [w])) ++ (if i = xl then [w] else if i ∈ xs then [t.length + w] else []) := Df_app h.hD.nd h.wl
theorem Ap.ht (h : Ap t xs xl w H N n) (x : Nat) : Ht H.kids n x := h.hI.rz.ht (h.hT.rank h.hR) (rankM_le h.hR) h.mm h.hn x
theorem Ap.nd (h : Ap t xs xl w H N n) (x : Nat) : (idsF H.kids n x).Nodup := h.hI.rz.nodup (h.hT.rank h.hR) n x
theorem Ap.m0 (h : Ap t xs xl w H N n) : 0 < H.m := Nat.lt_of_lt_of_le h.hR.pos h.hI.rz.le
theorem Ap.orig (h : Ap t xs xl w H N n) : ∀ (d z : Nat), 400 - rankM t [w] z = d → z < t.length → z ∈ idsF H.kids n 0 := by
  have hR := h.hR
  intro d
  induction d using Nat.strongRecOn with
  | ind d ih =>
    intro z hd hz
    by_cases e : z = 0
    · subst e
      rw [ids_fix h.ht 0]
      exact List.mem_cons_self
    · have key : ∀ q, q < t.length → z ∈ Df t 1 [w] xs xl q → z ∈ idsF H.kids n 0 := fun q hq hm => by
        have hr := h.hT.rank hR q hq z hm hz
        have hb := rankM_le hR (cs := [w]) q
        obtain ⟨a, ha, hi⟩ := (h.hI.rz.kid q hq).mem_r hm
        rcases hi with ⟨_, rfl⟩ | ⟨h1, _⟩
        · exact kid_in h.ht (ih (400 - rankM t [w] q) (by omega) q rfl hq) ha
        · omega
      by_cases ew : z = w
      · subst ew
        have hxl : xl < t.length := h.hD.bd xl (by simp)
        exact key xl hxl (by rw [h.df, if_pos rfl]; simp)
      · obtain ⟨q, hq⟩ := par_ex hR hz e
        have hql : q < t.length := by have := (par_some hq).1; omega
        refine key q hql ?_
        rw [h.df]
        refine List.mem_append_left _ (filt_mem.2 ⟨?_, by simpa using ew⟩)
        rw [ft_kids hql]
        exact kids_in (hR.L hql) hq
theorem Ap.xs_kids (h : Ap t xs xl w H N n) {x : Nat} (hx : x ∈ xs) : ∃ A c, H.kids x = A ++ [c] ∧ CI t H N c w := by
  have hxl : x ≠ xl := fun e => by
    have hn := List.nodup_append.1 h.hD.nd
    exact hn.2.2 x hx xl (by simp) e
  have h1 := h.hI.rz.kid x (h.hD.bd x (by simp [hx]))
  rw [h.df, if_neg hxl, if_pos hx] at h1
  obtain ⟨A, c, B, e, h2, h3, h4⟩ := F2.split_r h1
  cases h4
  rcases h3 with ⟨h5, _⟩ | ⟨_, _, h5⟩
  · omega
  · rw [Nat.add_sub_cancel_left] at h5
    exact ⟨A, c, e, h5⟩
theorem Ap.xl_kids (h : Ap t xs xl w H N n) : ∃ A, H.kids xl = A ++ [w] := by
  have h1 := h.hI.rz.kid xl (h.hD.bd xl (by simp))
  rw [h.df, if_pos rfl] at h1
  obtain ⟨A, c, B, e, h2, h3, h4⟩ := F2.split_r h1
  cases h4
  rcases h3 with ⟨_, rfl⟩ | ⟨h5, _⟩
  · exact ⟨A, e⟩
  · have := h.wl; omega
theorem Ap.lb (h : Ap t xs xl w H N n) {c y : Nat} (hc : cpl (N c) (bs0 t y)) : Lb (kn (N c)) (kn (bs0 t y)) := by
  rw [kn_cpl hc]
  exact ⟨rfl, rfl, rfl, rfl⟩
theorem Ap.nodes_c (h : Ap t xs xl w H N n) {c : Nat} (hc : CI t H N c w) : nodesF H.kids (fun i => kn (N i)) n c = (t.drop w).take (sz t w) := by
  obtain ⟨k, hk⟩ := hc
  have hle := h.hR.le h.wl
  have hlen := h.hR.len
  have hn := h.hn
  rw [nodes_cpK (N := fun i => kn (N i)) (N0 := fun i => kn (bs0 t i)) (fun c y hc => h.lb hc) hk n, nodes_tree h.hR n w h.wl (by omega)]
theorem Ap.ids_c (h : Ap t xs xl w H N n) {c : Nat} (hc : CI t H N c w) : (idsF H.kids n c).length = sz t w ∧ ∀ z ∈ idsF H.kids n c, t.length ≤ z := by
  obtain ⟨k, hk⟩ := hc
  have hle := h.hR.le h.wl
  have hlen := h.hR.len
  have hn := h.hn
  have := ids_cpK hk n
  rw [ids_tree h.hR n w h.wl (by omega), List.length_range'] at this
  exact this
theorem Ap.nodes_w (h : Ap t xs xl w H N n) : nodesF H.kids (fun i => kn (N i)) n w = (t.drop w).take (sz t w) := by
  have hle := h.hR.le h.wl
  have hlen := h.hR.len
  have hn := h.hn
  rw [nodes_congr (K := (FT t).kids) (N := fun i => kn (bs0 t i)) (Q := Hld t w) (fun y hy => ?_) (fun y hy => ?_) (fun y hy z hz => hld_kids h.hR h.wl hy hz) (hld_self h.hR h.wl), nodes_tree h.hR n w h.wl (by omega)]
  · have hyl : y < t.length := by have := hy.2; omega
    have hno : ∀ x ∈ xs ++ [xl], y ≠ x := fun x hx e => h.hT.ts.pw x hx ⟨w, by simp, by subst e; exact hy⟩
    have h1 := h.hI.rz.kid y hyl
    rw [h.df, if_neg (hno xl (by simp)), if_neg (fun hx => hno y (by simp [hx]) rfl), List.append_nil, filt_all (fun z hz hw => ?_)] at h1
    · have : ∀ {l m : List Nat}, (∀ z ∈ m, z < t.length) → F2 (It t (CI t H N)) l m → l = m := fun {l m} hm hf => by
        induction hf with
        | nil => rfl
        | cons hi _ ih =>
          rw [ih fun z hz => hm z (by simp [hz])]
          rcases hi with ⟨_, rfl⟩ | ⟨h5, _⟩
          · rfl
          · have := hm _ List.mem_cons_self; omega
      exact this (fun z hz => (kid_facts h.hR hz).2.2.1) h1
    · have h2 := (kid_facts h.hR hz).1
      have h3 := List.mem_singleton.1 hw
      have := hy.1
      omega
  · have hyl : y < t.length := by have := hy.2; omega
    show Lb (kn (N y)) (kn (bs0 t y))
    rw [h.hI.lab y hyl]
    exact ⟨rfl, rfl, rfl, rfl⟩
theorem Ap.up_lt (h : Ap t xs xl w H N n) : ∀ (k y z : Nat), y < t.length → upn H k y = some z → z < t.length
  | 0, y, z, hy, e => by cases e; exact hy
  | k + 1, y, z, hy, e => by
    simp only [upn] at e
    cases hq : upn H k y with
    | none => rw [hq] at e; cases e
    | some q =>
      rw [hq] at e
      have hql := h.up_lt k y q hy hq
      have hk := (h.hI.rz.ok.up (c := q) (p := z) e).2
      by_cases e2 : z < t.length
      · exact e2
      · have := h.hI.rz.inc z (by omega) q hk
        omega
def lastC (H : Fo) (x : Nat) : Nat := (H.kids x).getLast?.getD 0
theorem Ap.lc (h : Ap t xs xl w H N n) {x : Nat} (hx : x ∈ xs) : CI t H N (lastC H x) w ∧ lastC H x ∈ H.kids x := by
  obtain ⟨A, c, e, hc⟩ := h.xs_kids hx
  have : lastC H x = c := by simp [lastC, e]
  rw [this, e]
  exact ⟨hc, by simp⟩
theorem Ap.apart (h : Ap t xs xl w H N n) {x x' z k l : Nat} (hx : x ∈ xs) (hx' : x' ∈ xs) (h1 : upn H k z = some (lastC H x)) (h2 : upn H l z = some (lastC H x')) (hkl : k ≤ l) : x = x' := by
  have ux := (h.hI.rz.ok.kid (h.lc hx).2).1
  have ux' := (h.hI.rz.ok.kid (h.lc hx').2).1
  by_cases e : k = l
  · subst e
    rw [h1] at h2
    rw [Option.some.inj h2, ux'] at ux
    exact (Option.some.inj ux).symm
  · have h3 := upn_add (F := H) (l - k) k z
    rw [show k + (l - k) = l by omega, h2, h1, Option.bind_some] at h3
    have h4 := upn_add (F := H) (l - k - 1) 1 (lastC H x)
    rw [show 1 + (l - k - 1) = l - k by omega, ← h3] at h4
    have h5 : upn H 1 (lastC H x) = some x := by simp [upn, ux]
    rw [h5, Option.bind_some] at h4
    have h6 := h.up_lt _ x _ (h.hD.bd x (by simp [hx])) h4.symm
    have := (h.lc hx').1.lt.1
    omega
theorem Ap.len (h : Ap t xs xl w H N n) : (idsF H.kids n 0).length = t.length + xs.length * sz t w := by
  have hup := ids_len h.hI.rz.ok (h.hI.rz.rank (h.hT.rank h.hR)) n h.m0
  rw [h.hm] at hup
  have hnd : (List.range t.length ++ xs.flatMap fun x => idsF H.kids n (lastC H x)).Nodup := by
    rw [List.nodup_append]
    refine ⟨List.nodup_range, ?_, fun a ha b hb e => ?_⟩
    · unfold List.Nodup
      rw [List.pairwise_flatMap]
      refine ⟨fun x _ => h.nd _, (List.Pairwise.imp_of_mem fun {a b} hma hmb hab z hz z' hz' e => ?_) (List.nodup_append.1 h.hD.nd).1⟩
      subst e
      obtain ⟨k, hk⟩ := ids_up h.hI.rz.ok n _ z hz
      obtain ⟨l, hl⟩ := ids_up h.hI.rz.ok n _ z hz'
      by_cases e : k ≤ l
      · exact hab (h.apart hma hmb hk hl e)
      · exact hab (h.apart hmb hma hl hk (by omega)).symm
    · obtain ⟨x, hx, hbx⟩ := List.mem_flatMap.1 hb
      have := (h.ids_c (h.lc hx).1).2 b hbx
      have := List.mem_range.1 ha
      omega
  have hsub := hnd.length_le_of_subset (l₂ := idsF H.kids n 0) (fun z hz => by
    rcases List.mem_append.1 hz with hz | hz
    · exact h.orig _ z rfl (List.mem_range.1 hz)
    · obtain ⟨x, hx, hzx⟩ := List.mem_flatMap.1 hz
      exact ids_tr h.ht (kid_in h.ht (h.orig _ x rfl (h.hD.bd x (by simp [hx]))) (h.lc hx).2) hzx)
  have hcount : (xs.flatMap fun x => idsF H.kids n (lastC H x)).length = xs.length * sz t w := by
    have : ∀ l : List Nat, (∀ x ∈ l, x ∈ xs) → (l.flatMap fun x => idsF H.kids n (lastC H x)).length = l.length * sz t w := fun l => by
      induction l with
      | nil => simp
      | cons a l ih =>
        intro hl
        rw [List.flatMap_cons, List.length_append, ih fun x hx => hl x (by simp [hx]), (h.ids_c (h.lc (hl a (by simp))).1).1, List.length_cons, Nat.add_mul]
        omega
    exact this xs fun _ h => h
  rw [List.length_append, List.length_range, hcount] at hsub
  omega
theorem Ap.tree (h : Ap t xs xl w H N n) : treeD t (Df t 1 [w] xs xl) n = nodesF H.kids (fun i => kn (N i)) n 0 :=
  (nodesR h.hI.rz (fun c y _ hc => hc) (fun c y hc => h.lb hc) (fun i hi => by rw [h.hI.lab i hi]; exact ⟨rfl, rfl, rfl, rfl⟩) n 0 0 (.orig h.hR.pos)).symm
theorem Ap.eqo (h : Ap t xs xl w H N n) : F2 (Eqo t) (idsF H.kids n 0) (idsF (KD t (Df t 1 [w] xs xl)) n 0) := idsR (Nat.le_refl _) h.hI.rz (fun c y _ hc => hc) n 0 0 (.orig h.hR.pos)
theorem Ap.spots (h : Ap t xs xl w H N n) : spotsD t (Df t 1 [w] xs xl) n = (List.range t.length).map fun z => ((idsF H.kids n 0).idxOf z : Int) :=
  List.map_congr_left fun z hz => by
    rw [← posL_R (List.mem_range.1 hz) h.eqo]
    exact if_pos (h.orig _ z rfl (List.mem_range.1 hz))
theorem Ap.htK (h : Ap t xs xl w H N n) (y : Nat) : Ht (KD t (Df t 1 [w] xs xl)) n y := by
  have hR := h.hR
  have hlen := hR.len
  have hn := h.hn
  have hr : ∀ x y, y ∈ KD t (Df t 1 [w] xs xl) x → (if y < t.length then rankM t [w] y + t.length + 1 else t.length - (y - t.length)) < (if x < t.length then rankM t [w] x + t.length + 1 else t.length - (x - t.length)) := fun x y hy => by
    unfold KD at hy
    by_cases e : x < t.length
    · rw [if_pos e] at hy ⊢
      by_cases e2 : y < t.length
      · rw [if_pos e2]
        have := h.hT.rank hR x e y hy e2
        omega
      · rw [if_neg e2]
        omega
    · rw [if_neg e] at hy ⊢
      obtain ⟨z, hz, rfl⟩ := List.mem_map.1 hy
      have := kid_facts hR hz
      rw [if_neg (by omega)]
      omega
  refine ht_rank hr n y ?_
  have := rankM_le hR (cs := [w]) y
  split <;> omega
theorem Ap.bd (h : Ap t xs xl w H N n) : ∀ z ∈ idsF (KD t (Df t 1 [w] xs xl)) n 0, z < t.length ∨ (t.length + w ≤ z ∧ z - t.length < t.length) := by
  have hR := h.hR
  have hwl := h.wl
  refine ids_Q (Q := fun z => z < t.length ∨ (t.length + w ≤ z ∧ z - t.length < t.length)) (fun y hy z hz => ?_) n 0 (.inl hR.pos)
  unfold KD at hz
  by_cases e : y < t.length
  · rw [if_pos e, h.df] at hz
    rcases List.mem_append.1 hz with hz | hz
    · exact .inl (kid_facts hR (filt_mem.1 hz).1).2.2.1
    · split at hz
      · rw [List.mem_singleton.1 hz]; exact .inl hwl
      · split at hz
        · rw [List.mem_singleton.1 hz]; exact .inr ⟨Nat.le_refl _, by omega⟩
        · cases hz
  · rw [if_neg e] at hz
    obtain ⟨z', hz', rfl⟩ := List.mem_map.1 hz
    have := kid_facts hR hz'
    rcases hy with hy | hy
    · omega
    · exact .inr ⟨by omega, by omega⟩
theorem Ap.shp (h : Ap t xs xl w H N n) (hle : (treeD t (Df t 1 [w] xs xl) n).length ≤ 600) : Shp (treeD t (Df t 1 [w] xs xl) n) := by
  have hR := h.hR
  have h0 : Oc (KD t (Df t 1 [w] xs xl)) (NdR t (fun i => kn (bs0 t i))) n 0 0 0 := .refl
  have node : ∀ (i : Nat) (v : Node), (treeD t (Df t 1 [w] xs xl) n)[i]? = some v → ∃ y u, Oc (KD t (Df t 1 [w] xs xl)) (NdR t (fun i => kn (bs0 t i))) n 0 i y ∧ t[if y < t.length then y else y - t.length]? = some u ∧ v.kind = u.kind ∧ (y < t.length ∨ t.length + w ≤ y) := fun i v hv => by
    obtain ⟨y, hy⟩ := oc_at (N := NdR t (fun i => kn (bs0 t i))) h.htK (List.getElem?_eq_some_iff.1 hv).1
    have hb := h.bd y (hy.mem h.htK)
    have hyl : (if y < t.length then y else y - t.length) < t.length := by split <;> omega
    obtain ⟨u, hu⟩ := get_lt hyl
    refine ⟨y, u, hy, hu, ?_, hb.imp id fun h => h.1⟩
    have h1 := hy.nd h.htK
    have h1' : (treeD t (Df t 1 [w] xs xl) n)[i]? = _ := h1
    rw [h1'] at hv
    cases hv
    have hN : NdR t (fun i => kn (bs0 t i)) y = kn (bs0 t (if y < t.length then y else y - t.length)) := by unfold NdR; split <;> rfl
    simp only [hN, kn_bs0 hR hu]
  refine ⟨nodes_pos h.htK 0, by omega, h0.sz h.htK, fl_lam h.htK 0, ?_, fun i v hv => ?_, fun i v hv hk => ?_, fun i v hv h3 h1 => ?_⟩
  · obtain ⟨v, hv⟩ := get_lt (nodes_pos (N := NdR t (fun i => kn (bs0 t i))) h.htK 0)
    obtain ⟨u, hu, hu1⟩ := hR.k0
    have h1 := h0.nd h.htK
    refine ⟨_, h1, ?_⟩
    have hN : NdR t (fun i => kn (bs0 t i)) 0 = kn (bs0 t 0) := if_pos hR.pos
    simp only [hN, kn_bs0 hR hu]
    exact hu1
  · obtain ⟨y, u, _, hu, e, _⟩ := node i v hv
    rw [e]
    exact (hR.node _ u hu).kd
  · obtain ⟨y, u, hy, hu, e, hb⟩ := node i v hv
    have hz := (hR.node _ u hu).k1 (e ▸ hk)
    have hy0 : y = 0 := by
      have := h.w1
      split at hz <;> omega
    subst hy0
    have hid := hy.id h.htK
    have hil := (List.getElem?_eq_some_iff.1 hid).1
    have hlen2 := forall2_len h.eqo
    obtain ⟨a, ha⟩ := get_lt (l := idsF H.kids n 0) (k := i) (by omega)
    obtain ⟨b, hb', hab⟩ := forall2_get h.eqo ha
    rw [hid] at hb'
    cases hb'
    have ha0 : a = 0 := by
      rcases hab with ⟨_, h2⟩ | ⟨h2, _⟩
      · exact h2
      · have := hR.pos; omega
    subst ha0
    have hh0 : Oc H.kids (fun i => kn (N i)) n 0 0 0 := .refl
    rw [← idxOf_at (h.nd 0) ha, idxOf_at (h.nd 0) (hh0.id h.ht)]
  · obtain ⟨y, u, hy, hu, e, hb⟩ := node i v hv
    have hs := hy.sz h.htK
    have hs' : sz (treeD t (Df t 1 [w] xs xl) n) i = _ := hs
    rw [hs', nodes_fix h.htK y]
    have hk0 : (FT t).kids (if y < t.length then y else y - t.length) = [] := by
      cases hK : (FT t).kids (if y < t.length then y else y - t.length) with
      | nil => rfl
      | cons c l =>
        obtain ⟨u', hu', hk'⟩ := kid_kind hR (x := if y < t.length then y else y - t.length) (y := c) (by rw [hK]; simp)
        rw [hu] at hu'
        cases hu'
        rw [e] at h3 h1
        rcases hk' with hk' | hk'
        · exact absurd hk' h3
        · exact absurd hk' h1
    have : KD t (Df t 1 [w] xs xl) y = [] := by
      unfold KD
      by_cases ey : y < t.length
      · rw [if_pos ey] at hk0 ⊢
        rw [if_pos ey] at hu
        have hno : ∀ x ∈ xs ++ [xl], y ≠ x := fun x hx e2 => by
          have hk3 := h.k3 x hx
          have : (P0 t x).2 = u := by subst e2; simp [P0, nd0, hu]
          rw [this, ← e] at hk3
          exact h3 hk3
        rw [h.df, hk0, if_neg (hno xl (by simp)), if_neg (fun hx => hno y (by simp [hx]) rfl)]
        rfl
      · rw [if_neg ey] at hk0 ⊢
        rw [hk0]; rfl
    rw [this]
    rfl
theorem Ap.tlen (h : Ap t xs xl w H N n) : (treeD t (Df t 1 [w] xs xl) n).length = t.length + xs.length * sz t w := by
  rw [h.tree, nodesF_len, h.len]
theorem Ap.oc (h : Ap t xs xl w H N n) {z : Nat} (hz : z ∈ idsF H.kids n 0) : Oc H.kids (fun i => kn (N i)) n 0 ((idsF H.kids n 0).idxOf z) z := oc_in h.ht hz
theorem Ap.in0 (h : Ap t xs xl w H N n) {z : Nat} (hz : z < t.length) : z ∈ idsF H.kids n 0 := h.orig _ z rfl hz
theorem Ap.Kids (h : Ap t xs xl w H N n) (hS : Shp (treeD t (Df t 1 [w] xs xl) n)) {x : Nat} (hx : x < t.length) : m_spec_Kids (treeD t (Df t 1 [w] xs xl) n, ((idsF H.kids n 0).idxOf x : Int)) = some ((H.kids x).map fun c => ((idsF H.kids n 0).idxOf c : Int)) := by
  have hlt := List.idxOf_lt_length_of_mem (h.in0 hx)
  have hl : (treeD t (Df t 1 [w] xs xl) n).length = (idsF H.kids n 0).length := by rw [h.tree, nodesF_len]
  rw [Kids_eq _ (by have := hS.len; omega) hS.lam (Nat.zero_le _) (by omega) (Nat.le_refl _), h.tree, fl_kids_map h.ht (h.nd 0) (h.oc (h.in0 hx)), List.map_map]
  rfl
theorem sub_shp {T : List Node} (hS : Shp T) {x : Nat} (hx : x < T.length) : m_spec_Sub (T, (x : Int)) = some ((T.drop x).take (sz T x)) := by
  obtain ⟨v, hv, hvs, hv1, hv2⟩ := hS.lam.ok x (Nat.zero_le _) hx
  have hlen := hS.len
  simp only [m_spec_Sub, atI_nat, hv, bind_some, hvs]
  rw [w64 (by omega) (by omega)]
  have e : (x : Int) + (sz T x : Int) = ((x + sz T x : Nat) : Int) := by omega
  rw [e, subL_nat2 T (by omega) hv2]
  simp only [bind_some]
  congr 1
  rw [List.drop_take]
  congr 1
  omega
theorem Ap.Sub (h : Ap t xs xl w H N n) (hS : Shp (treeD t (Df t 1 [w] xs xl) n)) {c : Nat} (hc : c ∈ idsF H.kids n 0) (hn : nodesF H.kids (fun i => kn (N i)) n c = (t.drop w).take (sz t w)) : m_spec_Sub (treeD t (Df t 1 [w] xs xl) n, ((idsF H.kids n 0).idxOf c : Int)) = some ((t.drop w).take (sz t w)) := by
  have hlt := List.idxOf_lt_length_of_mem hc
  have hl : (treeD t (Df t 1 [w] xs xl) n).length = (idsF H.kids n 0).length := by rw [h.tree, nodesF_len]
  rw [sub_shp hS (by omega)]
  have h1 := (h.oc hc).sub h.ht
  rw [h.tree, h1, hn]
theorem Ap.loop (h : Ap t xs xl w H N n) (hS : Shp (treeD t (Df t 1 [w] xs xl) n)) : ∀ (d j : Nat), (xs ++ [xl]).length - j = d → j ≤ (xs ++ [xl]).length →
    loopO m_laws_FnCopies_0 (t, intsN (xs ++ [xl]), (w : Int), treeD t (Df t 1 [w] xs xl) n, spotsD t (Df t 1 [w] xs xl) n, (j : Int)) = some (.inl ()) := by
  have hR := h.hR
  have hlen := hR.len
  have hl := h.hl
  have hwl := h.wl
  have hle := hR.le hwl
  have hsp : ∀ z, z < t.length → (spotsD t (Df t 1 [w] xs xl) n)[z]? = some ((idsF H.kids n 0).idxOf z : Int) := fun z hz => by
    rw [h.spots, List.getElem?_map, List.getElem?_range hz]; rfl
  have hsame : m_spec_SameTree ((t.drop w).take (sz t w), (t.drop w).take (sz t w)) = some true := sameTree_refl _ (by simp; omega) fun i v hi => attrs_le hR (List.mem_of_mem_drop (List.mem_of_mem_take (List.mem_of_getElem? hi)))
  intro d
  induction d with
  | zero =>
    intro j hd hj
    refine loopO_out ?_
    simp only [m_laws_FnCopies_0, cond_dec]
    rw [if_neg (by simp [intsN]; simp at hd; omega)]
  | succ d ih =>
    intro j hd hj
    obtain ⟨x, hx⟩ := get_lt (l := xs ++ [xl]) (k := j) (by omega)
    have hxm := List.mem_of_getElem? hx
    have hj2 : j ≤ 200 := by simp at hj; omega
    have hxl := h.hD.bd x hxm
    have hxi := h.in0 hxl
    have hg : (intsN (xs ++ [xl]))[j]? = some (x : Int) := by rw [intsN, List.getElem?_map, hx]; rfl
    obtain ⟨A, c, hk, hcn, hcw⟩ : ∃ A c, H.kids x = A ++ [c] ∧ nodesF H.kids (fun i => kn (N i)) n c = (t.drop w).take (sz t w) ∧ (c = w ↔ j = xs.length) := by
      by_cases e : j < xs.length
      · rw [List.getElem?_append_left e] at hx
        obtain ⟨A, c, e1, e2⟩ := h.xs_kids (List.mem_of_getElem? hx)
        refine ⟨A, c, e1, h.nodes_c e2, ⟨fun e3 => ?_, fun e3 => by omega⟩⟩
        have := e2.lt.1
        omega
      · have ej : j = xs.length := by simp at hj hd; omega
        subst ej
        have : x = xl := by simpa using hx.symm
        subst this
        obtain ⟨A, e1⟩ := h.xl_kids
        exact ⟨A, w, e1, h.nodes_w, ⟨fun _ => rfl, fun _ => rfl⟩⟩
    have hcm : c ∈ H.kids x := by rw [hk]; simp
    have hci := kid_in h.ht hxi hcm
    have hK := h.Kids hS hxl
    have hSub := h.Sub hS hci hcn
    have hkl : ((H.kids x).map fun c => ((idsF H.kids n 0).idxOf c : Int)).length = A.length + 1 := by rw [hk]; simp
    have hAl : A.length + 1 ≤ 1000000 := by
      have h1 := fo_klen h.hI.rz.ok x
      have h2 := h.mm
      rw [hk] at h1
      simp only [List.length_append, List.length_singleton] at h1
      omega
    have hlast : ((H.kids x).map fun c => ((idsF H.kids n 0).idxOf c : Int))[A.length]? = some ((idsF H.kids n 0).idxOf c : Int) := by rw [hk]; simp
    have e1 : IntKind.wrap .i64 ((((H.kids x).map fun c => ((idsF H.kids n 0).idxOf c : Int)).length : Int) - 1) = (A.length : Int) := by rw [hkl, w64 (by omega) (by omega)]; omega
    have e2 : IntKind.wrap .i64 (((intsN (xs ++ [xl])).length : Int) - 1) = (xs.length : Int) := by
      have : (intsN (xs ++ [xl])).length = xs.length + 1 := by simp [intsN]
      rw [this, w64 (by omega) (by omega)]; omega
    have hiff : (((idsF H.kids n 0).idxOf c : Int) = ((idsF H.kids n 0).idxOf w : Int)) ↔ ((j : Int) = (xs.length : Int)) := by
      constructor
      · intro e
        have h1 := (h.oc hci).id h.ht
        have h2 := (h.oc (h.in0 hwl)).id h.ht
        have e' : (idsF H.kids n 0).idxOf c = (idsF H.kids n 0).idxOf w := by omega
        rw [e', h2] at h1
        have := hcw.1 (Option.some.inj h1).symm
        omega
      · intro e
        rw [hcw.2 (by omega)]
    have step : m_laws_FnCopies_0 (t, intsN (xs ++ [xl]), (w : Int), treeD t (Df t 1 [w] xs xl) n, spotsD t (Df t 1 [w] xs xl) n, (j : Int)) = some (.nx (t, intsN (xs ++ [xl]), (w : Int), treeD t (Df t 1 [w] xs xl) n, spotsD t (Df t 1 [w] xs xl) n, ((j + 1 : Nat) : Int))) := by
      simp only [m_laws_FnCopies_0, cond_dec, atI_nat, hg, bind_some, hsp x hxl, hK, e1, e2, Int.toNat_natCast, hlast, hSub, sub_eq hR hwl, hsame, hsp w hwl, Bool.not_true, cond_false]
      rw [if_pos (by simp [intsN]; simp at hd; omega), if_neg (by omega), if_neg (by rw [hkl]; omega)]
      have hb : (!(decide (((idsF H.kids n 0).idxOf c : Int) = ((idsF H.kids n 0).idxOf w : Int)) == decide ((j : Int) = (xs.length : Int)))) = false := by
        by_cases e : (j : Int) = (xs.length : Int)
        · rw [decide_eq_true e, decide_eq_true (hiff.2 e)]; rfl
        · rw [decide_eq_false e, decide_eq_false (fun h => e (hiff.1 h))]; rfl
      rw [hb, cond_false, w64 (by omega) (by omega)]
      rfl
    rw [loopO_nx step]
    exact ih (j + 1) (by omega) (by omega)
end
theorem fn_copies (t : List Node) (on : List Int) (wi : Int) : m_laws_FnCopies (t, on, wi) = some true := by
  simp only [m_laws_FnCopies, zz1, bind_some, m_laws_step7, cond_dec]
  cases hf : fits1 t with
  | false => rfl
  | true =>
    simp only [Bool.not_true, cond_false]
    by_cases hl1 : (2147483647 : Int) < (on.length : Int)
    · rw [if_pos hl1]
    rw [if_neg hl1]
    obtain ⟨n, hb, hn⟩ := big_ex
    obtain ⟨out, at', b, h1, h2⟩ := changedM (t := t) (opc := 1) (op := 1) (on := on) (ws := [wi]) hf (.inl ⟨rfl, rfl⟩) (by omega) (by simp) hb hn
    have hs : m_laws_sure7 (t, 1, on, [wi], [], [], []) = some b := by simp only [m_laws_sure7, h1, bind_some]
    rw [hs, bind_some]
    cases b with
    | false => rfl
    | true =>
      obtain ⟨hR, xs, xl, l, rfl, hwi, hT, hD, h3, h4, rfl, rfl, hle⟩ := h2 rfl
      obtain ⟨w, rfl⟩ : ∃ w, l = [w] := by
        have : l.length = 1 := by
          have := congrArg List.length hwi
          simpa [intsN] using this.symm
        exact List.length_eq_one_iff.1 this
      have hw : wi = (w : Int) := by
        simp only [intsN, List.map_cons, List.map_nil, List.cons.injEq, and_true] at hwi
        exact hwi
      subst hw
      have hlen := hR.len
      have hxl := hD.len hlen
      simp only [List.length_append, List.length_singleton] at hxl
      have hm := many_le hR hT (by omega)
      have eD : DfC t 1 1 [w] xs xl = Df t 1 [w] xs xl := by unfold DfC; rw [if_neg (by decide)]
      rw [eD] at hle
      obtain ⟨S, hi⟩ := AppendOf_many hf hR hT hD (by omega) hb hn
      have hi' : m_impl_AppendOf_f (t, intsN (xs ++ [xl]), intsN [w]) = some (treeD t (Df t 1 [w] xs xl) n, spotsD t (Df t 1 [w] xs xl) n, true) := by
        show (m_impl_AppendOf (t, intsN (xs ++ [xl]), intsN [w], [])).map _ = _
        rw [hi]; rfl
      have hi'' : m_impl_AppendOf_f (t, intsN (xs ++ [xl]), [(w : Int)]) = _ := hi'
      obtain ⟨H, N, _, q2, q3⟩ := man_app hR hT (by omega)
      have hA : Ap t xs xl w H N n := ⟨hR, hT, hD, q2, by rw [q3]; simp [sumS], hn, by omega, h4 w (by simp), h3 (by decide)⟩
      have hS := hA.shp hle
      have hSh := Shp_eq hS
      have hwl := hA.wl
      obtain ⟨v, hv, hvs, _, _⟩ := hR.lam.ok w (Nat.zero_le _) hwl
      have hsl : (spotsD t (Df t 1 [w] xs xl) n).length = t.length := by simp [spotsD]
      have hto : m_laws_told7 (t, treeD t (Df t 1 [w] xs xl) n, spotsD t (Df t 1 [w] xs xl) n, true) = some true := by
        simp only [m_laws_told7, cond_dec, cond_true, hSh, bind_some]
        rw [if_pos (by omega)]
      have hloop := hA.loop hS _ 0 rfl (Nat.zero_le _)
      have hloop' : loopO m_laws_FnCopies_0 (t, intsN (xs ++ [xl]), (w : Int), treeD t (Df t 1 [w] xs xl) n, spotsD t (Df t 1 [w] xs xl) n, (0 : Int)) = some (.inl ()) := hloop
      have htl := hA.tlen
      have hsum : sumS t [w] = sz t w := by simp [sumS]
      rw [hsum] at hm
      have hil : (intsN (xs ++ [xl])).length = xs.length + 1 := by simp [intsN]
      have e1 : IntKind.wrap .i64 (((intsN (xs ++ [xl])).length : Int) - 1) = (xs.length : Int) := by rw [hil, w64 (by omega) (by omega)]; omega
      have hp : ((xs.length : Int) * (sz t w : Int)) = ((xs.length * sz t w : Nat) : Int) := by rw [Int.natCast_mul]
      have e2 : IntKind.wrap .i64 ((xs.length : Int) * (sz t w : Int)) = ((xs.length * sz t w : Nat) : Int) := by rw [hp, w64 (by omega) (by omega)]
      have e3 : IntKind.wrap .i64 ((t.length : Int) + ((xs.length * sz t w : Nat) : Int)) = ((treeD t (Df t 1 [w] xs xl) n).length : Int) := by rw [w64 (by omega) (by omega), htl]; omega
      simp only [Bool.not_true, cond_false, hi'', bind_some, hto, atI_nat, hv, hvs, e1, e2, e3, hloop']
      rw [if_neg (by simp)]
      rfl
end Go.Proofs.Ytfmlpodcldhgdaa.V
