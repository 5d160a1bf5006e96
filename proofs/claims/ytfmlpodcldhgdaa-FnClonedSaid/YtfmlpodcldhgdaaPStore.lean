/-
  A right tree as a forest: the nodes that are grown, and that what is taken of them is the tree. Plain facts.
-/
import Derived.Test.YtfmlpodcldhgdaaPKids
import Derived.Test.YtfmlpodcldhgdaaPTaken
set_option linter.unusedVariables false
set_option linter.unusedSimpArgs false
namespace Go.Proofs.Ytfmlpodcldhgdaa.V
open Go

def FT (t : List Node) : Fo := ⟨t.length, fun i => if i < t.length then par t i else none, fun i => if i < t.length then kidsN t i else []⟩
section
variable {t : List Node}
theorem RT.L (hR : RT t) {p : Nat} (hp : p < t.length) : Lam t p (p + sz t p) := hR.lam.sub (Nat.zero_le _) hp
theorem RT.le (hR : RT t) {p : Nat} (hp : p < t.length) : p + sz t p ≤ t.length := by
  obtain ⟨_, _, _, _, h⟩ := hR.lam.ok p (Nat.zero_le _) hp
  exact h
theorem RT.sz1 (hR : RT t) {p : Nat} (hp : p < t.length) : 1 ≤ sz t p := by
  obtain ⟨_, _, _, h, _⟩ := hR.lam.ok p (Nat.zero_le _) hp
  exact h
theorem FT_ok (hR : RT t) : (FT t).ok := by
  refine ⟨fun {p c} hc => ?_, fun {c p} hu => ?_, fun p => ?_, fun c => ?_⟩
  · simp only [FT] at hc ⊢
    by_cases hp : p < t.length
    · rw [if_pos hp] at hc
      have h1 := kids_mem (hR.L hp) (Nat.le_refl _) (by have := hR.sz1 hp; omega) hc
      have h2 := hR.le hp
      rw [if_pos (by omega)]
      exact ⟨kids_par (hR.L hp) hc, by omega⟩
    · rw [if_neg hp] at hc; cases hc
  · simp only [FT] at hu ⊢
    by_cases hc : c < t.length
    · rw [if_pos hc] at hu
      have h1 := par_some hu
      have hp : p < t.length := by omega
      rw [if_pos hp]
      exact ⟨hp, kids_in (hR.L hp) hu⟩
    · rw [if_neg hc] at hu; cases hu
  · simp only [FT]
    by_cases hp : p < t.length
    · rw [if_pos hp]
      exact (kids_sorted (hR.L hp)).imp fun h => Nat.ne_of_lt h
    · rw [if_neg hp]; exact List.nodup_nil
  · simp only [FT]
    by_cases hc : c < t.length
    · rw [if_pos hc]
      intro h
      have := par_some h
      omega
    · rw [if_neg hc]; intro h; cases h
theorem getLast_get (l : List Nat) : l.getLast? = l[l.length - 1]? := by
  rw [List.getLast?_eq_getElem?]
theorem store_st (hR : RT t) : store t = (FT t).st (bs0 t) := by
  apply List.ext_getElem?
  intro i
  by_cases hi : i < t.length
  · rw [store_get hi, Fo.get (F := FT t) hi]
    congr 1
    have hL := hR.L hi
    have hle := hR.le hi
    have hk : (FT t).kids i = kidsN t i := if_pos hi
    have hu : (FT t).up i = par t i := if_pos hi
    have e1 : (rc t 0 t.length i).par = par t i := rc_par
    have e2 := kid_fst hL hle
    have e3 := kid_lst hL hle
    have e4 : (rc t 0 t.length i).prv = (par t i).bind fun p => prvL ((FT t).kids p) i := by
      cases hp : par t i with
      | none =>
        simp only [rc, prvF, hp, Option.bind_none]
        split <;> rfl
      | some p =>
        have hpl : p < t.length := by have := par_some hp; omega
        have hkp : (FT t).kids p = kidsN t p := if_pos hpl
        have hm := kids_in (hR.L hpl) hp
        obtain ⟨j, hj⟩ := List.mem_iff_getElem?.1 hm
        have hn : (kidsN t p).Nodup := (kids_sorted (hR.L hpl)).imp fun h => Nat.ne_of_lt h
        rw [kid_prv (hR.L hpl) hj]
        simp only [Option.bind_some, hkp]
        have hjl := (List.getElem?_eq_some_iff.1 hj).1
        unfold prvL
        have hrev : (kidsN t p).reverse[(kidsN t p).length - 1 - j]? = some i := by
          rw [List.getElem?_reverse (by omega)]
          rw [show (kidsN t p).length - 1 - ((kidsN t p).length - 1 - j) = j by omega]
          exact hj
        rw [nxtL_get ((List.reverse_perm _).nodup_iff.2 hn) hrev]
        by_cases h0 : j = 0
        · subst h0
          rw [if_pos rfl, List.getElem?_eq_none (by simp; omega)]
        · rw [if_neg h0, List.getElem?_reverse (by omega)]
          congr 1
          omega
    have e5 : (rc t 0 t.length i).nxt = (par t i).bind fun p => nxtL ((FT t).kids p) i := by
      cases hp : par t i with
      | none =>
        simp only [rc, nxtF, hp, Option.bind_none]
        split <;> rfl
      | some p =>
        have hpl : p < t.length := by have := par_some hp; omega
        have hkp : (FT t).kids p = kidsN t p := if_pos hpl
        have hm := kids_in (hR.L hpl) hp
        obtain ⟨j, hj⟩ := List.mem_iff_getElem?.1 hm
        have hn : (kidsN t p).Nodup := (kids_sorted (hR.L hpl)).imp fun h => Nat.ne_of_lt h
        rw [kid_nxt (hR.L hpl) (hR.le hpl) hj]
        simp only [Option.bind_some, hkp]
        rw [nxtL_get hn hj]
    have h6 : rc t 0 t.length i = ⟨(rc t 0 t.length i).par, (rc t 0 t.length i).fst, (rc t 0 t.length i).lst, (rc t 0 t.length i).prv, (rc t 0 t.length i).nxt, (bs0 t i).ty, (bs0 t i).atom, (bs0 t i).data, (bs0 t i).ns, (bs0 t i).attrs⟩ := rfl
    rw [h6, e1, e2, e3, e4, e5]
    simp only [Fo.mk1, hu, hk, List.head?_eq_getElem?, getLast_get]
  · rw [List.getElem?_eq_none (by rw [store, stp_len]; omega), List.getElem?_eq_none (by show (tab _ _).length ≤ i; rw [tab_len]; exact Nat.le_of_not_lt hi)]
theorem attrH_map (l : List Attr) : (l.map hattr).map attrH = l := by
  rw [List.map_map]
  exact (List.map_congr_left fun a _ => rfl).trans (List.map_id l)
/-- A node's label tells what it is. -/
theorem kn_base {v : Node} {i : Nat} (h : RN t i v) : kn (base v) = ⟨v.kind, v.tag, v.text, v.attrs, 0⟩ := by
  rcases h.kd with k | k | k | k | k
  · have h4 := h.k4 (by omega)
    have h7 := h.k7 k
    simp [base, kn, k, h4, h7]
  · have h4 := h.k4 (by omega)
    simp [base, kn, k, h4]
  · have h3 := h.k3 k
    have hm := attrH_map v.attrs
    rw [List.map_map] at hm
    simp [base, kn, k, h3.1, hm]
  · have h4 := h.k4 (by omega)
    simp [base, kn, k, h4]
  · have h4 := h.k4 (by omega)
    simp [base, kn, k, h4]
theorem kn_bs0 (hR : RT t) {i : Nat} {v : Node} (hv : t[i]? = some v) : kn (bs0 t i) = ⟨v.kind, v.tag, v.text, v.attrs, 0⟩ := by
  simp only [bs0, hv]
  exact kn_base (hR.node i v hv)
theorem bs0_attrs (hR : RT t) (i : Nat) : (bs0 t i).attrs.length ≤ 20 := by
  simp only [bs0]
  cases hv : t[i]? with
  | none => simp [base]
  | some v =>
    simp only [base]
    split
    · simp
    split
    · simp
    split
    · simp
    split
    · simp
    · have hk := (hR.node i v hv).kd
      have := (hR.node i v hv).k3 (by omega)
      simpa using this.2.1
/-- Kids end within as many levels as there are nodes. -/
theorem ht_kids (hR : RT t) : ∀ (n x : Nat), x < t.length → sz t x ≤ n → Ht (FT t).kids n x
  | 0, x, hx, h => by have := hR.sz1 hx; omega
  | n + 1, x, hx, h => fun y hy => by
    have hk : (FT t).kids x = kidsN t x := if_pos hx
    rw [hk] at hy
    have h1 := kids_mem (hR.L hx) (Nat.le_refl _) (by have := hR.sz1 hx; omega) hy
    have h2 := hR.le hx
    refine ht_kids hR n y (by omega) ?_
    obtain ⟨_, _, _, _, h3⟩ := (hR.L hx).ok y (by omega) h1.2
    omega
/-- What is beneath a node stands behind it. -/
theorem ids_tree (hR : RT t) : ∀ (n x : Nat), x < t.length → sz t x ≤ n → idsF (FT t).kids n x = List.range' x (sz t x)
  | 0, x, hx, h => by have := hR.sz1 hx; omega
  | n + 1, x, hx, h => by
    have hk : (FT t).kids x = kidsN t x := if_pos hx
    have h1 := hR.sz1 hx
    have h2 := hR.le hx
    simp only [idsF, hk]
    have key : ∀ f k, x < k → x + sz t x ≤ k + f → k ≤ x + sz t x → (kidsF t f k (x + sz t x)).flatMap (idsF (FT t).kids n) = List.range' k (x + sz t x - k) := by
      intro f
      induction f with
      | zero =>
        intro k hk1 hk2 hk3
        rw [show x + sz t x - k = 0 by omega]
        rfl
      | succ f ih =>
        intro k hk1 hk2 hk3
        simp only [kidsF]
        by_cases hlt : k < x + sz t x
        · rw [if_pos hlt, List.flatMap_cons]
          obtain ⟨_, _, _, g1, g2⟩ := (hR.L hx).ok k (by omega) hlt
          rw [ids_tree hR n k (by omega) (by omega), ih (k + sz t k) (by omega) (by omega) (by omega), List.range'_append_1]
          congr 1
          omega
        · rw [if_neg hlt, show x + sz t x - k = 0 by omega]
          rfl
    unfold kidsN
    rw [key (sz t x) (x + 1) (by omega) (by omega) (by omega)]
    rw [show sz t x = (x + sz t x - (x + 1)) + 1 by omega, List.range'_succ]
    congr 2
    omega
theorem nodes_tree (hR : RT t) : ∀ (n x : Nat), x < t.length → sz t x ≤ n → nodesF (FT t).kids (fun i => kn (bs0 t i)) n x = (t.drop x).take (sz t x)
  | 0, x, hx, h => by have := hR.sz1 hx; omega
  | n + 1, x, hx, h => by
    have hk : (FT t).kids x = kidsN t x := if_pos hx
    have h1 := hR.sz1 hx
    have h2 := hR.le hx
    simp only [nodesF, hk]
    have key : ∀ f k, x < k → x + sz t x ≤ k + f → k ≤ x + sz t x → (kidsF t f k (x + sz t x)).flatMap (nodesF (FT t).kids (fun i => kn (bs0 t i)) n) = (t.drop k).take (x + sz t x - k) := by
      intro f
      induction f with
      | zero =>
        intro k hk1 hk2 hk3
        rw [show x + sz t x - k = 0 by omega]
        rfl
      | succ f ih =>
        intro k hk1 hk2 hk3
        simp only [kidsF]
        by_cases hlt : k < x + sz t x
        · rw [if_pos hlt, List.flatMap_cons]
          obtain ⟨_, _, _, g1, g2⟩ := (hR.L hx).ok k (by omega) hlt
          rw [nodes_tree hR n k (by omega) (by omega), ih (k + sz t k) (by omega) (by omega) (by omega)]
          have e : x + sz t x - k = sz t k + (x + sz t x - (k + sz t k)) := by omega
          rw [e, List.take_add, List.drop_drop]
        · rw [if_neg hlt, show x + sz t x - k = 0 by omega]
          rfl
    unfold kidsN
    rw [key (sz t x) (x + 1) (by omega) (by omega) (by omega)]
    obtain ⟨v, hv⟩ := get_lt (l := t) (k := x) hx
    obtain ⟨u, hu, hsz, _, _⟩ := hR.lam.ok x (Nat.zero_le _) hx
    rw [hv] at hu
    obtain rfl : v = u := Option.some.inj hu
    have hkn := kn_bs0 hR hv
    have hdr : t.drop x = v :: t.drop (x + 1) := by
      obtain ⟨hlt, he⟩ := List.getElem?_eq_some_iff.1 hv
      rw [List.drop_eq_getElem_cons hlt, he]
    have e0 : sz t x = (x + sz t x - (x + 1)) + 1 := by omega
    rw [hkn, hdr]
    conv => rhs; rw [e0, List.take_succ_cons]
    congr 1
    have hlen : ((t.drop (x + 1)).take (x + sz t x - (x + 1))).length = x + sz t x - (x + 1) := by simp; omega
    rw [hlen]
    cases v
    simp only at hsz ⊢
    rw [hsz]
    congr 1
    omega
end
/-- A copy reads as what it is a copy of. -/
theorem kn_cpl {a b : HN} (h : cpl a b) : kn a = kn b := by
  obtain ⟨h1, _, h3, _, h5⟩ := h
  simp only [kn, h1, h3, h5]
theorem nodes_cp {F : Fo} {L : Nat → HN} {K : Nat → List Nat} {B : Nat → HN} {lo hi : Nat} : ∀ {n c x : Nat}, Cp F L K B lo hi n c x → nodesF F.kids (fun i => kn (L i)) n c = nodesF K (fun i => kn (B i)) n x
  | 0, _, _, h => h.elim
  | n + 1, c, x, ⟨_, h3, h4⟩ => by
    have key : ∀ {l m : List Nat}, F2 (Cp F L K B lo hi n) l m → l.flatMap (nodesF F.kids (fun i => kn (L i)) n) = m.flatMap (nodesF K (fun i => kn (B i)) n) := by
      intro l m h
      induction h with
      | nil => rfl
      | cons h t ih => rw [List.flatMap_cons, List.flatMap_cons, ih, nodes_cp h]
    simp only [nodesF, key h4, kn_cpl h3]
theorem ids_cp_len {F : Fo} {L : Nat → HN} {K : Nat → List Nat} {B : Nat → HN} {lo hi : Nat} {n c x : Nat} (h : Cp F L K B lo hi n c x) : (idsF F.kids n c).length = (idsF K n x).length := by
  rw [← nodesF_len (N := fun i => kn (L i)), nodes_cp h, nodesF_len]
theorem ht_cp {F : Fo} {L : Nat → HN} {K : Nat → List Nat} {B : Nat → HN} {lo hi : Nat} : ∀ {n c x : Nat}, Cp F L K B lo hi n c x → Ht F.kids n c
  | 0, _, _, h => h.elim
  | n + 1, c, x, ⟨_, _, h4⟩ => fun y hy => by
    have key : ∀ {l m : List Nat}, F2 (Cp F L K B lo hi n) l m → ∀ y ∈ l, Ht F.kids n y := by
      intro l m h
      induction h with
      | nil => intro y hy; cases hy
      | cons h t ih =>
        intro y hy
        rcases List.mem_cons.1 hy with rfl | hy
        · exact ht_cp h
        · exact ih y hy
    exact key h4 y hy
end Go.Proofs.Ytfmlpodcldhgdaa.V
